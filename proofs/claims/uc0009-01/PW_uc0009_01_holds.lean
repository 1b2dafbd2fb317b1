import PyProof.Rows.All
import Wide.All
import OpenK.AllK
import Wide.FinOn
import PySem.Challenge.RW_uc0009_01
open PySem PySem.W PyProof.Rows
set_option Elab.async false
set_option maxRecDepth 100000
set_option rowWalk.seconds 0
/-! HD -/
namespace Mine
set_option maxRecDepth 100000 in
set_option maxHeartbeats 8000000 in
open_top hd for PySem.Challenge.rw_uc0009_01
end Mine

/-! PRE -/
namespace Mine
noncomputable abbrev LS : List Str := looseW Mine.hd.view_39 [Str.ofString "_twin_re_1", Str.ofString "_twin_re_2"]
noncomputable abbrev PG : Program := PySem.Challenge.rw_uc0009_01.row.prog
noncomputable abbrev KF (w : World) : Frag := Mine.hd.heap_39 w.params
/-- a contract of a def: called from any def's frame it hands back R -/
abbrev Ctr (w : World) (mean : ExcName → Option Value) (mg mb : Str → Option Value) (f : Addr) (news : List (Addr × Obj)) (k : Nat) (pre : Prop) (vs : List Value) (R : Tok → Value) : Prop :=
  ∀ (dp un : Nat) (gd : Option (List Code)) (cn : Str) (cs : Scope) (a : Addr) (ccd : Value) (cl : List (Str × Addr)) (outer : List Env) (A₀ : Around) (base h₀ : Heap) (L : Addr) (m : Str → Option Value) (s : Shared) (Q E : Value → Shared → Prop),
    Below A₀ base outer h₀ → Fr h₀ L s.heap m → Frag.In (Mine.hd.heap_39 w.params) h₀ → News h₀ L s.heap news → Top Mine.hd.view_39 (looseW Mine.hd.view_39 [Str.ofString "_twin_re_1", Str.ofString "_twin_re_2"]) mean mg mb h₀ → cs.kind = .function →
    pre → dp + k < recursionLimit → un + 20 * k < cLine → CbRet h₀ L m news s Q R →
      wpAny (model PySem.Challenge.rw_uc0009_01.row.prog w) (ktrTop dp un gd cn cs L a ccd cl outer) (call (.ref f) vs) Q E s
end Mine
namespace Mine
/-- a frame's map, written plainly -/
def mOf : List (Str × Value) → Str → Option Value
  | [], _ => none
  | (a, v) :: r, y => if y = a then some v else mOf r y
theorem lookup_mOf : ∀ (l : List (Str × Value)) (y : Str), l.lookup y = mOf l y
  | [], _ => rfl
  | (a, v) :: r, y => by
    rw [List.lookup_cons]
    show _ = if y = a then some v else mOf r y
    rw [← lookup_mOf r y]
    by_cases h : y = a
    · simp [h]
    · rw [if_neg h, beq_eq_false_iff_ne.mpr h]
theorem fr_binds {g h : Heap} {L : Addr} {l l' : List (Str × Value)} (F : Fr g L h (fun y => l.lookup y)) (e : l = l') : Fr g L h (mOf l') := by
  subst e
  have : (fun y => l.lookup y) = mOf l := funext fun y => lookup_mOf l y
  rw [this] at F
  exact F
theorem In_at {K : Frag} {h : Heap} {a : Addr} {o : Obj} (X : K.In h) (e : K.lookup a = some o) : h.get? a = some o := X _ _ e
theorem look_in {K : Frag} {a : Addr} {o : Obj} {P : Prop} (e : K.lookup a = some o) (h : K.lookup a = some o → P) : P := h e
end Mine
namespace Mine
/-- the generators grown by finished ones -/
def GExt (g g' : Array GenState) : Prop := ∃ e : List GenState, g' = g ++ e.toArray ∧ ∀ y ∈ e, y.bare = true
theorem GExt.refl (g : Array GenState) : GExt g g := ⟨[], by simp, by simp⟩
theorem GExt.trans {a b c : Array GenState} (x : GExt a b) (y : GExt b c) : GExt a c := by
  obtain ⟨e, rfl, h⟩ := x
  obtain ⟨f, rfl, k⟩ := y
  refine ⟨e ++ f, by simp, fun z hz => ?_⟩
  rcases List.mem_append.mp hz with hz | hz
  · exact h z hz
  · exact k z hz
theorem GExt.push (g : Array GenState) : GExt g (g.push .finished) := ⟨[.finished], by simp, by simp [GenState.bare]⟩
theorem GExt.bare {a b : Array GenState} (x : GExt a b) (h : AllBare a) : AllBare b := by
  obtain ⟨e, rfl, k⟩ := x
  intro y hy
  rcases Array.mem_append.mp hy with hy | hy
  · exact h y hy
  · exact k y (by simpa using hy)
abbrev CtrG (w : World) (mean : ExcName → Option Value) (mg mb : Str → Option Value) (f : Addr) (news : List (Addr × Obj)) (k : Nat) (pre : Prop) (vs : List Value) (R : Tok → Value) : Prop :=
  ∀ (dp un : Nat) (gd : Option (List Code)) (cn : Str) (cs : Scope) (a : Addr) (ccd : Value) (cl : List (Str × Addr)) (outer : List Env) (A₀ : Around) (base h₀ : Heap) (L : Addr) (m : Str → Option Value) (s : Shared) (Q E : Value → Shared → Prop),
    Below A₀ base outer h₀ → Fr h₀ L s.heap m → Frag.In (Mine.hd.heap_39 w.params) h₀ → News h₀ L s.heap news → Top Mine.hd.view_39 (looseW Mine.hd.view_39 [Str.ofString "_twin_re_1", Str.ofString "_twin_re_2"]) mean mg mb h₀ → cs.kind = .function →
    pre → dp + k < recursionLimit → un + 20 * k < cLine → (∀ (t : Tok) (h' : Heap) (tk' : Nat) (gens' : Array GenState), Fr h₀ L h' m → News h₀ L h' news → GExt s.gens gens' → Q (R t) { s with heap := h', toks := tk', gens := gens' }) →
      wpAny (model PySem.Challenge.rw_uc0009_01.row.prog w) (ktrTop dp un gd cn cs L a ccd cl outer) (call (.ref f) vs) Q E s
end Mine

/-! GEN -/
namespace Mine
section
variable {M : Model} {A : Around} {R : GenEnd} {Y : Protocol} {n : Nat} {s₀ : Shared} {c : Code} {fs : List PySem.Frame} {s : Shared} {env : Env}
  {K : Flow → Sem Fin} {H : Value → Sem Fin} {gd : Bool → Bool} {lv : List Value → List Value}

theorem seg_stmt_ {st : Stmt} (h : wpAny M (A.over c fs) (exec st env) (fun f s' => Seg M A R Y n s₀ c (K f) fs s') (fun _ _ => False) s) :
    Seg M A R Y n s₀ c ((exec st env).wrap K H gd lv) fs s := seg_wrap (wpAny_mono h (fun _ _ x => x) fun _ _ x => x.elim)

theorem seg_If_ {test : PySem.Expr} {body orelse : List Stmt} {pos : Pos}
    (h : wpAny M (A.over c fs) (isTrue test env (eval test env)) (fun b s' => Seg M A R Y n s₀ c ((if b = true then execs body env else execs orelse env).wrap K H gd lv) fs s') (fun _ _ => False) s) :
    Seg M A R Y n s₀ c ((exec (.If test body orelse pos) env).wrap K H gd lv) fs s := by
  rw [exec_If]
  show Seg M A R Y n s₀ c (.at pos fun _ => ((isTrue test env (eval test env)) >>= fun b => if b = true then execs body env else execs orelse env).wrap K H gd lv) fs s
  refine seg_at ?_
  rw [Sem.bind_eq_wrap', Sem.wrap_wrap]
  exact seg_wrap (wpAny_mono h (fun b s' h' => h') fun _ _ x => x.elim)

/-- the frame that stands under a for's own activation -/
def forK (env : Env) (K : Flow → Sem Fin) (H : Value → Sem Fin) (gd : Bool → Bool) (lv : List Value → List Value) : Result → Sem Fin := fun r =>
  ((match r with | .ok f => (.pure f : Sem Flow) | .error e => .raise e).onRaise fun (x : Value) => do
        if (← field x 1) == Value.none then unsupported "frame.own-activation:exception-without-traceback"
        setFlight x env.frame).wrap K H gd lv
theorem seg_For_ {target iter : PySem.Expr} {body : List Stmt} {pos : Pos}
    (h : wpAny M (A.over c fs) (eval iter env) (fun x s₁ => wpAny M (A.over c fs) (foldedSetIterable iter env x) (fun x s₂ => wpAny M (A.over c fs) (pyIter x) (fun it s₃ =>
      ∀ p, Seg M A R Y n s₀ (.forLoop target it body [] env) (M.den (.forLoop target it body [] env)) (.ret (forK env K H gd lv) none (gd false) (lv []) c p [] :: fs) s₃) (fun _ _ => False) s₂) (fun _ _ => False) s₁) (fun _ _ => False) s) :
    Seg M A R Y n s₀ c ((exec (.For target iter body [] pos) env).wrap K H gd lv) fs s := by
  rw [exec_For]
  refine seg_bind_wrap (wpAny_standAt ?_)
  refine seg_bind_wrap (wpAny_mono h (fun x s₁ h₁ => ?_) fun _ _ x => x.elim)
  refine seg_bind_wrap (wpAny_mono h₁ (fun x s₂ h₂ => ?_) fun _ _ x => x.elim)
  refine seg_bind_wrap (wpAny_standAt ?_)
  refine seg_bind_wrap (wpAny_holding (wpAny_mono h₂ (fun it s₃ h₃ => ?_) fun _ _ x => x.elim))
  exact seg_call h₃
end
section
variable {prog : Program} {w : World} {A : Around} {R : GenEnd} {Y : Protocol} {n : Nat} {s₀ : Shared} {fs : List PySem.Frame} {s : Shared} {env : Env}
def turnK (target : PySem.Expr) (it : Value) (body : List Stmt) (env : Env) : Flow → Sem Fin := fun f => match f with
  | .next | .cont => .pure (.again (.forLoop target it body [] env))
  | .brk => .pure (.done .next)
  | .ret v => .pure (.done (.ret v))
theorem seg_forLoop_ {target : PySem.Expr} {it : Value} {body : List Stmt}
    (h : wpAny (model prog w) (A.over (.forLoop target it body [] env) fs) (pyNext it) (fun r s₁ => match r with
      | none => Seg (model prog w) A R Y n s₀ (.forLoop target it body [] env) (.pure (.again (.block [] env))) fs s₁
      | some v => wpAny (model prog w) (A.over (.forLoop target it body [] env) fs) (letOwnedTupleGo target it v) (fun _ s₂ =>
          wpAny (model prog w) (A.over (.forLoop target it body [] env) fs) (assign target env v) (fun _ s₃ =>
            ∀ (H : Value → Sem Fin), Seg (model prog w) A R Y n s₀ (.forLoop target it body [] env) ((execs body env).wrap (turnK target it body env) H id id) fs s₃) (fun _ _ => False) s₂) (fun _ _ => False) s₁) (fun _ _ => False) s) :
    Seg (model prog w) A R Y n s₀ (.forLoop target it body [] env) ((model prog w).den (.forLoop target it body [] env)) fs s := by
  show Seg _ A R Y n s₀ _ ((forTurn target it body [] env).onRaise (fun x => do noteFrame x env; theTreesLotGoes x)) fs s
  rw [Sem.onRaise_eq_wrap]
  unfold forTurn
  refine seg_bind_wrap (wpAny_standAt ?_)
  refine seg_bind_wrap (wpAny_onRaise (wpAny_mono h (fun r s₁ h₁ => ?_) fun _ _ x => x.elim))
  cases r with
  | none => exact h₁
  | some v =>
    refine seg_bind_wrap (wpAny_mono h₁ (fun _ s₂ h₂ => ?_) fun _ _ x => x.elim)
    refine seg_bind_wrap (wpAny_mono h₂ (fun _ s₃ h₃ => ?_) fun _ _ x => x.elim)
    rw [Sem.bind_eq_wrap', Sem.wrap_wrap]
    exact Eq.mpr (congrArg (fun t => Seg (model prog w) A R Y n s₀ (.forLoop target it body [] env) t fs s₃) (Sem.wrap_congr (execs body env) (fun g => id (id g)) (fun l => id (id l)) (K' := turnK target it body env)
      (H' := fun e => (noteFrame e env >>= fun _ => theTreesLotGoes e).bind (fun _ => .raise e)) (fun f => by cases f <;> rfl) fun e => rfl)) (h₃ _)
theorem seg_block_nil {c : Code} {k : Result → Sem Fin} {hd : Option Value} {g : Bool} {l : List Value} {c₁ : Code} {p₁ : Pos} {kp : List Value} (h : Seg (model prog w) A R Y n s₀ c₁ (k (.ok .next)) fs s) :
    Seg (model prog w) A R Y n s₀ c (.pure (.again (.block [] env))) (.ret k hd g l c₁ p₁ kp :: fs) s :=
  seg_again rfl (seg_leaf (.ok .next) h)
theorem forK_next {K : Flow → Sem Fin} {H : Value → Sem Fin} {gd : Bool → Bool} {lv : List Value → List Value} : forK env K H gd lv (.ok .next) = K .next := rfl
end
end Mine

/-! GEN2 -/
namespace Mine
def funBody : Stmt → List Stmt
  | .FunctionDef _ _ b _ _ _ _ _ _ _ => b
  | _ => []
def funScope : Stmt → Scope
  | .FunctionDef _ _ _ _ _ _ sc _ _ _ => sc
  | _ => { kind := .function, names := [], isGenerator := false, isCoroutine := false }
def forBody : Stmt → List Stmt
  | .For _ _ b _ _ => b
  | _ => []
def forTgt : Stmt → PySem.Expr
  | .For t _ _ _ _ => t
  | _ => .Constant .none 0 default
noncomputable def stAt (l : List Stmt) (i : Nat) : Stmt := l.getD i (.Pass default)
noncomputable def iterB : List Stmt := funBody (stAt PG.main.body 2)
noncomputable def iterS : Scope := funScope (stAt PG.main.body 2)
noncomputable def iterLB : List Stmt := forBody (stAt iterB 2)
noncomputable def iterLT : PySem.Expr := forTgt (stAt iterB 2)
noncomputable abbrev iterE (L : Addr) : Env := envX (Str.ofString "_iter_escaped_chars") iterS L 38 (.ref 37) []

/-- what the generator still yields: place and text -/
def yl : Bool → Nat → List Nat → List (Nat × List Nat)
  | esc, i, [] => if esc then [(i - 1, [92])] else []
  | true, i, c :: cs => (i, [92, c]) :: yl false (i + 1) cs
  | false, i, c :: cs => if c = 92 then yl true (i + 1) cs else (i, [c]) :: yl false (i + 1) cs

def SinceK (fp : List Addr) (s₀ s : Shared) : Prop := ∃ h tk, s = { s₀ with heap := h, toks := tk } ∧ ∀ b o, b ∉ fp → s₀.heap.get? b = some o → h.get? b = some o
theorem SinceK.refl (fp : List Addr) (s : Shared) : SinceK fp s s := ⟨_, _, rfl, fun _ _ _ e => e⟩
theorem SinceK.step {fp : List Addr} {s₀ s : Shared} (x : SinceK fp s₀ s) {h : Heap} {tk : Nat} (hk : ∀ b o, b ∉ fp → s.heap.get? b = some o → h.get? b = some o) : SinceK fp s₀ { s with heap := h, toks := tk } := by
  obtain ⟨h₁, tk₁, rfl, k⟩ := x
  exact ⟨h, tk, rfl, fun b o hb e => hk b o hb (k b o hb e)⟩

def gP (Lg nB : Addr) (ys : List (Nat × List Nat)) : Protocol := fun k s₀ v s₁ next =>
  ∃ (T : Addr) (tp u : Tok) (p : Nat) (cs : List Nat) (fp own : List Addr), v = .ref T ∧ ys[ys.length - 1 - k]? = some (p, cs) ∧
    s₁.heap.IsTuple T #[.int p tp, .str ⟨cs.toArray⟩ u] ∧ SinceK fp s₀ s₁ ∧ (∀ b ∈ fp, b = Lg ∨ nB ≤ b) ∧ (∀ b ∈ own, b = Lg ∨ nB ≤ b) ∧ (∀ b ∈ own, ∃ o, s₁.heap.get? b = some o) ∧
    ∀ s'' : Shared, (∀ b ∈ own, ∀ o, s₁.heap.get? b = some o → s''.heap.get? b = some o) → next (.send .none) s''
def gR (Lg nB : Addr) : GenEnd := fun n s₀ r s₁ => r = .ok (.ret .none) ∧ (n = 0 ∧ ∃ fp, SinceK fp s₀ s₁ ∧ (∀ b ∈ fp, b = Lg ∨ nB ≤ b))

structure GS (Lg e it : Addr) (x : Str) (t : Tok) (i : Nat) (esc : Bool) (p : Nat) (h : Heap) : Prop where
  ns : ∃ m, h.Ns Lg m ∧ m (Str.ofString "escape") = some (.bool esc) ∧ ∃ tp, m (Str.ofString "pos") = some (.int p tp)
  en : ∃ old, IsEnum h e it i old
  st : h.IsStrIter it "str_ascii_iterator" x t i

theorem GS.keep {Lg e it : Addr} {x : Str} {t : Tok} {i : Nat} {esc : Bool} {p : Nat} {h h' : Heap} (g : GS Lg e it x t i esc p h) (hk : ∀ b ∈ [Lg, e, it], ∀ o, h.get? b = some o → h'.get? b = some o) : GS Lg e it x t i esc p h' := by
  obtain ⟨⟨m, hm, r⟩, ⟨old, ho⟩, st⟩ := g
  refine ⟨⟨m, hm.at' fun o e => hk _ (by simp) o e, r⟩, ⟨old, hk _ (by simp) _ ho⟩, ?_⟩
  obtain ⟨o, h1, h2⟩ := st
  exact ⟨o, hk _ (by simp) o h1, h2⟩

theorem kind_pos (L : Addr) : (iterE L).kindOf (Str.ofString "pos") = some .local := by rfl
theorem kind_ch (L : Addr) : (iterE L).kindOf (Str.ofString "ch") = some .local := by rfl
theorem kind_escape (L : Addr) : (iterE L).kindOf (Str.ofString "escape") = some .local := by rfl

section
variable {prog : Program} {w : World} {A : Around} {E : Value → Shared → Prop} {s : Shared} {env : Env}
theorem eval_Tuple2 {e1 e2 : PySem.Expr} {k : Nat} {pos : Pos} {Q : Value → Shared → Prop}
    (h : wpAny (model prog w) A (eval e1 env) (fun a s₁ => wpAny (model prog w) A (eval e2 env) (fun b s₂ => Q (.ref s₂.heap.objs.size) { s₂ with heap := s₂.heap.push { cls := .type "tuple", data := .seq #[a, b] } }) E s₁) E s)
    (hb : backTo pos (starEach [e1, e2] env) = [(false, eval e1 env), (false, eval e2 env)] := by rfl) : wpAny (model prog w) A (eval (.Tuple [e1, e2] k pos) env) Q E s := by
  show wpAny _ _ (do standAt pos; newTuple (← spliced (backTo pos (starEach [e1, e2] env)))) Q E s
  rw [hb]
  refine wpAny_bind (wpAny_standAt (wpAny_bind ?_))
  show wpAny _ _ (do let v ← eval e1 env; let here ← (pure [v] : Sem (List Value)); return here ++ (← holding here (spliced [(false, eval e2 env)]))) _ _ _
  refine wpAny_bind (wpAny_mono h (fun a s₁ h₁ => ?_) fun _ _ x => x)
  refine wpAny_bind (wpAny_pure ?_)
  refine wpAny_bind (wpAny_holding ?_)
  show wpAny _ _ (do let v ← eval e2 env; let here ← (pure [v] : Sem (List Value)); return here ++ (← holding here (spliced []))) _ _ _
  refine wpAny_bind (wpAny_mono h₁ (fun b s₂ h₂ => ?_) fun _ _ x => x)
  refine wpAny_bind (wpAny_pure (wpAny_bind (wpAny_holding (Calls.spliced_nil (wpAny_pure (wpAny_pure ?_))))))
  exact wpAny_newTuple h₂ (by simp [sizeLine])
end
theorem IsTuple_push {h : Heap} {vs : Array Value} : (h.push { cls := .type "tuple", data := .seq vs }).IsTuple h.objs.size vs := ⟨_, Heap.get?_push_size _ rfl, rfl, _, rfl⟩
theorem yl_idx {ys pre : List (Nat × List Nat)} {y : Nat × List Nat} {r : List (Nat × List Nat)} (h : ys = pre ++ y :: r) : ys[ys.length - 1 - r.length]? = some y := by
  subst h
  have : (pre ++ y :: r).length - 1 - r.length = pre.length := by simp
  rw [this]; simp

section
variable {w : World} {A : Around}
theorem gen_loop (hh : A.handled = none) {Lg nB e it : Addr} {x : Str} {t : Tok} {ys : List (Nat × List Nat)} (hLe : Lg ≠ e) (hLi : Lg ≠ it) (hei : e ≠ it) (heB : nB ≤ e) (hiB : nB ≤ it)
    {c₁ : Code} {p₁ : Pos} {l : List Value} {kp : List Value} {K : Flow → Sem Fin} {H : Value → Sem Fin} {lv : List Value → List Value}
    (hK : ∀ (s₀ s : Shared) (esc : Bool) (p : Nat), (∃ m, s.heap.Ns Lg m ∧ m (Str.ofString "escape") = some (.bool esc) ∧ ∃ tp, m (Str.ofString "pos") = some (.int p tp)) → (esc = true → p + 1 = x.cps.size) → (∃ pre, ys = pre ++ yl esc x.cps.size []) → SinceK [Lg, e, it] s₀ s →
      Seg (model PG w) A (gR Lg nB) (gP Lg nB ys) (yl esc x.cps.size []).length s₀ c₁ (K .next) [] s) :
    ∀ (cs : List Nat) (i : Nat) (esc : Bool) (p : Nat) (s₀ s : Shared), x.cps.toList.drop i = cs → i + cs.length = x.cps.size → GS Lg e it x t i esc p s.heap → (esc = true → p + 1 = i) → (∃ pre, ys = pre ++ yl esc i cs) → SinceK [Lg, e, it] s₀ s →
      Seg (model PG w) A (gR Lg nB) (gP Lg nB ys) (yl esc i cs).length s₀ (.forLoop iterLT (.ref e) iterLB [] (iterE Lg)) ((model PG w).den (.forLoop iterLT (.ref e) iterLB [] (iterE Lg)))
        [.ret (forK (iterE Lg) K H id lv) none false l c₁ p₁ kp] s := by
  have hh' : (A.over (.forLoop iterLT (.ref e) iterLB [] (iterE Lg)) [.ret (forK (iterE Lg) K H id lv) none false l c₁ p₁ kp]).handled = none := hh
  have W := WalksT.enumerateD (prog := PG) (w := w) (A := A.over (.forLoop iterLT (.ref e) iterLB [] (iterE Lg)) [.ret (forK (iterE Lg) K H id lv) none false l c₁ p₁ kp])
    (Draws.strAscii (A := (A.over (.forLoop iterLT (.ref e) iterLB [] (iterE Lg)) [.ret (forK (iterE Lg) K H id lv) none false l c₁ p₁ kp]).in1) hh it x t) e hei (show e ∉ [it] by simpa using hei) (show it ∈ [it] by simp)
  have hfp : ∀ b ∈ [Lg, e, it], b = Lg ∨ nB ≤ b := fun b hb => by
    simp only [List.mem_cons, List.not_mem_nil, or_false] at hb
    rcases hb with rfl | rfl | rfl
    · exact .inl rfl
    · exact .inr heB
    · exact .inr hiB
  intro cs
  induction cs with
  | nil =>
    intro i esc p s₀ s hdrop hlen hg hp hys hs
    have hi : i = x.cps.size := by simpa using hlen
    subst hi
    refine seg_forLoop_ (W.done s _ _ ⟨hg.en, hg.st⟩ fun h' tk hk => ?_)
    refine seg_block_nil ?_
    rw [forK_next]
    obtain ⟨m, hm, hr⟩ := hg.ns
    exact hK s₀ _ esc p ⟨m, hm.at' fun o y => hk _ o (by simp [hLe, hLi]) y, hr⟩ hp hys (hs.step fun b o hb y => hk b o (fun z => hb (List.mem_cons_of_mem _ z)) y)
  | cons c cs ih =>
    intro i esc p s₀ s hdrop hlen hg hp hys hs
    have hlt : i < x.cps.size := by simp at hlen; omega
    have hci : x.cps[i]? = some c := by
      have := congrArg (fun l => l[0]?) hdrop
      simpa using this
    have hdrop' : x.cps.toList.drop (i + 1) = cs := by
      have := congrArg (List.drop 1) hdrop
      simpa [List.drop_drop, Nat.add_comm] using this
    have hlen' : (i + 1) + cs.length = x.cps.size := by simp at hlen; omega
    refine seg_forLoop_ (W.item i s _ _ hlt ⟨hg.en, hg.st⟩ fun T vals h₁ tk₁ hP hT hTup hMid hk₁ => ?_)
    refine W.go _ _ _ i T _ _ _ hMid fun h₂ hst₂ hk₂ => ?_
    obtain ⟨tp, v, ⟨c', u, hc', rfl⟩, rfl⟩ := hP
    obtain rfl : c = c' := Option.some.inj (hci.symm.trans hc')
    obtain ⟨m, hm, hme, tp₀, hmp⟩ := hg.ns
    have hTlt : T < h₁.objs.size := by obtain ⟨o, ho, _⟩ := hTup; exact Heap.lt_size ho
    have hk₂' : ∀ b o, b ∉ [e, it] → h₁.get? b = some o → h₂.get? b = some o := hk₂
    refine wpAny_assign_Tuple hh' (items := #[.int i tp, .str ⟨#[c]⟩ u]) (by
      obtain ⟨o, ho, r⟩ := hTup
      exact ⟨o, hk₂' T o (by simp [hMid.2.2.1, hMid.2.2.2]) ho, r⟩) rfl rfl fun h₃ hx₃ => ?_
    replace hx₃ : Heap.ExtBut h₂.objs.size h₂ h₃ := hx₃
    have k23 : ∀ b o, h₂.get? b = some o → h₃.get? b = some o := fun b o y => hx₃ b o (Nat.ne_of_lt (Heap.lt_size y)) y
    have k02 : ∀ b o, b ∉ [e, it] → s.heap.get? b = some o → h₂.get? b = some o := fun b o hb y => hk₂' b o hb (hk₁ b o hb y)
    have hLn : Lg ∉ [e, it] := by simp [hLe, hLi]
    have hn₃ : h₃.Ns Lg m := hm.at' fun o y => k23 _ o (k02 _ o hLn y)
    show wpAny _ _ (do holding [_] (assign (.Name _ _) (iterE Lg) (.int i tp)); do holding [] (assign (.Name _ _) (iterE Lg) (.str ⟨#[c]⟩ u)); pure ()) _ _ _
    refine wpAny_bind (wpAny_holding (wpAny_assign_Name (wpAny_storeName_local (kind_pos Lg) hn₃ (fun h₄ hn₄ hs₄ => ?_))))
    replace hs₄ : Heap.SameBut Lg h₃ h₄ := hs₄
    refine wpAny_bind (wpAny_holding (wpAny_assign_Name (wpAny_storeName_local (kind_ch Lg) hn₄ (fun h₅ hn₅ hs₅ => wpAny_pure ?_))))
    replace hs₅ : Heap.SameBut Lg h₄ h₅ := hs₅
    have k35 : ∀ b o, b ≠ Lg → h₃.get? b = some o → h₅.get? b = some o := fun b o hb y => hs₅.extBut b o hb (hs₄.extBut b o hb y)
    have k05 : ∀ b o, b ∉ [Lg, e, it] → s.heap.get? b = some o → h₅.get? b = some o := fun b o hb y =>
      k35 b o (fun z => hb (by simp [z])) (k23 b o (k02 b o (fun z => hb (List.mem_cons_of_mem _ z)) y))
    have en₅ : ∃ old, IsEnum h₅ e it ((i + 1 : Nat) : Int) old := by
      obtain ⟨old, ho⟩ := hst₂.1
      exact ⟨old, k35 e _ (Ne.symm hLe) (k23 e _ ho)⟩
    have st₅ : h₅.IsStrIter it "str_ascii_iterator" x t (i + 1) := by
      obtain ⟨o, ho, r⟩ := hst₂.2
      exact ⟨o, k35 it _ (Ne.symm hLi) (k23 it _ ho), r⟩
    intro H'
    refine seg_execs_cons (seg_If_ (isTrue_plain (wpAny_Name (wpAny_loadName_local rfl (kind_escape Lg) hn₅ (v := .bool esc) (by rw [if_neg (by decide), if_neg (by decide)]; exact hme) (wpAny_truthy_bool ?_)))))
    cases esc with
    | true =>
      simp only [if_true]
      refine seg_execs_cons ?_
      show Seg _ A _ _ ((yl false (i + 1) cs).length + 1) s₀ _ _ _ _
      refine seg_Expr_Yield rfl rfl rfl ?_
      refine eval_Tuple2 (wpAny_Name (wpAny_loadName_local rfl (kind_pos Lg) hn₅ (v := .int i tp) (by rw [if_neg (by decide), if_pos rfl]) ?_))
      refine wpAny_BinOp (Calls.Constant_str (wpAny_Name (wpAny_loadName_local rfl (kind_ch Lg) hn₅ (v := .str ⟨#[c]⟩ u) (by rw [if_pos rfl]) ?_)))
      refine add_str (fun t' tk' => ?_) (Nat.le_of_ble_eq_true rfl)
      intro kap hkap
      obtain ⟨pre, hpre⟩ := hys
      refine ⟨_, tp, t', i, [92, c], [Lg, e, it], [Lg, e, it], rfl, yl_idx hpre, IsTuple_push, ?_, hfp, hfp, ?_, fun s'' hk => hkap .none s'' ?_⟩
      · exact hs.step fun b o hb y => Heap.get?_push_of_some _ (k05 b o hb y)
      · intro b hb
        simp only [List.mem_cons, List.not_mem_nil, or_false] at hb
        rcases hb with rfl | rfl | rfl
        · obtain ⟨o, _, _, ho, _⟩ := hn₅; exact ⟨o, Heap.get?_push_of_some _ ho⟩
        · obtain ⟨_, ho⟩ := en₅; exact ⟨_, Heap.get?_push_of_some _ ho⟩
        · obtain ⟨o, ho, _⟩ := st₅; exact ⟨o, Heap.get?_push_of_some _ ho⟩
      · have kk : ∀ b ∈ [Lg, e, it], ∀ o, h₅.get? b = some o → s''.heap.get? b = some o := fun b hb o y => hk b hb o (Heap.get?_push_of_some _ y)
        have hn₆ := hn₅.at' fun o y => kk Lg (by simp) o y
        show Seg _ A _ _ (yl false (i + 1) cs).length s'' _ _ _ _
        refine seg_execs_cons (seg_stmt_ (wpAny_Assign_Name (Constant_bool (wpAny_storeName_local (kind_escape Lg) hn₆ (fun h₇ hn₇ hs₇ => ?_)))))
        replace hs₇ : Heap.SameBut Lg s''.heap h₇ := hs₇
        refine seg_execs_nil (seg_execs_nil ?_)
        refine seg_again rfl (ih (i + 1) false i s'' _ hdrop' hlen' ⟨⟨_, hn₇, by rw [if_pos rfl], tp, by rw [if_neg (by decide), if_neg (by decide), if_pos rfl]⟩, ?_, ?_⟩ (by simp) ⟨pre ++ [(i, [92, c])], by rw [hpre]; simp [yl]⟩ ?_)
        · obtain ⟨old, ho⟩ := en₅
          exact ⟨old, hs₇.extBut _ _ (Ne.symm hLe) (kk e (by simp) _ ho)⟩
        · obtain ⟨o, ho, r⟩ := st₅
          exact ⟨o, hs₇.extBut _ _ (Ne.symm hLi) (kk it (by simp) _ ho), r⟩
        · exact (SinceK.refl _ _).step fun b o hb y => hs₇.extBut b o (fun z => hb (by simp [z])) y
    | false =>
      simp only [Bool.false_eq_true, if_false]
      refine seg_execs_cons (seg_If_ (wpAny_isTrue_Compare1 (wpAny_Name (wpAny_loadName_local rfl (kind_ch Lg) hn₅ (v := .str ⟨#[c]⟩ u) (by rw [if_pos rfl]) (Calls.Constant_str (eq_str (wpAny_truthy_bool ?_)))))))
      have hceq : ((⟨#[c]⟩ : Str) == Str.ofString "\\") = decide (c = 92) := by
        by_cases h : c = 92
        · subst h; decide
        · rw [decide_eq_false h, beq_eq_false_iff_ne]
          intro z
          apply h
          have z' : (#[c] : Array Nat) = #[92] := congrArg Str.cps z
          simpa using z'
      rw [hceq]
      by_cases h92 : c = 92
      · simp only [h92, decide_true, if_true]
        refine seg_execs_cons (seg_stmt_ (wpAny_Assign_Name (Constant_bool (wpAny_storeName_local (kind_escape Lg) hn₅ (fun h₇ hn₇ hs₇ => ?_)))))
        replace hs₇ : Heap.SameBut Lg h₅ h₇ := hs₇
        refine seg_execs_nil (seg_execs_nil (seg_execs_nil ?_))
        have hy : yl false i (92 :: cs) = yl true (i + 1) cs := by simp [yl]
        rw [hy]
        refine seg_again rfl (ih (i + 1) true i s₀ _ hdrop' hlen' ⟨⟨_, hn₇, by rw [if_pos rfl], tp, by rw [if_neg (by decide), if_neg (by decide), if_pos rfl]⟩, ?_, ?_⟩ (by simp) (by obtain ⟨pre, e⟩ := hys; exact ⟨pre, by rw [e, h92, hy]⟩) ?_)
        · obtain ⟨old, ho⟩ := en₅
          exact ⟨old, hs₇.extBut _ _ (Ne.symm hLe) ho⟩
        · obtain ⟨o, ho, r⟩ := st₅
          exact ⟨o, hs₇.extBut _ _ (Ne.symm hLi) ho, r⟩
        · exact hs.step fun b o hb y => hs₇.extBut b o (fun z => hb (by simp [z])) (k05 b o hb y)
      · simp only [decide_eq_false h92, Bool.false_eq_true, if_false]
        refine seg_execs_cons ?_
        have hy : yl false i (c :: cs) = (i, [c]) :: yl false (i + 1) cs := by simp [yl, h92]
        rw [hy]
        show Seg _ A _ _ ((yl false (i + 1) cs).length + 1) s₀ _ _ _ _
        refine seg_Expr_Yield rfl rfl rfl ?_
        refine eval_Tuple2 (wpAny_Name (wpAny_loadName_local rfl (kind_pos Lg) hn₅ (v := .int i tp) (by rw [if_neg (by decide), if_pos rfl]) ?_))
        refine wpAny_Name (wpAny_loadName_local rfl (kind_ch Lg) hn₅ (v := .str ⟨#[c]⟩ u) (by rw [if_pos rfl]) ?_)
        intro kap hkap
        obtain ⟨pre, hpre⟩ := hys
        rw [hy] at hpre
        refine ⟨_, tp, u, i, [c], [Lg, e, it], [Lg, e, it], rfl, yl_idx hpre, IsTuple_push, ?_, hfp, hfp, ?_, fun s'' hk => hkap .none s'' ?_⟩
        · exact hs.step fun b o hb y => Heap.get?_push_of_some _ (k05 b o hb y)
        · intro b hb
          simp only [List.mem_cons, List.not_mem_nil, or_false] at hb
          rcases hb with rfl | rfl | rfl
          · obtain ⟨o, _, _, ho, _⟩ := hn₅; exact ⟨o, Heap.get?_push_of_some _ ho⟩
          · obtain ⟨_, ho⟩ := en₅; exact ⟨_, Heap.get?_push_of_some _ ho⟩
          · obtain ⟨o, ho, _⟩ := st₅; exact ⟨o, Heap.get?_push_of_some _ ho⟩
        · have kk : ∀ b ∈ [Lg, e, it], ∀ o, h₅.get? b = some o → s''.heap.get? b = some o := fun b hb o y => hk b hb o (Heap.get?_push_of_some _ y)
          have hn₆ := hn₅.at' fun o y => kk Lg (by simp) o y
          show Seg _ A _ _ (yl false (i + 1) cs).length s'' _ _ _ _
          refine seg_execs_nil (seg_execs_nil (seg_execs_nil ?_))
          refine seg_again rfl (ih (i + 1) false i s'' s'' hdrop' hlen' ⟨⟨_, hn₆, by rw [if_neg (by decide), if_neg (by decide)]; exact hme, tp, by rw [if_neg (by decide), if_pos rfl]⟩, ?_, ?_⟩ (by simp) ⟨pre ++ [(i, [c])], by rw [hpre]; simp⟩ (SinceK.refl _ _))
          · obtain ⟨old, ho⟩ := en₅
            exact ⟨old, kk e (by simp) _ ho⟩
          · obtain ⟨o, ho, r⟩ := st₅
            exact ⟨o, kk it (by simp) _ ho, r⟩
end
end Mine

/-! GEN3 -/
namespace Mine
theorem kind_addr (L : Addr) : (iterE L).kindOf (Str.ofString "addr") = some .local := by rfl
section
variable {w : World} {A : Around}
theorem gen_start (hh : A.handled = none) {Lg nB : Addr} {x : Str} {t : Tok} {s : Shared} {m mg mb : Str → Option Value} (hasc : x.cps.all (· < 128) = true)
    (hm : s.heap.Ns Lg m) (ha : m (Str.ofString "addr") = some (.str x t)) (hg : s.heap.Ns mainGlobals mg) (hmiss : mg (Str.ofString "enumerate") = none) (hb : s.heap.Ns builtinsNs mb)
    (hbe : mb (Str.ofString "enumerate") = some (.type "enumerate")) (hLg : Lg ≠ mainGlobals) (hLb : Lg ≠ builtinsNs) (hnB : nB ≤ s.heap.objs.size) :
    Seg (model PG w) A (gR Lg nB) (gP Lg nB (yl false 0 x.cps.toList)) (yl false 0 x.cps.toList).length s (.func iterB (iterE Lg)) ((model PG w).den (.func iterB (iterE Lg))) [] s := by
  refine seg_func ?_
  refine seg_execs_cons (seg_stmt_ (wpAny_Assign_Name (wpAny_Constant_int (wpAny_storeName_local (kind_pos Lg) hm (fun h₁ hn₁ hs₁ => ?_)))))
  replace hs₁ : Heap.SameBut Lg s.heap h₁ := hs₁
  refine seg_execs_cons (seg_stmt_ (wpAny_Assign_Name (Constant_bool (wpAny_storeName_local (kind_escape Lg) hn₁ (fun h₂ hn₂ hs₂ => ?_)))))
  replace hs₂ : Heap.SameBut Lg h₁ h₂ := hs₂
  have k02 : ∀ b o, b ≠ Lg → s.heap.get? b = some o → h₂.get? b = some o := fun b o hb y => hs₂.extBut b o hb (hs₁.extBut b o hb y)
  have hsz : h₂.objs.size = s.heap.objs.size := by rw [hs₂.1, hs₁.1]
  refine seg_execs_cons (seg_For_ ?_)
  have hg₂ : h₂.Ns mainGlobals mg := hg.at' fun o y => k02 _ o (Ne.symm hLg) y
  have hb₂ : h₂.Ns builtinsNs mb := hb.at' fun o y => k02 _ o (Ne.symm hLb) y
  show wpAny _ _ (do let f ← eval (.Name _ _) (iterE Lg); callWith _ f [] (backTo _ (starEach [.Name _ _] (iterE Lg))) (backToKw _ (keywordEach [] (iterE Lg)))) _ _ _
  refine wpAny_bind (Calls.Name_function_global rfl rfl (Calls.loadGlobal_builtin (env := iterE Lg) hg₂ hmiss hb₂ hbe ?_) (by decide))
  refine PyProof.Rows.callWith_type1 ?_
  refine Calls.spliced_cons (wpAny_Name (wpAny_loadName_local rfl (kind_addr Lg) hn₂ (v := .str x t) (by rw [if_neg (by decide), if_neg (by decide)]; exact ha) (Calls.spliced_nil ?_)))
  refine call_enumerate_str fun h₃ he₃ hi₃ hz₃ hk₃ => ?_
  replace hk₃ : ∀ b o, h₂.get? b = some o → h₃.get? b = some o := hk₃
  replace hz₃ : h₃.objs.size = h₂.objs.size + 2 := hz₃
  replace he₃ : IsEnum h₃ (h₂.objs.size + 1) h₂.objs.size 0 .none := he₃
  replace hi₃ : h₃.IsStrIter h₂.objs.size (strIterType x) x t 0 := hi₃
  rw [show strIterType x = "str_ascii_iterator" by simp [strIterType, hasc]] at hi₃
  refine wpAny_of_eq (a := .ref (h₂.objs.size + 1)) rfl ?_
  refine wpAny_pyIter_enum he₃ fun p => ?_
  have hLlt := hn₂.lt
  have hn₃ := hn₂.at' fun o y => hk₃ Lg o y
  refine gen_loop hh (nB := nB) (t := t) (x := x) (Nat.ne_of_lt (Nat.lt_succ_of_lt hLlt)) (Nat.ne_of_lt hLlt) (Nat.succ_ne_self _) (Nat.le_succ_of_le (by rw [hsz]; exact hnB)) (by rw [hsz]; exact hnB) ?_
    x.cps.toList 0 false 0 s _ (by simp) (by simp) ⟨⟨_, hn₃, by rw [if_pos rfl], s.toks, by rw [if_neg (by decide), if_pos rfl]; rfl⟩, ⟨_, he₃⟩, hi₃⟩ (by simp) ⟨[], rfl⟩ ?_
  · rintro s₀ s' esc p' ⟨m', hm', hme, tp, hmp⟩ hp ⟨pre, hys⟩ hs
    have hfp : ∀ b ∈ [Lg, h₂.objs.size + 1, h₂.objs.size], b = Lg ∨ nB ≤ b := fun b hb => by
      simp only [List.mem_cons, List.not_mem_nil, or_false] at hb
      rcases hb with rfl | rfl | rfl
      · exact .inl rfl
      · exact .inr (Nat.le_succ_of_le (by rw [hsz]; exact hnB))
      · exact .inr (by rw [hsz]; exact hnB)
    refine seg_execs_cons (seg_If_ (isTrue_plain (wpAny_Name (wpAny_loadName_local rfl (kind_escape Lg) hm' hme (wpAny_truthy_bool ?_)))))
    cases esc with
    | false =>
      simp only [Bool.false_eq_true, if_false]
      refine seg_execs_nil (seg_execs_nil ?_)
      exact seg_end (.ok (.ret .none)) ⟨rfl, rfl, _, hs, hfp⟩
    | true =>
      simp only [if_true]
      have hp' : x.cps.size - 1 = p' := by have := hp rfl; omega
      have hys' : yl false 0 x.cps.toList = pre ++ (p', [92]) :: [] := by rw [hys, ← hp']; rfl
      refine seg_execs_cons ?_
      show Seg _ A _ _ (0 + 1) s₀ _ _ _ _
      refine seg_Expr_Yield rfl rfl rfl ?_
      refine eval_Tuple2 (wpAny_Name (wpAny_loadName_local rfl (kind_pos Lg) hm' hmp ?_))
      refine Calls.Constant_str ?_
      intro kap hkap
      refine ⟨_, tp, _, p', [92], _, [Lg], rfl, yl_idx hys', IsTuple_push, hs.step fun b o _ y => Heap.get?_push_of_some _ y, hfp, by simp, ?_, fun s'' hk => hkap .none s'' ?_⟩
      · intro b hb
        obtain rfl := List.mem_singleton.mp hb
        obtain ⟨o, _, _, ho, _⟩ := hm'
        exact ⟨o, Heap.get?_push_of_some _ ho⟩
      · refine seg_execs_nil (seg_execs_nil ?_)
        exact seg_end (.ok (.ret .none)) ⟨rfl, rfl, [], SinceK.refl _ _, by simp⟩
  · exact ⟨h₃, _, rfl, fun b o hb y => hk₃ b o (k02 b o (fun z => hb (by simp [z])) y)⟩
end
end Mine

/-! GEN4 -/
namespace Mine
theorem iterS_local (x : Str × Value) (h : x ∈ [(Str.ofString "addr", x.2)]) : iterS.names.lookup x.1 = some .local := by
  have := List.mem_singleton.mp h
  rw [this]; rfl
section
variable {w : World} {A : Around} {E : Value → Shared → Prop} {s : Shared}
theorem call_iter {o : Obj} {fd : FuncData} {x : Str} {t : Tok} {Q : Value → Shared → Prop} (hroom : A.depth < recursionLimit) (ho : s.heap.get? 38 = some o) (hd : o.data = .func fd) (hlim : s.heap.NoLimit)
    (hcd : s.heap.CodeRec fd.code fd.qualname) (hbody : fd.body = .stmts iterB) (hs : fd.scope = iterS) (hcode : fd.code = .ref 37) (hq : fd.qualname = Str.ofString "_iter_escaped_chars") (hgl : fd.globals = mainGlobals)
    (hcl : fd.closure = []) (hbu : fd.builtins = builtinsNs) (hbind : bindArgs fd ⟨[.str x t], []⟩ = pure [(Str.ofString "addr", .str x t)])
    (h : ∀ h' tk, (∀ b o, s.heap.get? b = some o → h'.get? b = some o) → h'.Ns s.heap.objs.size (fun y => [(Str.ofString "addr", Value.str x t)].reverse.lookup y) → h'.IsGen (s.heap.objs.size + 1) s.gens.size → h'.objs.size = s.heap.objs.size + 2 →
      Q (.ref (s.heap.objs.size + 1)) { s with heap := h', gens := s.gens.push (.fresh (.func iterB (iterE s.heap.objs.size))), toks := tk }) :
    wpAny (model PG w) A (call (.ref 38) [.str x t]) Q E s := by
  refine wpAny_call (codeAny_call_generator hroom ho hd (by rw [hs]; rfl) (by rw [hs]; rfl) hbody hcd ?_)
  rw [hbind]
  refine wpAny_pure ?_
  rw [hs, hcl]
  refine wpAny_newFunctionEnv (by decide) (fun y hy => by have := List.mem_singleton.mp hy; rw [this]; rfl) (fun h' hn' hs' => ⟨hlim.fresh _ hs', ?_⟩)
  have hk : ∀ b o, s.heap.get? b = some o → h'.get? b = some o := fun b o y => hs'.extBut b o (Nat.ne_of_lt (Heap.lt_size y)) (Heap.get?_push_of_some _ y)
  have hz : h'.objs.size = s.heap.objs.size + 1 := by rw [hs'.1, Heap.size_push]
  have e : newEnv iterS s.heap.objs.size fd.globals [] (fd.qualname ++ ".<locals>.") (some 38) fd.code none fd.builtins = iterE s.heap.objs.size := by rw [hgl, hq, hcode, hbu]; rfl
  rw [e]
  show Q (.ref h'.objs.size) _
  have := h (h'.push { cls := .type "generator", data := .fields #[.int s.gens.size 0, .str fd.name (s.toks + 1), .str fd.qualname (s.toks + 1 + 1)] }) (s.toks + 1 + 1 + 1) (fun b o y => Heap.get?_push_of_some _ (hk b o y))
    (hn'.at' fun o y => Heap.get?_push_of_some _ y) ⟨_, _, _, by rw [← hz]; exact Heap.get?_push_size _ rfl, rfl, rfl, rfl⟩ (by rw [Heap.size_push, hz])
  rw [← hz] at this
  exact this
end
end Mine

/-! GEN5 -/
namespace Mine
def gensPut (g : Array GenState) (i : Nat) (x : GenState) : Array GenState := g.setIfInBounds i x
theorem gensPut_put (g : Array GenState) (i : Nat) (x y : GenState) : gensPut (gensPut g i x) i y = gensPut g i y := by simp [gensPut]
theorem gensPut_get {g : Array GenState} {i : Nat} {x : GenState} (h : i < g.size) : (gensPut g i x)[i]? = some x := by simp [gensPut, h]
theorem put_self (g : Array GenState) (i : Nat) (h : i < g.size) : g.setIfInBounds i g[i] = g := by
  apply Array.ext_getElem?
  intro j
  rw [Array.getElem?_setIfInBounds]
  split
  · rename_i e; subst e; simp [h]
  · rfl
def FEnd (g : Heap) (L : Addr) (s : Shared) (gens' : Array GenState) (own : List (Addr × Obj)) (adr : List Addr) (J : (Str → Option Value) → List (Addr × Obj) → Prop) (f : Flow) (s' : Shared) : Prop :=
  f = .next ∧ ∃ h' tk' m' news', s' = { s with heap := h', toks := tk', gens := gens' } ∧ Fr g L h' m' ∧ News g L h' (news' ++ own) ∧ news'.map (·.1) = adr ∧ J m' news'
section
variable {w : World} {A : Around} {s : Shared} {env : Env}
theorem forLoop_gen (hh : A.in1.handled = none) (hroom : A.depth < recursionLimit) {g : Heap} {a gi Lg nB : Addr} {oa : Obj} {nm qn : Value} {ys : List (Nat × List Nat)} {m : Str → Option Value} {news own : List (Addr × Obj)} {gs : GenState} {R : Result → Shared → Prop}
    {p1 p2 p3 : Pos} {k : Nat} {body : List Stmt}
    (hkp : env.kindOf (Str.ofString "pos") = some .local) (hkc : env.kindOf (Str.ofString "ch") = some .local) (hp : (env.scope.kind == .class || (env.scope.kind == .module && env.locals != env.globals)) = false)
    (F : Fr g env.locals s.heap m) (N : News g env.locals s.heap (news ++ own)) (ha : (a, oa) ∈ own) (hoa : oa.cls = .type "generator" ∧ oa.data = .fields #[.int gi 0, nm, qn] ∧ oa.slots = #[]) (hlim : g.NoLimit)
    (hLL : env.locals < Lg) (hLn : Lg < nB) (hnews : ∀ p ∈ news, p.1 < Lg) (hanB : a < nB) (haL : Lg < a)
    (hgi : gi < s.gens.size) (hgs : s.gens[gi]? = some gs)
    (hgo : ∀ s'' : Shared, (∀ p ∈ own, s''.heap.get? p.1 = some p.2) → (∀ b o, g.get? b = some o → s''.heap.get? b = some o) → gs.Goes (model PG w) A.in1 (gR Lg nB) (gP Lg nB ys) ys.length (.send .none) s'')
    (J : Nat → (Str → Option Value) → List (Addr × Obj) → Prop) (h0 : J 0 m news)
    (turn : ∀ (j p : Nat) (cs : List Nat) (tp u : Tok) (m₁ : Str → Option Value) (news₁ own : List (Addr × Obj)) (h : Heap) (tk : Nat) (gens' : Array GenState), ys[j]? = some (p, cs) → J j m₁ news₁ → news₁.map (·.1) = news.map (·.1) → OwnOff own (news.map (·.1)) →
      Fr g env.locals h (fun y => if y = Str.ofString "ch" then some (.str ⟨cs.toArray⟩ u) else if y = Str.ofString "pos" then some (.int p tp) else m₁ y) → News g env.locals h (news₁ ++ own) →
      wpAny (model PG w) A (execs body env) (FEnd g env.locals s gens' own (news.map (·.1)) (J (j + 1))) (fun _ _ => False) { s with heap := h, toks := tk, gens := gens' })
    (hR : ∀ h tk m₁ news₁, Fr g env.locals h m₁ → News g env.locals h news₁ → news₁.map (·.1) = news.map (·.1) → J ys.length m₁ news₁ → R (.ok .next) { s with heap := h, toks := tk, gens := gensPut s.gens gi .finished }) :
    codeAny (model PG w) A (.forLoop (.Tuple [.Name (Str.ofString "pos") p1, .Name (Str.ofString "ch") p2] k p3) (.ref a) body [] env) R s := by
  refine codeAny_forLoop_any (fun n s' => ∃ h tk gs j m₁ news₁ own, s' = { s with heap := h, toks := tk, gens := gensPut s.gens gi gs } ∧ Fr g env.locals h m₁ ∧ News g env.locals h (news₁ ++ own) ∧ news₁.map (·.1) = news.map (·.1) ∧ (a, oa) ∈ own ∧
    J j m₁ news₁ ∧ j ≤ ys.length ∧ n = ys.length + 1 - j ∧ (∀ s'' : Shared, (∀ p ∈ own, s''.heap.get? p.1 = some p.2) → (∀ b o, g.get? b = some o → s''.heap.get? b = some o) → gs.Goes (model PG w) A.in1 (gR Lg nB) (gP Lg nB ys) (ys.length - j) (.send .none) s''))
    ?_ (ys.length + 1) ⟨s.heap, s.toks, gs, 0, m, news, own, ?_, F, N, rfl, ha, h0, Nat.zero_le _, rfl, hgo⟩
  rotate_left
  · have : gensPut s.gens gi gs = s.gens := by
      obtain ⟨h1, h2⟩ := Array.getElem?_eq_some_iff.mp hgs
      subst h2
      exact put_self _ _ h1
    rw [this]
  rintro n s' ⟨h, tk, gs, j, m₁, news₁, own, rfl, F₁, N₁, hadr, ha₁, hJ, hj, rfl, hG⟩
  have hga : h.get? a = some oa := (N₁ _ (List.mem_append_right _ ha₁)).1
  have hgen : h.IsGen a gi := ⟨oa, nm, qn, hga, hoa⟩
  have hlow : ∀ p ∈ news₁, p.1 < Lg := fun p hp => by
    have : p.1 ∈ news.map (·.1) := hadr ▸ List.mem_map_of_mem hp
    obtain ⟨q, hq, e⟩ := List.mem_map.mp this
    rw [← e]; exact hnews q hq
  refine wpAny_pyNext_gen (s := { s with heap := h, toks := tk, gens := gensPut s.gens gi gs }) (n := ys.length - j) (gs := gs) (Y := gP Lg nB ys) (P := fun n s₀ s₁ => n = 0 ∧ ∃ fp, SinceK fp s₀ s₁ ∧ (∀ b ∈ fp, b = Lg ∨ nB ≤ b)) hh (hlim.keeps F₁.keep) hroom hgen (gensPut_get hgi)
    (hG _ (fun p hp => (N₁ p (List.mem_append_right _ hp)).1) F₁.keep) ?_ ?_
  · rintro v s₁ gs' ⟨T, tp, u, p, cs, fp, own₁, rfl, hy, hT, ⟨h₁, tk₁, rfl, hk₁⟩, hfp, hown, hlive, hnext⟩
    cases hn : ys.length - j with
    | zero =>
      rw [hn] at hnext
      exact (hnext _ (fun _ _ _ e => e)).elim
    | succ k' =>
      rw [hn] at hnext hy
      have hjl : j < ys.length := by omega
      have hidx : ys.length - 1 - (k' + 1 - 1) = j := by omega
      rw [hidx] at hy
      replace hk₁ : ∀ b o, b ∉ fp → h.get? b = some o → h₁.get? b = some o := hk₁
      replace hT : h₁.IsTuple T #[.int p tp, .str ⟨cs.toArray⟩ u] := hT
      obtain ⟨oT, hoT, rT⟩ := hT
      have ha' : a ∉ fp := fun z => (hfp a z).elim (Nat.ne_of_gt haL) (Nat.not_le_of_lt hanB)
      have hga₁ : h₁.get? a = some oa := hk₁ a oa ha' hga
      show wpAny _ _ (letOwnedTupleGo (.Tuple _ _ _) (.ref a) (.ref T)) _ _ _
      unfold letOwnedTupleGo
      refine wpAny_bind (wpAny_load hga₁ ?_)
      rw [hoa.1, hoa.2.1]
      show wpAny _ A (if (List.contains _ "generator" && _) = true then _ else _) _ _ _
      rw [if_neg (by simp)]
      refine wpAny_pure ?_
      refine wpAny_assign_Tuple hh (items := #[.int p tp, .str ⟨cs.toArray⟩ u]) ⟨oT, hoT, rT⟩ rfl rfl fun h₂ hx₂ => ?_
      replace hx₂ : Heap.ExtBut h₁.objs.size h₁ h₂ := hx₂
      have k12 : ∀ b o, h₁.get? b = some o → h₂.get? b = some o := fun b o y => hx₂ b o (Nat.ne_of_lt (Heap.lt_size y)) y
      have hLs : env.locals ∉ fp := fun z => (hfp _ z).elim (Nat.ne_of_lt hLL) (Nat.not_le_of_lt (Nat.lt_trans hLL hLn))
      have hn₂ : h₂.Ns env.locals m₁ := F₁.ns.at' fun o y => k12 _ o (hk₁ _ o hLs y)
      show wpAny _ _ (do holding [_] (assign (.Name _ _) env (.int p tp)); do holding [] (assign (.Name _ _) env (.str ⟨cs.toArray⟩ u)); pure ()) _ _ _
      refine wpAny_bind (wpAny_holding (wpAny_assign_Name (wpAny_storeName_local hkp hn₂ (fun h₃ hn₃ hs₃ => ?_) hp)))
      replace hs₃ : Heap.SameBut env.locals h₂ h₃ := hs₃
      refine wpAny_bind (wpAny_holding (wpAny_assign_Name (wpAny_storeName_local hkc hn₃ (fun h₄ hn₄ hs₄ => wpAny_pure ?_) hp)))
      replace hs₄ : Heap.SameBut env.locals h₃ h₄ := hs₄
      have k14 : ∀ b o, b ≠ env.locals → h₁.get? b = some o → h₄.get? b = some o := fun b o hb y => hs₄.extBut b o hb (hs₃.extBut b o hb (k12 b o y))
      have gsz : ∀ b o, g.get? b = some o → b < env.locals := fun b o y => Nat.lt_of_lt_of_le (Heap.lt_size y) F₁.above
      have hgfp : ∀ b o, g.get? b = some o → b ∉ fp := fun b o y z => (hfp b z).elim (fun e => Nat.lt_irrefl _ (Nat.lt_trans (e ▸ gsz b o y) hLL)) fun e => Nat.lt_irrefl _ (Nat.lt_of_lt_of_le (Nat.lt_trans (gsz b o y) (Nat.lt_trans hLL hLn)) e)
      have kg : ∀ b o, g.get? b = some o → h₄.get? b = some o := fun b o y => k14 b o (Nat.ne_of_lt (gsz b o y)) (hk₁ b o (hgfp b o y) (F₁.keep b o y))
      have F₄ : Fr g env.locals h₄ (fun y => if y = Str.ofString "ch" then some (.str ⟨cs.toArray⟩ u) else if y = Str.ofString "pos" then some (.int p tp) else m₁ y) := ⟨hn₄, kg, F₁.above⟩
      have hnil : ∀ b, Lg ≤ b → g.get? b = none := fun b hb => Heap.get?_none_of_le (Nat.le_trans F₁.above (Nat.le_trans (Nat.le_of_lt hLL) hb))
      have hownL : env.locals ∉ own₁ := fun z => (hown _ z).elim (Nat.ne_of_lt hLL) (Nat.not_le_of_lt (Nat.lt_trans hLL hLn))
      have ownge : ∀ b ∈ own₁, Lg ≤ b := fun b hb => (hown b hb).elim (fun e => Nat.le_of_eq e.symm) fun e => Nat.le_trans (Nat.le_of_lt hLn) e
      have NO : News g env.locals h₄ ((a, oa) :: ownOf g own₁ h₄) := by
        intro q hq
        rcases List.mem_cons.mp hq with rfl | hq
        · exact ⟨k14 a oa (Nat.ne_of_gt (Nat.lt_trans hLL haL)) hga₁, Nat.ne_of_gt (Nat.lt_trans hLL haL), hnil a (Nat.le_of_lt haL)⟩
        · exact news_ownOf hownL q hq
      have N₄ : News g env.locals h₄ (news₁ ++ ((a, oa) :: ownOf g own₁ h₄)) := by
        refine News.append (fun q hq => ?_) NO
        have := N₁ q (List.mem_append_left _ hq)
        refine ⟨k14 _ _ this.2.1 (hk₁ _ _ (fun z => (hfp _ z).elim (Nat.ne_of_lt (hlow q hq)) (Nat.not_le_of_lt (Nat.lt_trans (hlow q hq) hLn))) this.1), this.2⟩
      have hoff : OwnOff ((a, oa) :: ownOf g own₁ h₄) (news.map (·.1)) := by
        intro q hq b hb e
        obtain ⟨r, hr, rfl⟩ := List.mem_map.mp hb
        have h1 : Lg ≤ q.1 := by
          rcases List.mem_cons.mp hq with rfl | hq
          · exact Nat.le_of_lt haL
          · obtain ⟨b, hb, e⟩ := List.mem_filterMap.mp hq
            have : q.1 = b := by
              cases hx : (g.get? b).isNone <;> simp [hx] at e
              obtain ⟨o, _, rfl⟩ := e; rfl
            rw [this]; exact ownge b hb
        rw [e] at h1
        exact Nat.lt_irrefl _ (Nat.lt_of_lt_of_le (hnews r hr) h1)
      have hz : gensPut (gensPut (gensPut s.gens gi gs) gi .running) gi gs' = gensPut s.gens gi gs' := by rw [gensPut_put, gensPut_put]
      refine wpAny_mono (turn j p cs tp u m₁ news₁ _ h₄ _ (gensPut (gensPut (gensPut s.gens gi gs) gi .running) gi gs') hy hJ hadr hoff F₄ N₄) (fun f s₃ hf => ?_) fun _ _ x => False.elim x
      obtain ⟨rfl, h', tk', m', news', rfl, F', N', hadr', hJ'⟩ := hf
      refine ⟨ys.length + 1 - (j + 1), by omega, h', tk', gs', j + 1, m', news', _, by rw [hz], F', N', hadr', List.mem_cons_self .., hJ', by omega, rfl, fun s'' hown'' _ => ?_⟩
      have e : ys.length - (j + 1) = k' := by omega
      rw [e]
      refine hnext s'' fun b hb o y => ?_
      have hbL : b ≠ env.locals := fun z => hownL (z ▸ hb)
      exact hown'' (b, o) (List.mem_cons_of_mem _ (mem_ownOf hb (hnil b (ownge b hb)) (k14 b o hbL y)))
  · rintro s₁ ⟨hn0, fp, ⟨h₁, tk₁, rfl, hk₁⟩, hfp⟩ h' hk'
    have hjl : j = ys.length := by omega
    subst hjl
    replace hk₁ : ∀ b o, b ∉ fp → h.get? b = some o → h₁.get? b = some o := hk₁
    replace hk' : ∀ b o, h₁.get? b = some o → h'.get? b = some o := hk'
    have k1 : ∀ b o, b < Lg → h.get? b = some o → h'.get? b = some o := fun b o hb y => hk' b o (hk₁ b o (fun z => (hfp b z).elim (Nat.ne_of_lt hb) (Nat.not_le_of_lt (Nat.lt_trans hb hLn))) y)
    have gsz : ∀ b o, g.get? b = some o → b < env.locals := fun b o y => Nat.lt_of_lt_of_le (Heap.lt_size y) F₁.above
    refine wpAny_execs_nil ?_
    have hz : gensPut (gensPut (gensPut s.gens gi gs) gi .running) gi .finished = gensPut s.gens gi .finished := by rw [gensPut_put, gensPut_put]
    have := hR h' tk₁ m₁ news₁ ⟨F₁.ns.at' fun o y => k1 _ o hLL y, fun b o y => k1 b o (Nat.lt_trans (gsz b o y) hLL) (F₁.keep b o y), F₁.above⟩
      (fun q hq => by
        have z := N₁ q (List.mem_append_left _ hq)
        exact ⟨k1 _ _ (hlow q hq) z.1, z.2⟩) hadr hJ
    rw [← hz] at this
    exact this
end
end Mine

/-! STRIP0 -/
namespace Mine
/-- one yield's turn: start, the open mark, what is kept -/
abbrev SSt := Nat × Option Nat × List Str
def cut (x : Str) (a b : Nat) : Str := Txt.slice x (some (a : Int)) (some (b : Int))
def stS (x : Str) (st : SSt) (y : Nat × List Nat) : SSt :=
  if y.2 = [34] then match st.2.1 with
    | none => (st.1, some y.1, st.2.2)
    | some o => (y.1 + 1, none, if st.1 = o then st.2.2 else st.2.2 ++ [cut x st.1 o])
  else st
def sFold (x : Str) (j : Nat) : SSt := ((yl false 0 x.cps.toList).take j).foldl (stS x) (0, none, [])
theorem sFold_succ {x : Str} {j p : Nat} {cs : List Nat} (h : (yl false 0 x.cps.toList)[j]? = some (p, cs)) : sFold x (j + 1) = stS x (sFold x j) (p, cs) := by
  unfold sFold
  rw [List.take_add_one, h]
  simp
theorem yl_lt : ∀ (cs : List Nat) (esc : Bool) (i : Nat), (esc = true → 0 < i) → ∀ y ∈ yl esc i cs, y.1 < i + cs.length
  | [], false, i, _, y, hy => by simp [yl] at hy
  | [], true, i, h, y, hy => by
    have := h rfl
    simp [yl] at hy
    subst hy
    simp; omega
  | c :: cs, true, i, _, y, hy => by
    simp only [yl, List.mem_cons] at hy
    rcases hy with rfl | hy
    · simp
    · have := yl_lt cs false (i + 1) (by simp) y hy
      simp; omega
  | c :: cs, false, i, _, y, hy => by
    by_cases h : c = 92
    · simp only [yl, h, if_true] at hy
      have := yl_lt cs true (i + 1) (by simp) y hy
      simp; omega
    · simp only [yl, h, if_false, List.mem_cons] at hy
      rcases hy with rfl | hy
      · simp
      · have := yl_lt cs false (i + 1) (by simp) y hy
        simp; omega
theorem yl_len : ∀ (cs : List Nat) (esc : Bool) (i : Nat), (yl esc i cs).length ≤ cs.length + 1
  | [], false, i => by simp [yl]
  | [], true, i => by simp [yl]
  | c :: cs, true, i => by have := yl_len cs false (i + 1); simp [yl]; omega
  | c :: cs, false, i => by
    by_cases h : c = 92
    · have := yl_len cs true (i + 1); simp [yl, h]; omega
    · have := yl_len cs false (i + 1); simp [yl, h]; omega
structure SB (x : Str) (j : Nat) (z : SSt) : Prop where
  st : z.1 ≤ x.length
  op : ∀ o, z.2.1 = some o → o < x.length
  rs : z.2.2.length ≤ j
  ln : ∀ r ∈ z.2.2, r.length ≤ x.length
theorem cut_len (x : Str) (a b : Nat) : (cut x a b).length ≤ x.length := PyProof.Txt.length_slice_le x _ _
theorem sb (x : Str) : ∀ j, SB x j (sFold x j)
  | 0 => ⟨Nat.zero_le _, fun _ h => (nomatch h), Nat.le_refl _, fun _ h => (nomatch h)⟩
  | j + 1 => by
    have ih := sb x j
    cases hy : (yl false 0 x.cps.toList)[j]? with
    | none =>
      have : sFold x (j + 1) = sFold x j := by unfold sFold; rw [List.take_add_one, hy]; simp
      rw [this]
      exact ⟨ih.st, ih.op, Nat.le_succ_of_le ih.rs, ih.ln⟩
    | some y =>
      have hlt := yl_lt x.cps.toList false 0 (by simp) y (List.mem_of_getElem? hy)
      have hlt' : y.1 < x.length := by simpa [Str.length] using hlt
      rw [sFold_succ (p := y.1) (cs := y.2) hy]
      generalize sFold x j = st at ih
      obtain ⟨st1, op, rs⟩ := st
      unfold stS
      split
      · cases op with
        | none => exact ⟨ih.st, fun o h => by cases h; exact hlt', Nat.le_succ_of_le ih.rs, ih.ln⟩
        | some o =>
          refine ⟨hlt', fun _ h => (nomatch h), ?_, ?_⟩
          · show (if st1 = o then rs else rs ++ [cut x st1 o]).length ≤ j + 1
            have := ih.rs
            split
            · exact Nat.le_succ_of_le this
            · simpa using this
          · intro r hr
            replace hr : r ∈ (if st1 = o then rs else rs ++ [cut x st1 o]) := hr
            split at hr
            · exact ih.ln r hr
            · rcases List.mem_append.mp hr with hr | hr
              · exact ih.ln r hr
              · rw [List.mem_singleton.mp hr]; exact cut_len x st1 o
      · exact ⟨ih.st, ih.op, Nat.le_succ_of_le ih.rs, ih.ln⟩
theorem quote_eq (cs : List Nat) : (((⟨cs.toArray⟩ : Str)) == Str.ofString "\"") = decide (cs = [34]) := by
  by_cases h : cs = [34]
  · subst h; decide
  · rw [decide_eq_false h, beq_eq_false_iff_ne]
    intro z
    have z' : cs.toArray = #[34] := congrArg Str.cps z
    exact h (by simpa using congrArg Array.toList z')
def opV : Option Nat → Tok → Value
  | none, _ => .none
  | some o, t => .int o t
def sJ (x : Str) (t : Tok) (res : Addr) (nw : List (Addr × Obj)) (j : Nat) (m : Str → Option Value) (news : List (Addr × Obj)) : Prop :=
  ∃ (u v : Tok) (vs : List Value) (n : Nat), m (Str.ofString "start") = some (.int (sFold x j).1 u) ∧ m (Str.ofString "open_pos") = some (opV (sFold x j).2.1 v) ∧ m (Str.ofString "result") = some (.ref res) ∧ m (Str.ofString "addr") = some (.str x t) ∧
    news = (res, listOf vs.toArray n) :: nw ∧ StrsAre vs (sFold x j).2.2
section
variable {w : World} {A : Around} {s : Shared} {env : Env}
theorem strip_gen (hh : A.in1.handled = none) (hroom : A.depth < recursionLimit)
    (hkp : env.kindOf (Str.ofString "pos") = some .local) (hkc : env.kindOf (Str.ofString "ch") = some .local) (hp : (env.scope.kind == .class || (env.scope.kind == .module && env.locals != env.globals)) = false)
    {g : Heap} {m mg mb : Str → Option Value} {news : List (Addr × Obj)} {Lg : Nat} {oL oa : Obj} {x : Str} {t : Tok} {q : Program} {loose : List Str} {R : Result → Shared → Prop} {p1 p2 p3 : Pos} {k : Nat} {body : List Stmt} {gens : Array GenState}
    (F : Fr g env.locals s.heap m) (N : News g env.locals s.heap news) (hLL : env.locals < Lg) (hnews : ∀ p ∈ news, p.1 < Lg)
    (rL : ∃ es ep, oL.data = .dict es ep ∧ StrKeys es ∧ ∀ name, nsFind es name = [(Str.ofString "addr", Value.str x t)].reverse.lookup name)
    (ra : ∃ nm qn, oa.cls = .type "generator" ∧ oa.data = .fields #[.int gens.size 0, nm, qn] ∧ oa.slots = #[]) (hoL : s.heap.get? Lg = some oL) (hoa : s.heap.get? (Lg + 1) = some oa)
    (T : TopRead q loose mg mb g) (hmiss : mg (Str.ofString "enumerate") = none) (hasc : x.cps.all (· < 128) = true) (hs : s.gens = gens.push (.fresh (.func iterB (iterE Lg))))
    (J : Nat → (Str → Option Value) → List (Addr × Obj) → Prop) (h0 : J 0 m news)
    (turn : ∀ (j p : Nat) (cs : List Nat) (tp u : Tok) (m₁ : Str → Option Value) (news₁ own : List (Addr × Obj)) (h : Heap) (tk : Nat) (gens' : Array GenState), (yl false 0 x.cps.toList)[j]? = some (p, cs) → J j m₁ news₁ → news₁.map (·.1) = news.map (·.1) → OwnOff own (news.map (·.1)) →
      Fr g env.locals h (fun y => if y = Str.ofString "ch" then some (.str ⟨cs.toArray⟩ u) else if y = Str.ofString "pos" then some (.int p tp) else m₁ y) → News g env.locals h (news₁ ++ own) →
      wpAny (model PG w) A (execs body env) (FEnd g env.locals s gens' own (news.map (·.1)) (J (j + 1))) (fun _ _ => False) { s with heap := h, toks := tk, gens := gens' })
    (hR : ∀ h tk m₁ news₁, Fr g env.locals h m₁ → News g env.locals h news₁ → news₁.map (·.1) = news.map (·.1) → J (yl false 0 x.cps.toList).length m₁ news₁ → R (.ok .next) { s with heap := h, toks := tk, gens := gens.push .finished }) :
    codeAny (model PG w) A (.forLoop (.Tuple [.Name (Str.ofString "pos") p1, .Name (Str.ofString "ch") p2] k p3) (.ref (Lg + 1)) body [] env) R s := by
  obtain ⟨nm, qn, ra⟩ := ra
  have hLn : ∀ b, env.locals ≤ b → g.get? b = none := fun b hb => Heap.get?_none_of_le (Nat.le_trans F.above hb)
  have hlow : ∀ b, (∃ o, g.get? b = some o) → b < Lg := fun b ⟨o, y⟩ => Nat.lt_trans (Nat.lt_of_lt_of_le (Heap.lt_size y) F.above) hLL
  have N' : News g env.locals s.heap (news ++ [(Lg, oL), (Lg + 1, oa)]) := by
    refine News.append N fun p hp => ?_
    simp only [List.mem_cons, List.not_mem_nil, or_false] at hp
    rcases hp with rfl | rfl
    · exact ⟨hoL, Nat.ne_of_gt hLL, hLn _ (Nat.le_of_lt hLL)⟩
    · exact ⟨hoa, Nat.ne_of_gt (Nat.lt_succ_of_lt hLL), hLn _ (Nat.le_of_lt (Nat.lt_succ_of_lt hLL))⟩
  have hgi : gens.size < s.gens.size := by rw [hs]; simp
  refine forLoop_gen (a := Lg + 1) (gi := gens.size) (Lg := Lg) (nB := Lg + 2) (oa := oa) (nm := nm) (qn := qn) (ys := yl false 0 x.cps.toList) (gs := .fresh (.func iterB (iterE Lg))) hh hroom hkp hkc hp F N' (by simp) ra T.nolimit hLL (by simp : Lg < Lg + 2) hnews (by simp : Lg + 1 < Lg + 2) (Nat.lt_succ_self _) hgi (by rw [hs]; simp) ?_ J h0 turn ?_
  · intro s'' hown hg
    refine ⟨rfl, ?_⟩
    obtain ⟨es, ep, r⟩ := rL
    have hns : s''.heap.Ns Lg (fun y => [(Str.ofString "addr", Value.str x t)].reverse.lookup y) := ⟨oL, es, ep, hown (Lg, oL) (by simp), r⟩
    have hsz : Lg + 2 ≤ s''.heap.objs.size := Heap.lt_size (hown (Lg + 1, oa) (by simp))
    refine gen_start hh hasc hns rfl (T.g.keeps hg) hmiss (T.b.keeps hg) ?_ ?_ ?_ hsz
    · rw [T.builtins _ (by decide)]; exact boot_enumerate
    · exact Nat.ne_of_gt (Nat.lt_trans (Nat.lt_of_lt_of_le T.g.lt F.above) hLL)
    · exact Nat.ne_of_gt (Nat.lt_trans (Nat.lt_of_lt_of_le T.b.lt F.above) hLL)
  · intro h tk m₁ news₁ F' N'' ha hJ
    have := hR h tk m₁ news₁ F' N'' ha hJ
    have e : gensPut s.gens gens.size .finished = gens.push .finished := by
      rw [hs, gensPut]
      apply Array.ext_getElem?
      intro i
      rw [Array.getElem?_setIfInBounds]
      split
      · rename_i z; subst z; simp
      · rename_i z; rw [Array.getElem?_push, Array.getElem?_push]; simp [Ne.symm z]
    rw [e]
    exact this

def sMap (x : Str) (t : Tok) (res : Addr) (st : SSt) (t1 t2 : Tok) (m : Str → Option Value) : Str → Option Value := fun y =>
  if y = Str.ofString "start" then some (.int st.1 t1) else if y = Str.ofString "open_pos" then some (opV st.2.1 t2) else if y = Str.ofString "result" then some (.ref res) else if y = Str.ofString "addr" then some (.str x t) else m y
def SEnd (g : Heap) (L : Addr) (s : Shared) (gens' : Array GenState) (x : Str) (t : Tok) (res : Addr) (nw : List (Addr × Obj)) (st : SSt) (f : Flow) (s' : Shared) : Prop :=
  f = .next ∧ ∃ h' tk' m' t1 t2 vs n, s' = { s with heap := h', toks := tk', gens := gens' } ∧ Fr g L h' m' ∧ News g L h' ((res, listOf vs.toArray n) :: nw) ∧
    m' (Str.ofString "start") = some (.int st.1 t1) ∧ m' (Str.ofString "open_pos") = some (opV st.2.1 t2) ∧ m' (Str.ofString "result") = some (.ref res) ∧ m' (Str.ofString "addr") = some (.str x t) ∧ StrsAre vs st.2.2
theorem sMap_eq {x : Str} {t : Tok} {res : Addr} {st : SSt} {t1 t2 : Tok} {m : Str → Option Value} (h1 : m (Str.ofString "start") = some (.int st.1 t1)) (h2 : m (Str.ofString "open_pos") = some (opV st.2.1 t2)) (h3 : m (Str.ofString "result") = some (.ref res)) (h4 : m (Str.ofString "addr") = some (.str x t)) :
    sMap x t res st t1 t2 m = m := by
  funext y
  unfold sMap
  by_cases e1 : y = Str.ofString "start"
  · rw [if_pos e1, e1, h1]
  rw [if_neg e1]
  by_cases e2 : y = Str.ofString "open_pos"
  · rw [if_pos e2, e2, h2]
  rw [if_neg e2]
  by_cases e3 : y = Str.ofString "result"
  · rw [if_pos e3, e3, h3]
  rw [if_neg e3]
  by_cases e4 : y = Str.ofString "addr"
  · rw [if_pos e4, e4, h4]
  rw [if_neg e4]
theorem strip_gen2 (hh : A.in1.handled = none) (hroom : A.depth < recursionLimit) {L : Addr} (hL : env.locals = L)
    (hkp : env.kindOf (Str.ofString "pos") = some .local) (hkc : env.kindOf (Str.ofString "ch") = some .local) (hp : (env.scope.kind == .class || (env.scope.kind == .module && env.locals != env.globals)) = false)
    {g : Heap} {m mg mb : Str → Option Value} {nw : List (Addr × Obj)} {Lg : Nat} {res : Addr} {oL oa : Obj} {x : Str} {t u : Tok} {q : Program} {loose : List Str} {R : Result → Shared → Prop} {p1 p2 p3 : Pos} {k : Nat} {body : List Stmt} {gens : Array GenState}
    (F : Fr g L s.heap m) (N : News g L s.heap ((res, listOf #[] 0) :: nw)) (hlo : ∀ p ∈ nw, p.1 < res) (hLL : L < Lg) (hnews : ∀ p ∈ (res, listOf #[] 0) :: nw, p.1 < Lg)
    (rL : ∃ es ep, oL.data = .dict es ep ∧ StrKeys es ∧ ∀ name, nsFind es name = [(Str.ofString "addr", Value.str x t)].reverse.lookup name)
    (ra : ∃ nm qn, oa.cls = .type "generator" ∧ oa.data = .fields #[.int gens.size 0, nm, qn] ∧ oa.slots = #[]) (hoL : s.heap.get? Lg = some oL) (hoa : s.heap.get? (Lg + 1) = some oa)
    (T : TopRead q loose mg mb g) (hmiss : mg (Str.ofString "enumerate") = none) (hasc : x.cps.all (· < 128) = true) (hs : s.gens = gens.push (.fresh (.func iterB (iterE Lg))))
    (h1 : m (Str.ofString "start") = some (.int 0 u)) (h2 : m (Str.ofString "open_pos") = some .none) (h3 : m (Str.ofString "result") = some (.ref res)) (h4 : m (Str.ofString "addr") = some (.str x t))
    (turn : ∀ (j p : Nat) (cs : List Nat) (tp u t1 t2 : Tok) (vs : List Value) (n : Nat) (m₁ : Str → Option Value) (nw' : List (Addr × Obj)) (h : Heap) (tk : Nat) (gens' : Array GenState), (yl false 0 x.cps.toList)[j]? = some (p, cs) →
      StrsAre vs (sFold x j).2.2 → (∀ p ∈ nw', p.1 ≠ res) →
      Fr g L h (fun y => if y = Str.ofString "ch" then some (.str ⟨cs.toArray⟩ u) else if y = Str.ofString "pos" then some (.int p tp) else sMap x t res (sFold x j) t1 t2 m₁ y) → News g L h ((res, listOf vs.toArray n) :: nw') →
      wpAny (model PG w) A (execs body env) (SEnd g L s gens' x t res nw' (sFold x (j + 1))) (fun _ _ => False) { s with heap := h, toks := tk, gens := gens' })
    (hR : ∀ h tk m₁ t1 t2 vs n, Fr g L h (sMap x t res (sFold x (yl false 0 x.cps.toList).length) t1 t2 m₁) → News g L h ((res, listOf vs.toArray n) :: nw) → StrsAre vs (sFold x (yl false 0 x.cps.toList).length).2.2 → R (.ok .next) { s with heap := h, toks := tk, gens := gens.push .finished }) :
    codeAny (model PG w) A (.forLoop (.Tuple [.Name (Str.ofString "pos") p1, .Name (Str.ofString "ch") p2] k p3) (.ref (Lg + 1)) body [] env) R s := by
  subst hL
  refine strip_gen hh hroom hkp hkc hp F N hLL hnews rL ra hoL hoa T hmiss hasc hs (sJ x t res nw) ⟨u, 0, [], 0, h1, h2, h3, h4, rfl, .nil⟩ ?_ ?_
  · rintro j p cs tp u m₁ news₁ own h tk gens' hy ⟨t1, t2, vs, n, e1, e2, e3, e4, rfl, hvs⟩ hadr hoff F' N'
    have hne : ∀ p ∈ nw ++ own, p.1 ≠ res := fun p hp => by
      rcases List.mem_append.mp hp with hp | hp
      · exact Nat.ne_of_lt (hlo p hp)
      · exact hoff p hp res (by simp)
    refine wpAny_mono (turn j p cs tp u t1 t2 vs n m₁ (nw ++ own) h tk gens' hy hvs hne (by rw [sMap_eq e1 e2 e3 e4]; exact F') N') ?_ fun _ _ x => x
    rintro f s' ⟨rfl, h', tk', m', t1', t2', vs', n', rfl, F2, N2, a1, a2, a3, a4, hvs'⟩
    exact ⟨rfl, h', tk', m', (res, listOf vs'.toArray n') :: nw, rfl, F2, N2, by simp, t1', t2', vs', n', a1, a2, a3, a4, rfl, hvs'⟩
  · rintro h tk m₁ news₁ F' N' hadr ⟨t1, t2, vs, n, e1, e2, e3, e4, rfl, hvs⟩
    exact hR h tk m₁ t1 t2 vs n (by rw [sMap_eq e1 e2 e3 e4]; exact F') N' hvs
end
end Mine

/-! STRIP -/
namespace Mine
theorem stS_q0 {x : Str} {a p : Nat} {rs : List Str} : stS x (a, none, rs) (p, [34]) = (a, some p, rs) := rfl
theorem stS_q1 {x : Str} {a o p : Nat} {rs : List Str} : stS x (a, some o, rs) (p, [34]) = (p + 1, none, if a = o then rs else rs ++ [cut x a o]) := rfl
theorem stS_off {x : Str} {st : SSt} {p : Nat} {cs : List Nat} (h : cs ≠ [34]) : stS x st (p, cs) = st := by simp [stS, h]
theorem strs_len {vs : List Value} {xs : List Str} (h : StrsAre vs xs) : vs.length = xs.length := by
  induction h with
  | nil => rfl
  | cons y t _ ih => simp [ih]
theorem strs_snoc {vs : List Value} {xs : List Str} (h : StrsAre vs xs) (y : Str) (t : Tok) : StrsAre (vs ++ [.str y t]) (xs ++ [y]) := by
  induction h with
  | nil => exact .cons y t .nil
  | cons a u _ ih => exact .cons a u ih
theorem sum_le {xs : List Str} {n k : Nat} (h : ∀ r ∈ xs, r.length ≤ n) (hk : xs.length ≤ k) : (xs.map (·.length)).sum ≤ k * n := by
  have : (xs.map (·.length)).sum ≤ xs.length * n := by
    clear hk
    induction xs with
    | nil => simp
    | cons a r ih =>
      have h1 := h a (.head _)
      have h2 := ih fun r hr => h r (.tail _ hr)
      simp only [List.map_cons, List.sum_cons, List.length_cons, Nat.add_mul, Nat.one_mul]
      omega
  exact Nat.le_trans this (Nat.mul_le_mul_right _ hk)
/-- what the strip hands back -/
noncomputable def stripS (x : Str) : Str :=
  if (Builtin.Str.occurrences x (Str.ofString "\"") 0 x.length 1).isEmpty = true then x else
  Txt.join (Str.ofString "") ((sFold x (yl false 0 x.cps.toList).length).2.2 ++ (if (sFold x (yl false 0 x.cps.toList).length).1 < x.length then [Txt.slice x (some ((sFold x (yl false 0 x.cps.toList).length).1 : Int)) none] else []))
set_option maxHeartbeats 4000000 in
theorem strip_ctr (w : World) (mean : ExcName → Option Value) (mg mb : Str → Option Value) (news : List (Addr × Obj)) (x : Str) (t : Tok) :
   CtrG w mean mg mb 45 news 3 (x.length ≤ 200 ∧ x.cps.all (· < 128) = true) [.str x t] (fun t => .str (stripS x) t) := by
  dsimp only [CtrG]
  k_fill
  w_top off
  intros
  rename_i hpre _ _ hret
  obtain ⟨hlen, hasc⟩ := hpre
  refine wpAny_call ?_
  k_dflt cell_enter
  rename Fr _ _ _ _ => F0
  have F1 := fr_binds F0 (l' := [(Str.ofString "addr", .str x t)]) rfl
  clear F0
  dsimp only [mOf] at F1
  repeat' ((fail_if_success (with_reducible show wpAny _ _ (exec (Stmt.For _ _ _ _ _) _) _ _ _)); first | (k_unfold; (try dsimp only)) | (k_end; wrow_close) | walk1 | (dsimp only; walk1) | (leave1; try dsimp only))
  · rename Fr _ _ _ _ => kF
    rename News _ _ _ _ => kN
    have hst : stripS x = x := by
      unfold stripS
      rw [if_pos (by assumption)]
    rw [hst] at hret
    exact hret _ _ _ _ kF kN (GExt.refl _)
  refine wpAny_noRaise (wpAny_For ?_)
  repeat' ((fail_if_success (with_reducible show wpAny _ _ (call (Value.ref _) [_]) _ _ _)); first | walk1 | (dsimp only; walk1))
  rename Fr _ _ _ _ => F
  rename News _ _ _ _ => N
  rename Frag.In _ _ => X0
  rename Top _ _ _ _ _ _ => T0
  have X := Frag.In.keeps X0 (Fr.keep F)
  refine' call_iter ?hroom (In_at X ?hl) ?hd ?hlim ?hcd ?h1 ?h2 ?h3 ?h4 ?h5 ?h6 ?h7 ?h8 ?_
  case hl => k_is
  case hd => exact rfl
  case hroom => ktr_room
  case hcd => exact codeRec_of X (by k_is)
  case h1 => exact rfl
  case h2 => exact rfl
  case h3 => exact rfl
  case h4 => exact rfl
  case h5 => exact rfl
  case h6 => exact rfl
  case h7 => exact rfl
  case h8 => exact rfl
  case hlim => exact T0.nolimit.keeps (Fr.keep F)
  intro h₁ tk₁ hk₁ hn₁ hg₁ hz₁
  refine wpAny_pyIter_gen hg₁ ?_
  obtain ⟨oL, esL, epL, hoL, rL⟩ := id hn₁
  obtain ⟨oa, nm, qn, hoa, ra⟩ := id hg₁
  have hLs := F.ns.lt
  have F₁ := Fr.mk (F.ns.keeps hk₁) (fun b o y => hk₁ b o (F.keep b o y)) F.above
  have hab := F.above
  rename (∀ p, p ∈ news → p.fst < _) => l1
  refine' strip_gen2 (oL := oL) (oa := oa) ?q0 ?hroom ?r0 ?q1 ?q2 ?q3 F₁ (fun p hp => ⟨hk₁ _ _ (N p hp).1, (N p hp).2⟩) l1 hLs (fun p hp => Heap.lt_size (N p hp).1) ⟨esL, epL, rL⟩ ⟨nm, qn, ra⟩ hoL hoa
    (topRead_of T0) (mg_none_of X0 T0.g ?q4) hasc ?q5 ?r1 ?r2 ?r3 ?r4 ?q7 ?q8
  case q0 => exact rfl
  case q1 => exact rfl
  case q2 => exact rfl
  case q3 => exact rfl
  case q4 => k_is
  case q5 => exact rfl
  case hroom => ktr_room
  case r0 => exact rfl
  case r1 => exact rfl
  case r2 => exact rfl
  case r3 => exact rfl
  case r4 => exact rfl
  case q7 =>
    clear rL ra hoL hoa hk₁ hn₁ hg₁ hz₁ F₁ N F X
    clear hret
    intro j p cs tp u t1 t2 vs n m₁ nw' h tk gens' hy hvs hne F N
    dsimp only [sMap] at F
    have hsb := sb x j
    have hsb' := sb x (j + 1)
    have hpl := yl_lt x.cps.toList false 0 (by simp) _ (List.mem_of_getElem? hy)
    have hjl : j ≤ x.length := by
      have h1 := yl_len x.cps.toList false 0
      have h2 := (List.getElem?_eq_some_iff.mp hy).1
      have h3 : x.cps.toList.length = x.length := rfl
      omega
    have hpl' : p < x.length := by simpa [Str.length] using hpl
    rw [sFold_succ hy] at hsb' ⊢
    generalize sFold x j = st at *
    obtain ⟨st1, op, rs⟩ := st
    have hb := hsb.st
    have hrs := hsb.rs
    have hvl := strs_len hvs
    dsimp only at hb hrs hvl hvs
    clear hsb' hsb hpl
    cases op with
    | none =>
      dsimp only [opV] at F
      repeat' (first | (k_here; (with_reducible show wpAny _ _ (call (Value.builtin "list.append") [Value.ref _, _]) _ _ _); (refine' append_K ?k1 ?k2 (Upd.head (by assumption)) ?_ ?z; (case k1 => k_asm); (case k2 => k_asm); (case z => (rw [List.size_toArray, sizeLine_eq]; omega))); intro h' F' N') | (k_unfold; (try dsimp only)) | (k_end; wrow_close) | walk1 | (dsimp only; walk1) | (leave1; try dsimp only))
      all_goals (rename ((_ == Str.ofString "\"") = _) => hq; rw [quote_eq] at hq)
      · obtain rfl := of_decide_eq_true hq
        rw [stS_q0]
        rename Fr _ _ _ _ => F2
        rename News _ _ _ _ => N2
        exact ⟨rfl, _, _, _, t1, tp, vs, n, rfl, F2, N2, rfl, rfl, rfl, rfl, hvs⟩
      · rw [stS_off (of_decide_eq_false hq)]
        exact ⟨rfl, _, _, _, t1, t2, vs, n, rfl, F, N, rfl, rfl, rfl, rfl, hvs⟩
    | some o =>
      dsimp only [opV] at F
      repeat' (first | (k_here; (with_reducible show wpAny _ _ (call (Value.builtin "list.append") [Value.ref _, _]) _ _ _); (refine' append_K ?k1 ?k2 (Upd.head (by assumption)) ?_ ?z; (case k1 => k_asm); (case k2 => k_asm); (case z => (rw [List.size_toArray, sizeLine_eq]; omega))); intro h' F' N') | (k_unfold; (try dsimp only)) | (k_end; wrow_close) | walk1 | (dsimp only; walk1) | (leave1; try dsimp only))
      all_goals (rename ((_ == Str.ofString "\"") = _) => hq; rw [quote_eq] at hq)
      · obtain rfl := of_decide_eq_true hq
        rw [stS_q1]
        rename ((st1 : Int) ≠ (o : Int)) => hne
        rename Fr _ _ _ _ => F2
        rename News _ _ _ _ => N2
        rw [List.push_toArray] at N2
        rw [if_neg (fun z => hne (by rw [z]))]
        exact ⟨rfl, _, _, _, _, 0, _, _, rfl, F2, N2, rfl, rfl, rfl, rfl, strs_snoc hvs _ _⟩
      · obtain rfl := of_decide_eq_true hq
        rw [stS_q1]
        rename ((st1 : Int) = (o : Int)) => heq
        rename Fr _ _ _ _ => F2
        rename News _ _ _ _ => N2
        rw [if_pos (by omega)]
        exact ⟨rfl, _, _, _, _, 0, _, _, rfl, F2, N2, rfl, rfl, rfl, rfl, hvs⟩
      · rw [stS_off (of_decide_eq_false hq)]
        exact ⟨rfl, _, _, _, t1, t2, vs, n, rfl, F, N, rfl, rfl, rfl, rfl, hvs⟩
  case q8 =>
    clear rL ra hoL hoa hk₁ hn₁ hg₁ hz₁ F₁ N F X
    intro h tk m₁ t1 t2 vs n F N hvs
    unfold sMap at F
    have hsb := sb x (yl false 0 x.cps.toList).length
    have hst : stripS x = Txt.join (Str.ofString "") ((sFold x (yl false 0 x.cps.toList).length).2.2 ++ (if (sFold x (yl false 0 x.cps.toList).length).1 < x.length then [Txt.slice x (some ((sFold x (yl false 0 x.cps.toList).length).1 : Int)) none] else [])) := by
      unfold stripS
      rw [if_neg (by simp [*])]
    have hyl : (yl false 0 x.cps.toList).length ≤ x.length + 1 := yl_len x.cps.toList false 0
    rw [hst] at hret
    generalize sFold x (yl false 0 x.cps.toList).length = st at *
    obtain ⟨st1, op, rs⟩ := st
    dsimp only at hvs F hret
    have hb := hsb.st
    have hrs := hsb.rs
    have hln := hsb.ln
    dsimp only at hb hrs hln
    have hvl := strs_len hvs
    have hsum := sum_le hln (Nat.le_trans hrs hyl)
    clear hst hsb
    dsimp only
    have hne : ∀ p ∈ news, p.1 ≠ _ := fun p hp => Nat.ne_of_lt (l1 p hp)
    have hsum' : (rs.map (·.length)).sum ≤ 40200 := Nat.le_trans hsum (Nat.mul_le_mul (by omega : x.length + 1 ≤ 201) hlen)
    repeat' (first | (k_here; (with_reducible show wpAny _ _ (call (Value.builtin "list.append") [Value.ref _, _]) _ _ _); (refine' append_K ?k1 ?k2 (Upd.head (by assumption)) ?_ ?z; (case k1 => k_asm); (case k2 => k_asm); (case z => (rw [List.size_toArray, sizeLine_eq]; omega))); intro h' F' N') | (k_unfold; (try dsimp only)) | (k_end; wrow_close) | walk1 | (dsimp only; walk1) | (leave1; try dsimp only))
    · rename News _ _ _ _ => N2
      rw [List.push_toArray] at N2
      rename ((Txt.slice x _ none).length ≤ x.length) => hsl
      rename ((st1 : Int) < (x.length : Int)) => hlt
      rw [if_pos (by omega)] at hret
      refine join_listW (ys := rs ++ [Txt.slice x (some (st1 : Int)) none]) ⟨_, (N2 _ (.head _)).1, rfl, _, rfl⟩ (strs_snoc hvs _ _) (by decide) (by simp only [List.map_append, List.map_cons, List.map_nil, List.sum_append, List.sum_cons, List.sum_nil, List.length_append, List.length_cons, List.length_nil]; omega) ?_
      intro _ _
      repeat' (first | (k_here; (with_reducible show wpAny _ _ (call (Value.builtin "list.append") [Value.ref _, _]) _ _ _); (refine' append_K ?k1 ?k2 (Upd.head (by assumption)) ?_ ?z; (case k1 => k_asm); (case k2 => k_asm); (case z => (rw [List.size_toArray, sizeLine_eq]; omega))); intro h' F' N') | (k_unfold; (try dsimp only)) | (k_end; wrow_close) | walk1 | (dsimp only; walk1) | (leave1; try dsimp only))
      rename Fr _ _ _ _ => kF
      rename News _ _ _ _ => kN
      exact hret _ _ _ _ kF (cb_drop kN (fun p hp => .tail _ hp)) (GExt.push _)
    · rename (¬ (st1 : Int) < (x.length : Int)) => hlt
      rw [if_neg (by omega), List.append_nil] at hret
      refine join_listW (ys := rs) ⟨_, (N _ (.head _)).1, rfl, _, rfl⟩ hvs (by decide) (by omega) ?_
      intro _ _
      repeat' (first | (k_here; (with_reducible show wpAny _ _ (call (Value.builtin "list.append") [Value.ref _, _]) _ _ _); (refine' append_K ?k1 ?k2 (Upd.head (by assumption)) ?_ ?z; (case k1 => k_asm); (case k2 => k_asm); (case z => (rw [List.size_toArray, sizeLine_eq]; omega))); intro h' F' N') | (k_unfold; (try dsimp only)) | (k_end; wrow_close) | walk1 | (dsimp only; walk1) | (leave1; try dsimp only))
      rename Fr _ _ _ _ => kF
      rename News _ _ _ _ => kN
      exact hret _ _ _ _ kF (cb_drop kN (fun p hp => .tail _ hp)) (GExt.push _)
end Mine

/-! SRE1 -/
namespace Mine
theorem plainAttrs_pat : PlainAttrs "re.Pattern" :=
  ⟨⟨"object.__getattribute__", by rw [typeLookup_type, builtinLookup_eq_fast]; kernel_rfl, by decide +kernel⟩, by rw [typeLookup_type, builtinLookup_eq_fast]; kernel_rfl⟩
theorem slot_pat_sub : Slot "re.Pattern" "sub" "re.Pattern.sub" :=
  .of (owner := "re.Pattern") (n := "sub") (by rw [typeLookup_type, builtinLookup_eq_fast]; kernel_rfl) (by decide +kernel) (by decide +kernel) (by decide +kernel)
    (by first | exact .inl (by decide +kernel) | exact .inr (by decide +kernel)) (by rw [isSubtype_type]; kernel_rfl)
theorem type_pat_sub : typeOf (.builtin "re.Pattern.sub") = pure (.type "method_descriptor") := by show builtinType _ = _; rw [builtinType_eq_fast]; kernel_rfl
theorem entry_pat_sub : entryFor table "re.Pattern.sub" = some Builtin.«re.Pattern.sub» := entryFor_of_tree (by kernel_rfl)
theorem entry_pat_loop : entryFor table "re.Pattern.sub.loop" = some Builtin.«re.Pattern.sub.loop» := entryFor_of_tree (by kernel_rfl)
theorem args_pat_sub (a b c : Value) : argsOk "re.Pattern.sub" ⟨[a, b, c], []⟩ := by
  unfold argsOk; kernel_rfl
end Mine

/-! SRE2 -/
namespace Mine
open PySem.Sre
theorem runFor_done {m : M} (h : m.outcome.isSome = true) : ∀ n, M.runFor n m = m
  | 0 => rfl
  | n + 1 => by rw [M.runFor, if_pos h]
theorem runFor_add : ∀ (a b : Nat) (m : M), M.runFor (a + b) m = M.runFor b (M.runFor a m)
  | 0, b, m => by rw [Nat.zero_add]; rfl
  | a + 1, b, m => by
    rw [Nat.add_right_comm, M.runFor, M.runFor]
    by_cases h : m.outcome.isSome = true
    · rw [if_pos h, if_pos h, runFor_done h]
    · rw [if_neg h, if_neg h, runFor_add a b]
theorem runFor_step {m : M} (h : m.outcome = none) (n : Nat) : M.runFor (n + 1) m = M.runFor n m.step := by
  rw [M.runFor, if_neg (by rw [h]; simp)]
def code1 : Array Nat := #[14, 4, 0, 1, 1, 6, 1, 16, 46, 1]
def code2 : Array Nat := #[14, 9, 4, 1, 2, 16, 10, 16, 13, 0, 7, 7, 16, 13, 16, 10, 15, 18, 5, 16, 10, 15, 13, 11, 16, 13, 5, 5, 0, 16, 10, 1, 15, 2, 0, 1]
/-- the machine behind an attempt at place s -/
def atS (code text : Array Nat) (pc s ls : Nat) (first must : Bool) (seen : Sre.Seen) : M :=
  { code, text, lim := text.size, start := s, lastStart := ls, mustAdvance := must, pc, pos := s, handed := s, outermost := first, marks := #[], frames := [{ wait := .nextStart, pc, pos := s, outermost := first }], weight := 1, seen }
theorem s1_at (text : Array Nat) (s ls : Nat) (f mu : Bool) (seen : Sre.Seen) : (atS code1 text 5 s ls f mu seen).step =
    (if (s == 0 || text.getD (s - 1) 0 == 10) = true then { atS code1 text 5 s ls f mu ((seen.add 6).add 44) with pc := 7 } else { atS code1 text 5 s ls f mu ((seen.add 6).add 44) with answer := some false }) := rfl
theorem s1_lit_end (text : Array Nat) (s ls : Nat) (f mu : Bool) (seen : Sre.Seen) (h : s ≥ text.size) : ({ atS code1 text 5 s ls f mu seen with pc := 7 } : M).step = { atS code1 text 5 s ls f mu (seen.add 16) with pc := 7, answer := some false } := by
  show (if s ≥ text.size then _ else _) = _
  rw [if_pos h]
  rfl
theorem s1_lit (text : Array Nat) (s ls : Nat) (f mu : Bool) (seen : Sre.Seen) (h : ¬ s ≥ text.size) : ({ atS code1 text 5 s ls f mu seen with pc := 7 } : M).step =
    if text.getD s 0 = 46 then { atS code1 text 5 s ls f mu (seen.add 16) with pc := 9, pos := s + 1 } else { atS code1 text 5 s ls f mu (seen.add 16) with pc := 7, answer := some false } := by
  show (if s ≥ text.size then _ else match (Except.ok (text.getD s 0 == 46, seen.add 16) : Except String (Bool × Sre.Seen)) with | .error _ => _ | .ok (false, _) => _ | .ok (true, _) => _) = _
  rw [if_neg h]
  by_cases e : text.getD s 0 = 46
  · rw [if_pos e, beq_iff_eq.mpr e]
    rfl
  · rw [if_neg e, beq_eq_false_iff_ne.mpr e]
    rfl
theorem s1_suc (text : Array Nat) (s ls : Nat) (f mu : Bool) (seen : Sre.Seen) : ({ atS code1 text 5 s ls f mu seen with pc := 9, pos := s + 1 } : M).step = { atS code1 text 5 s ls f mu (seen.add 1) with pc := 9, pos := s + 1, handed := s + 1, answer := some true } := by
  show (if (f && ((false && _) || (mu && (s + 1 == s)))) = true then _ else _) = _
  rw [if_neg (by simp)]
  rfl
/-- the answer yes goes down through the one frame that is left -/
theorem yes_ends (code text : Array Nat) (pc s ls pc' pos' : Nat) (f f' mu : Bool) (h : Nat) (seen : Sre.Seen) : ∃ m', M.runFor 2 { atS code text pc s ls f mu seen with pc := pc', pos := pos', outermost := f', handed := h, answer := some true } = m' ∧ m'.outcome = some .matched ∧ m'.start = s ∧ m'.handed = h :=
  ⟨_, rfl, rfl, rfl, rfl⟩
theorem s1_no (text : Array Nat) (s ls pc' : Nat) (f mu : Bool) (seen : Sre.Seen) (h : s < ls) : ({ atS code1 text 5 s ls f mu seen with pc := pc', answer := some false } : M).step = atS code1 text 5 (s + 1) ls false false seen := by
  show (if false = true then _ else if s < ls then _ else _) = _
  rw [if_neg (by simp), if_pos h]
  rfl
theorem no_ends (code text : Array Nat) (pc s ls pc' : Nat) (f mu : Bool) (seen : Sre.Seen) (h : ¬ s < ls) : ∃ m', M.runFor 2 { atS code text pc s ls f mu seen with pc := pc', answer := some false } = m' ∧ m'.outcome = some .failed := by
  refine ⟨_, rfl, ?_⟩
  rw [runFor_step rfl]
  have : ({ atS code text pc s ls f mu seen with pc := pc', answer := some false } : M).step = { atS code text pc s ls f mu seen with frames := [], weight := 0, answer := some false } := by
    show (if false = true then _ else if s < ls then _ else _) = _
    rw [if_neg (by simp), if_neg h]
    rfl
  rw [this]
  rfl
def fnd1 (text : Array Nat) : Nat → Nat → Option Nat
  | _, 0 => none
  | s, k + 1 => if (s = 0 ∨ text.getD (s - 1) 0 = 10) ∧ text.getD s 0 = 46 then some s else fnd1 text (s + 1) k
def Found (r : Option (Nat × Nat)) (m : M) : Prop := match r with
  | some (p, e) => m.outcome = some .matched ∧ m.start = p ∧ m.handed = e
  | none => m.outcome = some .failed
theorem srch1 (text : Array Nat) : ∀ (k s : Nat) (f mu : Bool) (seen : Sre.Seen), s + k = text.size → ∃ n, n ≤ 5 * (k + 1) ∧ Found ((fnd1 text s k).map fun p => (p, p + 1)) (M.runFor n (atS code1 text 5 s text.size f mu seen))
  | 0, s, f, mu, seen, h => by
    have hs : s ≥ text.size := by omega
    have hn : ¬ s < text.size := by omega
    show ∃ n, n ≤ 5 * (0 + 1) ∧ (M.runFor n (atS code1 text 5 s text.size f mu seen)).outcome = some .failed
    by_cases hb : (s == 0 || text.getD (s - 1) 0 == 10) = true
    · obtain ⟨m', h1, h2⟩ := no_ends code1 text 5 s text.size 7 f mu (((seen.add 6).add 44).add 16) hn
      exact ⟨4, by omega, by rw [runFor_step rfl 3, s1_at, if_pos hb, runFor_step rfl 2, s1_lit_end _ _ _ _ _ _ hs, h1, h2]⟩
    · obtain ⟨m', h1, h2⟩ := no_ends code1 text 5 s text.size 5 f mu ((seen.add 6).add 44) hn
      exact ⟨3, by omega, by rw [runFor_step rfl 2, s1_at, if_neg hb]; exact h1 ▸ h2⟩
  | k + 1, s, f, mu, seen, h => by
    have hs : ¬ s ≥ text.size := by omega
    have hl : s < text.size := by omega
    have hb : (s == 0 || text.getD (s - 1) 0 == 10) = decide (s = 0 ∨ text.getD (s - 1) 0 = 10) := by
      rw [Bool.eq_iff_iff]; simp
    by_cases h1 : s = 0 ∨ text.getD (s - 1) 0 = 10
    · by_cases h2 : text.getD s 0 = 46
      · have e : fnd1 text s (k + 1) = some s := by rw [fnd1, if_pos ⟨h1, h2⟩]
        rw [e]
        obtain ⟨m', a, b⟩ := yes_ends code1 text 5 s text.size 9 (s + 1) f f mu (s + 1) ((((seen.add 6).add 44).add 16).add 1)
        refine ⟨5, by omega, ?_⟩
        rw [runFor_step rfl 4, s1_at, if_pos (by rw [hb]; exact decide_eq_true h1), runFor_step rfl 3, s1_lit _ _ _ _ _ _ hs, if_pos h2, runFor_step rfl 2, s1_suc]
        exact a ▸ b
      · have e : fnd1 text s (k + 1) = fnd1 text (s + 1) k := by rw [fnd1, if_neg (fun z => h2 z.2)]
        obtain ⟨n, hn, hf⟩ := srch1 text k (s + 1) false false (((seen.add 6).add 44).add 16) (by omega)
        rw [e]
        refine ⟨n + 3, by omega, ?_⟩
        rw [runFor_step rfl (n + 2), s1_at, if_pos (by rw [hb]; exact decide_eq_true h1), runFor_step rfl (n + 1), s1_lit _ _ _ _ _ _ hs, if_neg h2, runFor_step rfl n, s1_no _ _ _ _ _ _ _ hl]
        exact hf
    · have e : fnd1 text s (k + 1) = fnd1 text (s + 1) k := by rw [fnd1, if_neg (fun z => h1 z.1)]
      obtain ⟨n, hn, hf⟩ := srch1 text k (s + 1) false false ((seen.add 6).add 44) (by omega)
      rw [e]
      refine ⟨n + 2, by omega, ?_⟩
      rw [runFor_step rfl (n + 1), s1_at, if_neg (by rw [hb]; simpa using h1), runFor_step rfl n]
      have := s1_no text s text.size 5 f mu ((seen.add 6).add 44) hl
      rw [show ({ atS code1 text 5 s text.size f mu ((seen.add 6).add 44) with answer := some false } : M).step = _ from this]
      exact hf
end Mine

/-! SRE3 -/
namespace Mine
open PySem.Sre
theorem step_exec {m : M} (ho : m.outcome = none) (ha : m.answer = none) (hpc : m.pc < m.code.size) : m.step = m.exec := by
  unfold M.step
  rw [if_neg (by rw [ho]; simp), ha]
  exact if_pos hpc
theorem lit_yes {m : M} (ho : m.outcome = none) (ha : m.answer = none) (hpc : m.pc < m.code.size) (hw : m.code.getD m.pc 0 = 16) (hr : m.pos < m.lim) (hc : m.text.getD m.pos 0 = m.code.getD (m.pc + 1) 0) :
    m.step = { m with seen := m.seen.add 16, pc := m.pc + 2, pos := m.pos + 1 } := by
  rw [step_exec ho ha hpc]
  have hw' : m.word 0 = 16 := hw
  unfold M.exec
  rw [hw']
  show (if m.pos ≥ m.lim then _ else _) = _
  rw [if_neg (Nat.not_le.mpr hr)]
  have : accepts m.code m.pc (m.text.getD m.pos 0) (m.seen.add 16) = .ok (true, m.seen.add 16) := by
    unfold accepts
    rw [hw]
    show Except.ok (m.text.getD m.pos 0 == m.code.getD (m.pc + 1) 0, m.seen.add 16) = _
    rw [beq_iff_eq.mpr hc]
  simp only [this]
  have : itemWidth m.code m.pc = 2 := by unfold itemWidth; rw [hw]; rfl
  rw [this]
theorem lit_no {m : M} (ho : m.outcome = none) (ha : m.answer = none) (hpc : m.pc < m.code.size) (hw : m.code.getD m.pc 0 = 16) (hc : m.pos ≥ m.lim ∨ m.text.getD m.pos 0 ≠ m.code.getD (m.pc + 1) 0) :
    m.step = { m with seen := m.seen.add 16, answer := some false } := by
  rw [step_exec ho ha hpc]
  have hw' : m.word 0 = 16 := hw
  unfold M.exec
  rw [hw']
  show (if m.pos ≥ m.lim then _ else _) = _
  by_cases hr : m.pos ≥ m.lim
  · rw [if_pos hr]; rfl
  rw [if_neg hr]
  have hc := hc.resolve_left hr
  have : accepts m.code m.pc (m.text.getD m.pos 0) (m.seen.add 16) = .ok (false, m.seen.add 16) := by
    unfold accepts
    rw [hw]
    show Except.ok (m.text.getD m.pos 0 == m.code.getD (m.pc + 1) 0, m.seen.add 16) = _
    rw [beq_eq_false_iff_ne.mpr hc]
  simp only [this]
  rfl
theorem suc_yes {m : M} (ho : m.outcome = none) (ha : m.answer = none) (hpc : m.pc < m.code.size) (hw : m.code.getD m.pc 0 = 1) (h1 : m.wholeText = false) (h2 : m.mustAdvance = false) :
    m.step = { m with seen := m.seen.add 1, handed := m.pos, answer := some true } := by
  rw [step_exec ho ha hpc]
  have hw' : m.word 0 = 1 := hw
  unfold M.exec
  rw [hw']
  show (if (m.outermost && ((m.wholeText && _) || (m.mustAdvance && _))) = true then _ else _) = _
  rw [h1, h2, if_neg (by simp)]
  rfl
def fnd2 (text : Array Nat) : Nat → Nat → Option Nat
  | _, 0 => none
  | s, k + 1 => if text.getD s 0 = 10 ∨ text.getD s 0 = 13 then some s else fnd2 text (s + 1) k
theorem inSet2 (c : Nat) (seen : Sre.Seen) : inSet code2 c 36 5 true seen = if (c == 10) = true then .ok (true, seen.add 16) else if (c == 13) = true then .ok (true, (seen.add 16).add 16) else .ok (false, ((seen.add 16).add 16).add 0) := rfl
theorem adm2 (m : M) (hc : m.code = code2) (hl : m.lim = m.text.size) : ∀ (k s : Nat) (seen : Sre.Seen), s + k = m.text.size → ∃ seen', M.admitted m (k + 1) s seen = .ok (fnd2 m.text s k, seen')
  | 0, s, seen, h => by
    refine ⟨seen, ?_⟩
    rw [M.admitted, if_pos (by rw [hl]; omega)]
    rfl
  | k + 1, s, seen, h => by
    rw [M.admitted, if_neg (by rw [hl]; omega), hc]
    have e : inSet code2 (m.text.getD s 0) code2.size 5 true seen = _ := inSet2 (m.text.getD s 0) seen
    rw [e, fnd2]
    by_cases h1 : m.text.getD s 0 = 10
    · rw [if_pos (beq_iff_eq.mpr h1), if_pos (.inl h1)]; exact ⟨_, rfl⟩
    · rw [if_neg (by simpa using h1)]
      by_cases h2 : m.text.getD s 0 = 13
      · rw [if_pos (beq_iff_eq.mpr h2), if_pos (.inr h2)]; exact ⟨_, rfl⟩
      · rw [if_neg (by simpa using h2), if_neg (fun z => z.elim h1 h2)]
        exact adm2 m hc hl k (s + 1) _ (by omega)
def len2 (text : Array Nat) (s : Nat) : Nat := if text.getD s 0 = 13 ∧ s + 1 < text.size ∧ text.getD (s + 1) 0 = 10 then 2 else 1
def S2 (text : Array Nat) (s ls : Nat) (pc pos h : Nat) (out : Bool) (fr : List Sre.Frame) (w : Nat) (ans : Option Bool) (seen : Sre.Seen) : M :=
  { code := code2, text, lim := text.size, start := s, lastStart := ls, mustAdvance := false, pc, pos, handed := h, outermost := out, marks := #[], frames := fr, weight := w, answer := ans, seen }
def F0 (s : Nat) (f : Bool) : Sre.Frame := { wait := .nextStart, pc := 10, pos := s, outermost := f }
def FB (k s : Nat) (f : Bool) : Sre.Frame := { wait := .nextBranch, pc := k, pos := s, outermost := f }
def FN (s : Nat) (f : Bool) : Sre.Frame := { wait := .lookNot, pc := 26, pos := s, outermost := f }
section
variable (text : Array Nat) (s ls : Nat) (f : Bool) (seen : Sre.Seen)
theorem z0 : (atS code2 text 10 s ls f false seen).step = S2 text s ls 12 s s f [FB 11 s f, F0 s f] 2 none (seen.add 7) := rfl
theorem zyes (pc : Nat) (hw : code2.getD pc 0 = 16) (hp : pc < 36) (pos h : Nat) (fr : List Sre.Frame) (w : Nat) (hr : pos < text.size) (hc : text.getD pos 0 = code2.getD (pc + 1) 0) :
    (S2 text s ls pc pos h f fr w none seen).step = S2 text s ls (pc + 2) (pos + 1) h f fr w none (seen.add 16) :=
  lit_yes (m := S2 text s ls pc pos h f fr w none seen) rfl rfl hp hw hr hc
theorem zno (pc : Nat) (hw : code2.getD pc 0 = 16) (hp : pc < 36) (pos h : Nat) (fr : List Sre.Frame) (w : Nat) (hc : pos ≥ text.size ∨ text.getD pos 0 ≠ code2.getD (pc + 1) 0) :
    (S2 text s ls pc pos h f fr w none seen).step = S2 text s ls pc pos h f fr w (some false) (seen.add 16) :=
  lit_no (m := S2 text s ls pc pos h f fr w none seen) rfl rfl hp hw hc
theorem zalt2 (pc pos h : Nat) : (S2 text s ls pc pos h f [FB 11 s f, F0 s f] 2 (some false) seen).step = S2 text s ls 19 s s f [FB 18 s f, F0 s f] 2 none seen := rfl
theorem zalt3 (pc pos h : Nat) : (S2 text s ls pc pos h f [FB 18 s f, F0 s f] 2 (some false) seen).step = S2 text s ls 24 s s f [FB 23 s f, F0 s f] 2 none seen := rfl
theorem znot (pos h : Nat) (fr : List Sre.Frame) : (S2 text s ls 26 pos h f [FB 23 s f, F0 s f] 2 none seen).step = S2 text s ls 29 pos pos false [FN pos f, FB 23 s f, F0 s f] 3 none (seen.add 5) := rfl
theorem znots (pc pos h : Nat) (g : Bool) : (S2 text s ls pc pos h g [FN pos f, FB 23 s f, F0 s f] 3 (some false) seen).step = S2 text s ls 32 pos h f [FB 23 s f, F0 s f] 2 none seen := rfl
theorem zjmp (pos h : Nat) (fr : List Sre.Frame) (w : Nat) : (S2 text s ls 32 pos h f fr w none seen).step = S2 text s ls 35 pos h f fr w none (seen.add 15) := rfl
theorem zjmp1 (pos h : Nat) (fr : List Sre.Frame) (w : Nat) : (S2 text s ls 16 pos h f fr w none seen).step = S2 text s ls 35 pos h f fr w none (seen.add 15) := rfl
theorem zjmp2 (pos h : Nat) (fr : List Sre.Frame) (w : Nat) : (S2 text s ls 21 pos h f fr w none seen).step = S2 text s ls 35 pos h f fr w none (seen.add 15) := rfl
theorem zsuc (pos h : Nat) (fr : List Sre.Frame) (w : Nat) : (S2 text s ls 35 pos h f fr w none seen).step = S2 text s ls 35 pos pos f fr w (some true) (seen.add 1) :=
  suc_yes (m := S2 text s ls 35 pos h f fr w none seen) rfl rfl (Nat.le_of_ble_eq_true rfl) rfl rfl rfl
theorem zend (pc pos h k : Nat) : M.runFor 3 (S2 text s ls pc pos h f [FB k s f, F0 s f] 2 (some true) seen) = { S2 text s ls 10 s h f [] 0 (some true) seen with outcome := some .matched } := rfl
end
theorem rs (text : Array Nat) (s ls pc pos h : Nat) (f : Bool) (fr : List Sre.Frame) (w : Nat) (a : Option Bool) (seen : Sre.Seen) (n : Nat) : M.runFor (n + 1) (S2 text s ls pc pos h f fr w a seen) = M.runFor n (S2 text s ls pc pos h f fr w a seen).step := runFor_step rfl n
theorem att2 (text : Array Nat) (s ls : Nat) (f : Bool) (seen : Sre.Seen) (hs : s < text.size) (hc : text.getD s 0 = 10 ∨ text.getD s 0 = 13) :
    ∃ n, n ≤ 40 ∧ Found (some (s, s + len2 text s)) (M.runFor n (atS code2 text 10 s ls f false seen)) := by
  by_cases h13 : text.getD s 0 = 13
  · by_cases h10 : s + 1 < text.size ∧ text.getD (s + 1) 0 = 10
    · have e : len2 text s = 2 := if_pos ⟨h13, h10⟩
      rw [e]
      refine ⟨8, by omega, ?_⟩
      rw [runFor_step rfl 7, z0, rs, zyes _ _ _ _ _ 12 rfl (by omega) s _ _ _ hs h13, rs, zyes _ _ _ _ _ 14 rfl (by omega) (s + 1) _ _ _ h10.1 h10.2, rs, zjmp1, rs, zsuc, zend]
      exact ⟨rfl, rfl, rfl⟩
    · have e : len2 text s = 1 := if_neg (fun z => h10 z.2)
      have hn : s + 1 ≥ text.size ∨ text.getD (s + 1) 0 ≠ 10 := by
        by_cases z : s + 1 < text.size
        · exact .inr fun q => h10 ⟨z, q⟩
        · exact .inl (by omega)
      rw [e]
      refine ⟨15, by omega, ?_⟩
      rw [runFor_step rfl 14, z0, rs, zyes _ _ _ _ _ 12 rfl (by omega) s _ _ _ hs h13, rs, zno _ _ _ _ _ 14 rfl (by omega) (s + 1) _ _ _ hn, rs, zalt2, rs,
        zno _ _ _ _ _ 19 rfl (by omega) s _ _ _ (.inr (fun z => by rw [h13] at z; exact nomatch z)), rs, zalt3, rs, zyes _ _ _ _ _ 24 rfl (by omega) s _ _ _ hs h13, rs, znot _ _ _ _ _ _ _ [], rs,
        zno _ _ _ _ _ 29 rfl (by omega) (s + 1) _ _ _ hn, rs, znots, rs, zjmp, rs, zsuc, zend]
      exact ⟨rfl, rfl, rfl⟩
  · have h10 : text.getD s 0 = 10 := hc.resolve_right h13
    have e : len2 text s = 1 := if_neg (fun z => h13 z.1)
    rw [e]
    refine ⟨9, by omega, ?_⟩
    rw [runFor_step rfl 8, z0, rs, zno _ _ _ _ _ 12 rfl (by omega) s _ _ _ (.inr h13), rs, zalt2, rs, zyes _ _ _ _ _ 19 rfl (by omega) s _ _ _ hs h10, rs, zjmp2, rs, zsuc, zend]
    exact ⟨rfl, rfl, rfl⟩
end Mine

/-! SRE4 -/
namespace Mine
open PySem.Sre PySem.Builtin PySem.Builtin.Re
variable {prog : Program} {w : World} {A : Around} {E : Value → Shared → Prop} {s : Shared}
theorem reDrive_ends : ∀ (turns n : Nat) (m : M) (Q : M → Shared → Prop), n ≤ 4 * turns → 1 ≤ turns → (M.runFor n m).outcome.isSome = true → Q (M.runFor n m) s → wpAny (model prog w) A (reDrive turns m) Q E s
  | 0, _, _, _, _, h, _, _ => absurd h (by omega)
  | t + 1, n, m, Q, hn, _, hd, hq => by
    unfold reDrive
    show wpAny _ _ (if (M.runFor 4 m).outcome.isSome = true then _ else _) _ _ _
    by_cases h4 : (M.runFor 4 m).outcome.isSome = true
    · have e : M.runFor n m = M.runFor reTurnSteps m := by
        show _ = M.runFor 4 m
        rcases Nat.le_total n 4 with h | h
        · rw [show 4 = n + (4 - n) by omega, runFor_add, runFor_done hd]
        · rw [show n = 4 + (n - 4) by omega, runFor_add, runFor_done h4]
      rw [if_pos h4, ← e]
      exact wpAny_pure hq
    · rw [if_neg h4]
      refine wpAny_bind (wpAny_rule ?_)
      have hn4 : 4 ≤ n := by
        refine Nat.le_of_not_lt fun z => h4 ?_
        rw [show 4 = n + (4 - n) by omega, runFor_add, runFor_done hd]
        exact hd
      have e : M.runFor n m = M.runFor (n - 4) (M.runFor 4 m) := by
        rw [← runFor_add]
        congr 1
        omega
      rw [e] at hd hq
      cases t with
      | zero => 
        exfalso
        have : n - 4 = 0 := by omega
        rw [this] at hd
        exact h4 hd
      | succ t => exact reDrive_ends (t + 1) (n - 4) (M.runFor 4 m) Q (by omega) (by omega) hd hq
theorem runToEnd_found {m : M} {n : Nat} {r : Option (Nat × Nat)} {Q : Option M → Shared → Prop} (hn : n ≤ 4 * 2 ^ 64) (hf : Found r (M.runFor n m))
    (h : match r with | some (p, e) => ∀ m', m'.start = p → m'.handed = e → Q (some m') s | none => Q none s) : wpAny (model prog w) A (reRunToEnd m) Q E s := by
  unfold reRunToEnd
  have hd : (M.runFor n m).outcome.isSome = true := by
    cases r with
    | none => have h1 : (M.runFor n m).outcome = some .failed := hf; rw [h1]; rfl
    | some pe => have h1 : (M.runFor n m).outcome = some .matched := hf.1; rw [h1]; rfl
  refine wpAny_bind (reDrive_ends (2 ^ 64) n m _ hn (by omega) hd ?_)
  refine wpAny_bind ?_
  refine wpAny_forIn_list _ (fun _ _ s' => s' = s) _ ?_ ?_ _ _ rfl
  · rintro x rest b s' rfl
    by_cases hs : Seen.has (M.runFor n m).seen x = true
    · rw [if_pos hs]
      exact wpAny_bind (wpAny_rule (wpAny_pure rfl))
    · rw [if_neg hs]
      exact wpAny_pure rfl
  · rintro b s' rfl
    cases r with
    | none =>
      have h1 : (M.runFor n m).outcome = some .failed := hf
      rw [h1]
      exact wpAny_pure h
    | some pe =>
      have h1 : (M.runFor n m).outcome = some .matched := hf.1
      rw [h1]
      exact wpAny_pure (h _ hf.2.1 hf.2.2)
def nx1 (text : Array Nat) (start : Nat) : Option (Nat × Nat) := (fnd1 text start (text.size - start)).map fun p => (p, p + 1)
def nx2 (text : Array Nat) (start : Nat) : Option (Nat × Nat) := (fnd2 text start (text.size - start)).map fun p => (p, p + len2 text p)
theorem fs1 (text : Array Nat) (start : Nat) (must : Bool) : forSearch code1 text 0 start text.size must =
    if (decide (start > text.size) || decide (text.size - start < 1)) = true then { code := code1, text, lim := text.size, start, pc := 5, pos := start, handed := start, marks := #[], mustAdvance := must, seen := ({} : Sre.Seen).add 14, answer := some false } else
    atS code1 text 5 start text.size true must (({} : Sre.Seen).add 14) := rfl
theorem nxt1 (text : Array Nat) (start : Nat) (must : Bool) (hz : text.size ≤ 1000000) (hs : start ≤ text.size) : ∃ n, n ≤ 4 * 2 ^ 64 ∧ Found (nx1 text start) (M.runFor n (forSearch code1 text 0 start text.size must)) := by
  rw [fs1]
  by_cases h : text.size - start < 1
  · rw [if_pos (by simp only [Bool.or_eq_true, decide_eq_true_eq]; exact .inr h)]
    have e : nx1 text start = none := by
      unfold nx1
      rw [show text.size - start = 0 by omega]
      rfl
    rw [e]
    exact ⟨1, by omega, rfl⟩
  · rw [if_neg (by simp only [Bool.or_eq_true, decide_eq_true_eq]; omega)]
    obtain ⟨n, hn, hf⟩ := srch1 text (text.size - start) start true must (({} : Sre.Seen).add 14) (by omega)
    exact ⟨n, by omega, hf⟩
theorem fs2 (text : Array Nat) (start : Nat) (must : Bool) : forSearch code2 text 0 start text.size must =
    if (decide (start > text.size) || decide (text.size - start < 1)) = true then { code := code2, text, lim := text.size, start, pc := 10, pos := start, handed := start, marks := #[], mustAdvance := must, seen := ({} : Sre.Seen).add 14, answer := some false } else
    match M.admitted { code := code2, text, lim := text.size, lastStart := text.size, start, pc := 10, pos := start, handed := start, marks := #[], mustAdvance := must, seen := ({} : Sre.Seen).add 14 } (text.size + 1 - start) start (({} : Sre.Seen).add 14) with
    | .ok (some p, seen) => atS code2 text 10 p text.size true false seen
    | .ok (none, seen) => { code := code2, text, lim := text.size, lastStart := text.size, start, pc := 10, pos := start, handed := start, marks := #[], mustAdvance := must, seen, answer := some false }
    | .error why => M.stick { code := code2, text, lim := text.size, lastStart := text.size, start, pc := 10, pos := start, handed := start, marks := #[], mustAdvance := must, seen := ({} : Sre.Seen).add 14 } why := rfl
theorem fnd2_some {text : Array Nat} : ∀ (k s : Nat) {p : Nat}, fnd2 text s k = some p → s ≤ p ∧ p < s + k ∧ (text.getD p 0 = 10 ∨ text.getD p 0 = 13)
  | 0, _, _, h => nomatch h
  | k + 1, s, p, h => by
    rw [fnd2] at h
    split at h
    · cases h; exact ⟨Nat.le_refl _, by omega, by assumption⟩
    · have := fnd2_some k (s + 1) h
      exact ⟨by omega, by omega, this.2.2⟩
theorem fnd1_some {text : Array Nat} : ∀ (k s : Nat) {p : Nat}, fnd1 text s k = some p → s ≤ p ∧ p < s + k
  | 0, _, _, h => nomatch h
  | k + 1, s, p, h => by
    rw [fnd1] at h
    split at h
    · cases h; exact ⟨Nat.le_refl _, by omega⟩
    · have := fnd1_some k (s + 1) h
      exact ⟨by omega, by omega⟩
theorem nxt2 (text : Array Nat) (start : Nat) (must : Bool) (hs : start ≤ text.size) : ∃ n, n ≤ 4 * 2 ^ 64 ∧ Found (nx2 text start) (M.runFor n (forSearch code2 text 0 start text.size must)) := by
  rw [fs2]
  by_cases h : text.size - start < 1
  · rw [if_pos (by simp only [Bool.or_eq_true, decide_eq_true_eq]; exact .inr h)]
    have e : nx2 text start = none := by
      unfold nx2
      rw [show text.size - start = 0 by omega]
      rfl
    rw [e]
    exact ⟨1, by omega, rfl⟩
  · rw [if_neg (by simp only [Bool.or_eq_true, decide_eq_true_eq]; omega)]
    obtain ⟨seen', ha⟩ := adm2 { code := code2, text, lim := text.size, lastStart := text.size, start, pc := 10, pos := start, handed := start, marks := #[], mustAdvance := must, seen := ({} : Sre.Seen).add 14 } rfl rfl (text.size - start) start (({} : Sre.Seen).add 14) (show start + (text.size - start) = text.size by omega)
    rw [show text.size + 1 - start = text.size - start + 1 by omega, ha]
    dsimp only
    unfold nx2
    cases hf : fnd2 text start (text.size - start) with
    | none => exact ⟨1, by omega, rfl⟩
    | some p =>
      have hp := fnd2_some _ _ hf
      obtain ⟨n, hn, h2⟩ := att2 text p text.size true seen' (by omega) hp.2.2
      exact ⟨n, by omega, h2⟩
/-- a pattern object of a text pattern without groups -/
def Pat (h : Heap) (a : Addr) (code : Array Nat) : Prop := ∃ o fs c oc items n, h.get? a = some o ∧ o.cls = .type "re.Pattern" ∧ o.dict = none ∧ o.data = .fields fs ∧ reRawNat (fs.getD 6 .none) = 0 ∧ reRawNat (fs.getD 2 .none) = 0 ∧ fs.getD 5 .none = .ref c ∧
  h.get? c = some oc ∧ oc.data = .seq items n ∧ (items.map reRawOf).map (·.toNat) = code
theorem Pat.keeps {h h' : Heap} {a : Addr} {code : Array Nat} (P : Pat h a code) (k : ∀ b o, h.get? b = some o → h'.get? b = some o) : Pat h' a code := by
  obtain ⟨o, fs, c, oc, items, n, h1, h2, h2d, h3, h4, h5, h6, h7, h8, h9⟩ := P
  exact ⟨o, fs, c, oc, items, n, k _ _ h1, h2, h2d, h3, h4, h5, h6, k _ _ h7, h8, h9⟩
theorem wp_target {a : Addr} {code : Array Nat} {x : Str} {t : Tok} {Q : ReTarget → Shared → Prop} (P : Pat s.heap a code)
    (h : Q { pattern := .ref a, string := .str x t, code, text := x.cps, kind := 0, groups := 0, pos := 0, lim := x.cps.size } s) : wpAny (model prog w) A (reWholeTarget (.ref a) (.str x t)) Q E s := by
  obtain ⟨o, fs, c, oc, items, n, h1, h2, h2d, h3, h4, h5, h6, h7, h8, h9⟩ := P
  unfold reWholeTarget
  refine wpAny_bind (wpAny_fieldsOf h1 h3 ?_)
  refine wpAny_bind (wpAny_of_eq (a := (x.cps, 0)) rfl ?_)
  rw [h4, h5, h6]
  refine wpAny_bind (wpAny_of_eq (a := ()) rfl ?_)
  unfold reRawItems
  refine wpAny_bind (wpAny_bind (wpAny_seqItems h7 h8 (wpAny_pure ?_)))
  refine wpAny_pure ?_
  have : (((some items : Option (Array Value)).getD #[]).map reRawOf).map (·.toNat) = code := h9
  rw [this]
  exact h
theorem wp_pushD {D : Addr} {items : Array Value} {v : Value} {Q : Unit → Shared → Prop} (hl : s.heap.IsList D items) (hz : items.size + 1 ≤ sizeLine)
    (h : ∀ h', h'.IsList D (items.push v) → (∀ b o, b ≠ D → s.heap.get? b = some o → h'.get? b = some o) → Q () { s with heap := h' }) : wpAny (model prog w) A (updateSeq D (·.push v)) Q E s := by
  obtain ⟨o, ho, hc, n, hd⟩ := hl
  refine wpAny_updateSeq ho hd (h _ ?_ ?_) (by omega) (by simp only [Array.size_push]; omega)
  · obtain ⟨oc, od, odt, osl⟩ := o
    simp only at hd hc
    subst hd hc
    exact ⟨_, Heap.get?_update_self _ ho rfl, rfl, _, rfl⟩
  · intro b ob hb hob
    rw [Heap.get?_update_ne _ _ _ _ hb]
    exact hob
/-- the pieces that sub joins -/
def subP (nx : Nat → Option (Nat × Nat)) (x repl : Str) : Nat → Nat → List Str
  | 0, _ => []
  | k + 1, d => match nx d with
    | some (p, e) => (if d < p then [⟨x.cps.extract d p⟩] else []) ++ repl :: subP nx x repl k e
    | none => if d < x.cps.size then [⟨x.cps.extract d x.cps.size⟩] else []
theorem sum_snoc (ys : List Str) (y : Str) : ((ys ++ [y]).map (·.length)).sum + (ys ++ [y]).length = (ys.map (·.length)).sum + ys.length + y.length + 1 := by
  simp only [List.map_append, List.map_cons, List.map_nil, List.sum_append, List.sum_cons, List.sum_nil, List.length_append, List.length_cons, List.length_nil]
  omega
theorem strs_snoc' {vs : List Value} {xs : List Str} (h : StrsAre vs xs) (y : Str) (t : Tok) : StrsAre (vs ++ [.str y t]) (xs ++ [y]) := by
  induction h with
  | nil => exact .cons y t .nil
  | cons a u _ ih => exact .cons a u ih
theorem strs_len' {vs : List Value} {xs : List Str} (h : StrsAre vs xs) : vs.length = xs.length := by
  induction h with
  | nil => rfl
  | cons y t _ ih => simp [ih]
section
variable {code : Array Nat} {nx : Nat → Option (Nat × Nat)} {x repl : Str} {a D : Addr} {t tr : Tok} {h₀ : Heap}
theorem sub_loop (hx : x.length ≤ 100000) (hr : repl.length ≤ 2) (hD : h₀.get? D = none) (hP₀ : Pat h₀ a code)
    (hnx : ∀ d must, d ≤ x.cps.size → ∃ n, n ≤ 4 * 2 ^ 64 ∧ Found (nx d) (M.runFor n (forSearch code x.cps 0 d x.cps.size must)))
    (hb : ∀ d p e, d ≤ x.cps.size → nx d = some (p, e) → d ≤ p ∧ p < e ∧ e ≤ x.cps.size) : ∀ (k d n tk : Nat) (must : Bool) (items : Array Value) (ys : List Str) (h : Heap) (A : Around) (R : Result → Shared → Prop),
    x.cps.size - d < k → d ≤ x.cps.size → h.IsList D items → StrsAre items.toList ys → (ys.map (·.length)).sum + ys.length ≤ 4 * d → (∀ b o, h₀.get? b = some o → h.get? b = some o) →
    (∀ t' h' tk', (∀ b o, h₀.get? b = some o → h'.get? b = some o) → R (.ok (.ret (.str (Txt.join ⟨#[]⟩ (ys ++ subP nx x repl k d)) t'))) { s with heap := h', toks := tk' }) →
    codeAny (model prog w) A (.builtin "re.Pattern.sub.loop" ⟨[.ref a, .str x t, .str repl tr, rawInt 0, rawInt 0, rawInt n, rawInt d, rawInt d, .bool must, .ref D, .bool false], []⟩) R { s with heap := h, toks := tk }
  | 0, _, _, _, _, _, _, _, _, _, h, _, _, _, _, _, _ => absurd h (Nat.not_lt_zero _)
  | k + 1, d, n, tk, must, items, ys, h, A, R, hk, hd, hl, hs, hw, hkp, hR => by
    have hne : ∀ b o, h₀.get? b = some o → b ≠ D := fun b o z e => by rw [e, hD] at z; exact nomatch z
    have hxl : x.cps.size ≤ 100000 := hx
    have hil : items.size = ys.length := by rw [← strs_len' hs]; rfl
    refine codeAny_builtin entry_pat_loop ?_
    rw [Around.under_plainId (by decide +kernel)]
    unfold Builtin.«re.Pattern.sub.loop»
    dsimp only [rawInt]
    refine wpAny_bind (wp_target (hP₀.keeps hkp) ?_)
    refine wpAny_bind (wpAny_of_eq (a := ()) rfl ?_)
    dsimp only
    refine wpAny_bind ?_
    obtain ⟨n1, hn1, hf⟩ := hnx d must hd
    show wpAny _ _ (reRunToEnd (forSearch code x.cps 0 ((d : Int).toNat) x.cps.size must)) _ _ _
    rw [Int.toNat_natCast]
    cases hq : nx d with
    | none =>
      rw [hq] at hf
      refine runToEnd_found hn1 hf ?_
      dsimp only
      have fin : ∀ (items : Array Value) (zs : List Str) (h' : Heap) (tk' : Nat), h'.IsList D items → StrsAre items.toList zs → (zs.map (·.length)).sum + zs.length ≤ 1048576 → (∀ b o, h₀.get? b = some o → h'.get? b = some o) →
          (∀ t' h'' tk'', (∀ b o, h₀.get? b = some o → h''.get? b = some o) → R (.ok (.ret (.str (Txt.join ⟨#[]⟩ zs) t'))) { s with heap := h'', toks := tk'' }) →
          wpAny (model prog w) A.in1 (do
            let joiner ← reSlice x.cps 0 0 0
            let __do_lift ← seqItems? (Value.ref D)
            if (__do_lift.getD #[]).isEmpty = true then do
                let text ← pure joiner
                ret text
              else do
                let text ← call (Value.builtin "str.join") [joiner, Value.ref D]
                ret text) (fun fin s' => match fin with | .done f => R (.ok f) s' | .again c' => c'.quiet = true ∧ codeAny (model prog w) A c' R s') (fun e s' => R (.error e) s') { s with heap := h', toks := tk' } := by
        intro items zs h' tk' hl hs hw hk hR
        obtain ⟨o, ho, hc, n2, hdd⟩ := id hl
        have e0 : (⟨x.cps.extract 0 0⟩ : Str) = ⟨#[]⟩ := by simp
        refine wpAny_bind (show wpAny _ _ (mkStr ⟨x.cps.extract 0 0⟩) _ _ _ from ?_)
        rw [e0]
        refine wpAny_mkStr ?_ (by show (#[] : Array Nat).size ≤ sizeLine; rw [sizeLine_eq]; simp)
        refine wpAny_bind (wpAny_seqItems ho hdd ?_)
        by_cases hemp : items.isEmpty = true
        · rw [if_pos (show (((some items : Option (Array Value)).getD #[]).isEmpty = true) from hemp)]
          obtain rfl : items = #[] := by simpa using hemp
          cases hs
          exact wpAny_bind (wpAny_pure (wpAny_pure (hR _ _ _ hk)))
        · rw [if_neg (show ¬ (((some items : Option (Array Value)).getD #[]).isEmpty = true) from hemp)]
          refine wpAny_bind (join_listW hl hs (by show (#[] : Array Nat).size ≤ 16; simp) hw ?_)
          intro t' k'
          exact wpAny_pure (hR _ _ _ hk)
      by_cases hlt : d < x.cps.size
      · rw [if_pos hlt]
        refine wpAny_bind (show wpAny _ _ (mkStr ⟨x.cps.extract d x.cps.size⟩) _ _ _ from ?_)
        have hsz : (⟨x.cps.extract d x.cps.size⟩ : Str).length ≤ x.cps.size - d := by show (x.cps.extract d x.cps.size).size ≤ _; rw [Array.size_extract]; omega
        refine wpAny_mkStr ?_ (by rw [sizeLine_eq]; omega)
        refine wpAny_bind (wp_pushD hl (by rw [sizeLine_eq]; omega) ?_)
        intro h' hl' hk'
        refine fin (items.push (.str ⟨x.cps.extract d x.cps.size⟩ tk)) (ys ++ [⟨x.cps.extract d x.cps.size⟩]) h' (tk + 1) hl' ?_ ?_ (fun b o z => hk' b o (hne b o z) (hkp b o z)) ?_
        · rw [Array.toList_push]; exact strs_snoc' hs _ _
        · rw [sum_snoc]; omega
        · intro t' h'' tk'' hk''
          have := hR t' h'' tk'' hk''
          rw [subP, hq] at this
          dsimp only at this
          rw [if_pos hlt] at this
          exact this
      · rw [if_neg hlt]
        refine fin items ys h tk hl hs (by omega) hkp ?_
        intro t' h'' tk'' hk''
        have := hR t' h'' tk'' hk''
        rw [subP, hq] at this
        dsimp only at this
        rw [if_neg hlt, List.append_nil] at this
        exact this
    | some pe =>
      obtain ⟨p, e⟩ := pe
      obtain ⟨h1, h2, h3⟩ := hb d p e hd hq
      rw [hq] at hf
      refine runToEnd_found hn1 hf ?_
      rintro m' rfl rfl
      dsimp only
      have go : ∀ (items : Array Value) (zs : List Str) (h' : Heap) (tk' : Nat), h'.IsList D items → StrsAre items.toList zs → (zs.map (·.length)).sum + zs.length ≤ 4 * d + (m'.start - d) + (if d < m'.start then 1 else 0) → (∀ b o, h₀.get? b = some o → h'.get? b = some o) →
          ys ++ subP nx x repl (k + 1) d = zs ++ repl :: subP nx x repl k m'.handed →
          wpAny (model prog w) A.in1 (if (Value.str repl tr != Value.none) = true then do
            updateSeq D fun x => x.push (Value.str repl tr)
            again (Code.builtin "re.Pattern.sub.loop" { pos := [Value.ref a, Value.str x t, Value.str repl tr, Value.int 0 0, Value.int 0 0, Value.int (↑n + 1) 0, Value.int (↑m'.handed) 0, Value.int (↑m'.handed) 0, Value.bool (m'.handed == m'.start), Value.ref D, Value.bool false] })
            else again (Code.builtin "re.Pattern.sub.loop" { pos := [Value.ref a, Value.str x t, Value.str repl tr, Value.int 0 0, Value.int 0 0, Value.int (↑n + 1) 0, Value.int (↑m'.handed) 0, Value.int (↑m'.handed) 0, Value.bool (m'.handed == m'.start), Value.ref D, Value.bool false] }))
            (fun fin s' => match fin with | .done f => R (.ok f) s' | .again c' => c'.quiet = true ∧ codeAny (model prog w) A c' R s') (fun e s' => R (.error e) s') { s with heap := h', toks := tk' } := by
        intro items zs h' tk' hl hs hw hk hz
        have hil : items.size = zs.length := by rw [← strs_len' hs]; rfl
        have hw2 : (zs.map (·.length)).sum + zs.length + 3 ≤ 4 * m'.handed := by split at hw <;> omega
        rw [if_pos (show (Value.str repl tr != Value.none) = true from rfl)]
        refine wpAny_bind (wp_pushD hl (by rw [sizeLine_eq]; omega) ?_)
        intro h'' hl' hk'
        refine wpAny_pure ⟨Code.quiet_builtin _ (by decide +kernel), ?_⟩
        refine sub_loop hx hr hD hP₀ hnx hb k m'.handed (n + 1) tk' (m'.handed == m'.start) (items.push (.str repl tr)) (zs ++ [repl]) h'' A R (by omega) h3 hl' ?_ ?_ (fun b o z => hk' b o (hne b o z) (hk b o z)) ?_
        · rw [Array.toList_push]; exact strs_snoc' hs _ _
        · rw [sum_snoc]; omega
        · rw [List.append_assoc, List.singleton_append, ← hz]
          exact hR
      by_cases hlt : d < m'.start
      · rw [if_pos hlt]
        refine wpAny_bind (show wpAny _ _ (mkStr ⟨x.cps.extract d m'.start⟩) _ _ _ from ?_)
        have hsz : (⟨x.cps.extract d m'.start⟩ : Str).length = m'.start - d := by show (x.cps.extract d m'.start).size = _; rw [Array.size_extract]; omega
        refine wpAny_mkStr ?_ (by rw [sizeLine_eq]; omega)
        refine wpAny_bind (wp_pushD hl (by rw [sizeLine_eq]; omega) ?_)
        intro h' hl' hk'
        refine wpAny_bind (wpAny_pure ?_)
        refine go (items.push (.str ⟨x.cps.extract d m'.start⟩ tk)) (ys ++ [⟨x.cps.extract d m'.start⟩]) h' (tk + 1) hl' ?_ ?_ (fun b o z => hk' b o (hne b o z) (hkp b o z)) ?_
        · rw [Array.toList_push]; exact strs_snoc' hs _ _
        · rw [sum_snoc, if_pos hlt]; omega
        · rw [subP, hq]; dsimp only; rw [if_pos hlt, List.append_assoc]
      · rw [if_neg hlt]
        refine wpAny_bind (wpAny_pure ?_)
        refine go items ys h tk hl hs (by rw [if_neg hlt]; omega) hkp ?_
        rw [subP, hq]; dsimp only; rw [if_neg hlt]; rfl
end
end Mine

/-! SRE5 -/
namespace Mine
open PySem.Sre PySem.Builtin PySem.Builtin.Re
variable {prog : Program} {w : World} {A : Around} {E : Value → Shared → Prop} {s : Shared}
theorem look_str_call : typeLookup (.type "str") "__call__" = pure none := by rw [typeLookup_type, builtinLookup_eq_fast]; kernel_rfl
theorem reNamed_sub (a b : Value) : reNamed "re.Pattern.sub" "sub" ["repl", "string", "count"] 2 [a, b] [] = pure [some a, some b, none] := by kernel_rfl
section
variable {code : Array Nat} {nx : Nat → Option (Nat × Nat)} {x repl : Str} {a : Addr} {t tr : Tok}
theorem call_sub {Q : Value → Shared → Prop} (hx : x.length ≤ 100000) (hr : repl.length ≤ 2) (h92 : repl.cps.contains 92 = false) (hP : Pat s.heap a code)
    (hnx : ∀ d must, d ≤ x.cps.size → ∃ n, n ≤ 4 * 2 ^ 64 ∧ Found (nx d) (M.runFor n (forSearch code x.cps 0 d x.cps.size must)))
    (hb : ∀ d p e, d ≤ x.cps.size → nx d = some (p, e) → d ≤ p ∧ p < e ∧ e ≤ x.cps.size)
    (h : ∀ t' h' tk', (∀ b o, s.heap.get? b = some o → h'.get? b = some o) → Q (.str (Txt.join ⟨#[]⟩ (subP nx x repl (x.cps.size + 1) 0)) t') { s with heap := h', toks := tk' }) :
    wpAny (model prog w) A (call (.builtin "re.Pattern.sub") [.ref a, .str repl tr, .str x t]) Q E s := by
  have hT : s.TypeIs (.ref a) "re.Pattern" := by obtain ⟨o, _, _, _, _, _, h1, h2, _⟩ := hP; exact ⟨o, h1, h2⟩
  refine wpAny_call (codeAny_call_builtin slot_pat_sub.plain entry_pat_sub (slot_pat_sub.check _ _ _ _ _ _ _ _ hT (args_pat_sub _ _ _) ?_))
  unfold Builtin.«re.Pattern.sub» reSubstitute
  refine wpAny_bind (wpAny_of_eq (reNamed_sub _ _) ?_)
  refine wpAny_bind (wpAny_of_eq (a := (0 : Int)) rfl ?_)
  refine wpAny_bind (wpAny_specialOf (T := "str") (typeIs_str _ _ _) look_str_call ?_)
  dsimp only
  refine wpAny_bind (wpAny_of_eq (a := some repl) rfl ?_)
  dsimp only
  rw [h92]
  refine wpAny_bind (wpAny_of_eq (a := true) rfl ?_)
  rw [if_neg (show ¬ ((none : Option Value).isSome = true) from nofun), if_pos rfl]
  refine wpAny_bind (wpAny_of_eq (a := (Value.str repl tr, (0 : Int))) rfl ?_)
  dsimp only
  refine wpAny_bind (wpAny_holding (wp_target hP ?_))
  rw [if_neg (show ¬ (((0 : Int) == 1) = true) from nofun)]
  refine wpAny_bind (wpAny_newList ?_)
  refine wpAny_pure ⟨Code.quiet_builtin _ (by decide +kernel), ?_⟩
  have hne : s.heap.get? s.heap.objs.size = none := by
    cases e : s.heap.get? s.heap.objs.size with
    | none => rfl
    | some o => exact absurd (Heap.lt_size e) (Nat.lt_irrefl _)
  refine sub_loop (h₀ := s.heap) hx hr hne hP hnx hb (x.cps.size + 1) 0 0 s.toks false #[] [] _ A _ (by omega) (Nat.zero_le _) ⟨_, Heap.get?_push_size _ rfl, rfl, _, rfl⟩ .nil (by simp) (fun b o z => Heap.get?_push_of_some _ z) ?_
  intro t' h' tk' hk
  exact h t' h' tk' hk
end
theorem getM_sub {a : Addr} {code : Array Nat} {Q : Value × List Value → Shared → Prop} {pl : Sem Bool} (hP : Pat s.heap a code) (h : Q (.builtin "re.Pattern.sub", [.ref a]) s) : wpAny (model prog w) A (getMethod (.ref a) "sub" pl) Q E s := by
  have hT : s.TypeIs (.ref a) "re.Pattern" := by obtain ⟨o, _, _, _, _, _, h1, h2, _⟩ := hP; exact ⟨o, h1, h2⟩
  exact getMethod_builtin hT plainAttrs_pat slot_pat_sub type_pat_sub (by rintro b ⟨⟩; obtain ⟨o, _, _, _, _, _, h1, _, h3, _⟩ := hP; exact ⟨o, h1, h3⟩) h
end Mine

/-! QD -/
namespace Mine
theorem pat1 {w : World} {h : Heap} (X : Frag.In (KF w) h) : Pat h 57 code1 :=
  ⟨_, _, _, _, _, _, In_at X rfl, rfl, rfl, rfl, rfl, rfl, rfl, In_at (a := 56) X rfl, rfl, by decide +kernel⟩
theorem pat2 {w : World} {h : Heap} (X : Frag.In (KF w) h) : Pat h 62 code2 :=
  ⟨_, _, _, _, _, _, In_at X rfl, rfl, rfl, rfl, rfl, rfl, rfl, In_at (a := 61) X rfl, rfl, by decide +kernel⟩
theorem nb1 (x : Array Nat) (d p e : Nat) (hd : d ≤ x.size) (h : nx1 x d = some (p, e)) : d ≤ p ∧ p < e ∧ e ≤ x.size := by
  unfold nx1 at h
  cases hf : fnd1 x d (x.size - d) with
  | none => rw [hf] at h; exact nomatch h
  | some q =>
    rw [hf] at h
    have := fnd1_some _ _ hf
    simp only [Option.map_some, Option.some.injEq, Prod.mk.injEq] at h
    omega
theorem nb2 (x : Array Nat) (d p e : Nat) (hd : d ≤ x.size) (h : nx2 x d = some (p, e)) : d ≤ p ∧ p < e ∧ e ≤ x.size := by
  unfold nx2 at h
  cases hf : fnd2 x d (x.size - d) with
  | none => rw [hf] at h; exact nomatch h
  | some q =>
    rw [hf] at h
    have := fnd2_some _ _ hf
    simp only [Option.map_some, Option.some.injEq, Prod.mk.injEq] at h
    have : len2 x q = 1 ∨ (len2 x q = 2 ∧ q + 1 < x.size) := by
      unfold len2
      split
      · exact .inr ⟨rfl, by omega⟩
      · exact .inl rfl
    omega
def sub1 (x : Str) : Str := Txt.join ⟨#[]⟩ (subP (nx1 x.cps) x (Str.ofString "..") (x.cps.size + 1) 0)
def sub2 (x : Str) : Str := Txt.join ⟨#[]⟩ (subP (nx2 x.cps) x (Str.ofString "\r\n") (x.cps.size + 1) 0)
section
variable {prog : Program} {w : World} {A : Around} {E : Value → Shared → Prop} {s : Shared} {x : Str} {t tr : Tok} {a : Addr} {Q : Value → Shared → Prop}
theorem call_sub1 (hP : Pat s.heap a code1) (hx : x.length ≤ 100000)
    (h : ∀ t' h' tk', (∀ b o, s.heap.get? b = some o → h'.get? b = some o) → Q (.str (sub1 x) t') { s with heap := h', toks := tk' }) :
    wpAny (model prog w) A (call (.builtin "re.Pattern.sub") [.ref a, .str (Str.ofString "..") tr, .str x t]) Q E s :=
  call_sub hx (by decide +kernel) (by decide +kernel) hP (fun d must hd => nxt1 _ _ _ (Nat.le_trans hx (by omega)) hd) (fun d p e hd => nb1 _ d p e hd) h
theorem call_sub2 (hP : Pat s.heap a code2) (hx : x.length ≤ 100000)
    (h : ∀ t' h' tk', (∀ b o, s.heap.get? b = some o → h'.get? b = some o) → Q (.str (sub2 x) t') { s with heap := h', toks := tk' }) :
    wpAny (model prog w) A (call (.builtin "re.Pattern.sub") [.ref a, .str (Str.ofString "\r\n") tr, .str x t]) Q E s :=
  call_sub hx (by decide +kernel) (by decide +kernel) hP (fun d must hd => nxt2 _ _ _ hd) (fun d p e hd => nb2 _ d p e hd) h
end
set_option maxHeartbeats 4000000 in
theorem quote_ctr (w : World) (mean : ExcName → Option Value) (mg mb : Str → Option Value) (news : List (Addr × Obj)) (x : Str) (t : Tok) :
   Ctr w mean mg mb 69 news 3 (x.length ≤ 1000 ∧ (sub2 x).length ≤ 1000) [.str x t] (fun t => .str (sub1 (sub2 x)) t) := by
  dsimp only [Ctr]
  k_fill
  w_top off
  intros
  rename_i hpre _ _ hret
  obtain ⟨hlen, hlen2⟩ := hpre
  refine wpAny_call ?_
  k_dflt cell_enter
  rename Fr _ _ _ _ => F0
  have F1 := fr_binds F0 (l' := [(Str.ofString "data", .str x t)]) rfl
  clear F0
  dsimp only [mOf] at F1
  repeat' (first | ((with_reducible show wpAny _ _ (getMethod (Value.ref _) _ _) _ _ _); (rename Frag.In _ _ => kX); (rename Fr _ _ _ _ => kF); first | (refine getM_sub (pat1 (Frag.In.keeps kX (Fr.keep kF))) ?_) | (refine getM_sub (pat2 (Frag.In.keeps kX (Fr.keep kF))) ?_)) | ((with_reducible show wpAny _ _ (call (Value.builtin _) [Value.ref _, _, _]) _ _ _); (rename Frag.In _ _ => kX); (rename Fr _ _ _ _ => kF); (rename News _ _ _ _ => kN); first | (refine call_sub1 (pat1 (Frag.In.keeps kX (Fr.keep kF))) (by omega) ?_) | (refine call_sub2 (pat2 (Frag.In.keeps kX (Fr.keep kF))) (by omega) ?_)); intro _ _ _ hk'; (have kF' := Fr.kept kF hk'); (have kN' := News.keeps kN hk') | (k_unfold; (try dsimp only)) | (k_end; wrow_close) | walk1 | (dsimp only; walk1) | (leave1; try dsimp only))
  exact hret _ _ _ (by k_asm) (by k_asm)
end Mine

/-! LVP -/
namespace Mine
theorem sl_from {x : Str} {p : Nat} (h : p ≤ x.length) : (Txt.slice x (some (p : Int)) none).cps.toList = x.cps.toList.drop p := by
  rw [slice_from_eq (b := x.length) (by omega) (by omega) rfl]
  have : x.cps.toList.length = x.length := rfl
  simp only [Int.toNat_natCast]
  rw [List.take_of_length_le]
  rw [List.length_drop]
  omega
theorem sl_none (x : Str) : Txt.slice x none none = x := by
  unfold Txt.slice
  rw [if_pos]
  simp [Builtin.Str.strSliceIndices, sliceRange]
  split <;> omega
theorem sl_neg {x : Str} {q : Nat} (h : q ≤ x.length) (h0 : 0 < q) : (Txt.slice x none (some (-(q : Int)))).cps.toList = x.cps.toList.take (x.length - q) := by
  rw [slice_to_neg (by omega)]
  have e : max 0 ((x.length : Int) + -(q : Int)) = ((x.length - q : Nat) : Int) := by omega
  rw [e]
  have := slice_closes_toL (x := x) (j := ((x.length - q : Nat) : Int)) (by omega) (by omega)
  rw [eq_of_beq this]
  simp
theorem seqIdx_pos {i n : Nat} (h : i < n) : seqIndex? (i : Int) n = some i := by
  unfold seqIndex?
  have h1 : ¬ ((i : Int) < 0) := by omega
  simp only [h1, if_false]
  rw [if_pos (by simp; omega)]
  simp
theorem seqIdx_neg {i n : Nat} (h : i < n) : seqIndex? (-(i : Int) - 1) n = some (n - 1 - i) := by
  unfold seqIndex?
  have h1 : (-(i : Int) - 1 < 0) := by omega
  simp only [h1, if_true]
  rw [if_pos (by simp; omega)]
  congr 1
  omega
theorem item_eq {x : Str} {i : Nat} (h : i < x.length) : Txt.item x (i : Int) = ⟨#[x.cps.toList.getD i 0]⟩ := by
  unfold Txt.item Txt.charAt
  rw [seqIdx_pos h]
  simp [List.getD]
theorem item_neg {x : Str} {i : Nat} (h : i < x.length) : Txt.item x (-(i : Int) - 1) = ⟨#[x.cps.toList.getD (x.length - 1 - i) 0]⟩ := by
  unfold Txt.item Txt.charAt
  rw [seqIdx_neg h]
  simp [List.getD]
/-- the signs of a text -/
abbrev ls (x : Str) : List Nat := x.cps.toList
theorem ls_len (x : Str) : (ls x).length = x.length := rfl
theorem item_beq {x y : Str} {i j : Nat} {a b : Nat} (hx : Txt.item x i = ⟨#[a]⟩) (hy : Txt.item y j = ⟨#[b]⟩) (h : (Txt.item x i == Txt.item y j) = true) : a = b := by
  have := eq_of_beq h
  rw [hx, hy] at this
  simpa using this
/-- a common front of p signs -/
def P1 (a b : List Nat) (p : Nat) : Prop := ∃ pre x y, a = pre ++ x ∧ b = pre ++ y ∧ pre.length = p
/-- a common end of q signs -/
def P2 (a b : List Nat) (q : Nat) : Prop := ∃ suf x y, a = x ++ suf ∧ b = y ++ suf ∧ suf.length = q
theorem P1_zero (a b : List Nat) : P1 a b 0 := ⟨[], a, b, rfl, rfl, rfl⟩
theorem P2_zero (a b : List Nat) : P2 a b 0 := ⟨[], a, b, by simp, by simp, rfl⟩
theorem P1.le {a b : List Nat} {p : Nat} (h : P1 a b p) : p ≤ a.length ∧ p ≤ b.length := by
  obtain ⟨pre, x, y, rfl, rfl, rfl⟩ := h
  simp
theorem P2.le {a b : List Nat} {p : Nat} (h : P2 a b p) : p ≤ a.length ∧ p ≤ b.length := by
  obtain ⟨pre, x, y, rfl, rfl, rfl⟩ := h
  simp
theorem P1.succ {a b : Str} {p : Nat} (h : P1 (ls a) (ls b) p) (ha : p < a.length) (hb : p < b.length) (he : (Txt.item a p == Txt.item b p) = true) : P1 (ls a) (ls b) (p + 1) := by
  have e := eq_of_beq he
  rw [item_eq ha, item_eq hb] at e
  have e' : (ls a).getD p 0 = (ls b).getD p 0 := by simpa using e
  obtain ⟨pre, x, y, h1, h2, h3⟩ := h
  have la := ls_len a
  have lb := ls_len b
  rw [h1] at e' la
  rw [h2] at e' lb
  cases x with
  | nil => simp at la; omega
  | cons c x =>
    cases y with
    | nil => simp at lb; omega
    | cons d y =>
      subst h3
      simp at e'
      subst e'
      exact ⟨pre ++ [c], x, y, by rw [h1]; simp, by rw [h2]; simp, by simp⟩
theorem snoc_cases {α : Type} : ∀ (l : List α), l = [] ∨ ∃ m c, l = m ++ [c] := fun l => by
  rcases List.eq_nil_or_concat l with h | ⟨m, c, h⟩
  · exact .inl h
  · exact .inr ⟨m, c, by simpa using h⟩
theorem P2.succ {a b : Str} {q : Nat} (h : P2 (ls a) (ls b) q) (ha : q < a.length) (hb : q < b.length) (he : (Txt.item a (-(q : Int) - 1) == Txt.item b (-(q : Int) - 1)) = true) : P2 (ls a) (ls b) (q + 1) := by
  have e := eq_of_beq he
  rw [item_neg ha, item_neg hb] at e
  have e' : (ls a).getD (a.length - 1 - q) 0 = (ls b).getD (b.length - 1 - q) 0 := by simpa using e
  obtain ⟨suf, x, y, h1, h2, h3⟩ := h
  have la := ls_len a
  have lb := ls_len b
  rw [h1] at e' la
  rw [h2] at e' lb
  rcases snoc_cases x with rfl | ⟨x, c, rfl⟩
  · simp at la; omega
  rcases snoc_cases y with rfl | ⟨y, d, rfl⟩
  · simp at lb; omega
  subst h3
  have i1 : a.length - 1 - suf.length = x.length := by simp at la; omega
  have i2 : b.length - 1 - suf.length = y.length := by simp at lb; omega
  rw [i1, i2] at e'
  simp at e'
  subst e'
  exact ⟨c :: suf, x, y, by rw [h1]; simp, by rw [h2]; simp, by simp⟩
theorem P1.cut {a b : Str} {p : Nat} (h : P1 (ls a) (ls b) p) : ∃ pre, ls a = pre ++ ls (Txt.slice a (some (p : Int)) none) ∧ ls b = pre ++ ls (Txt.slice b (some (p : Int)) none) := by
  have hl := h.le
  obtain ⟨pre, x, y, h1, h2, h3⟩ := h
  refine ⟨pre, ?_, ?_⟩
  · rw [ls, ls, sl_from hl.1]
    show _ = pre ++ (ls a).drop p
    rw [h1]; subst h3; simp; exact h1
  · rw [ls, ls, sl_from hl.2]
    show _ = pre ++ (ls b).drop p
    rw [h2]; subst h3; simp; exact h2
theorem P2.cut {a b : Str} {q : Nat} (h : P2 (ls a) (ls b) q) (h0 : 0 < q) : ∃ suf, ls a = ls (Txt.slice a none (some (-(q : Int)))) ++ suf ∧ ls b = ls (Txt.slice b none (some (-(q : Int)))) ++ suf := by
  have hl := h.le
  obtain ⟨suf, x, y, h1, h2, h3⟩ := h
  refine ⟨suf, ?_, ?_⟩
  · rw [ls, ls, sl_neg hl.1 h0]
    show _ = (ls a).take (a.length - q) ++ suf
    have la := ls_len a
    rw [h1] at la ⊢; subst h3
    simp at la
    rw [List.take_append_of_le_length (by omega), List.take_of_length_le (by omega)]
    exact h1
  · rw [ls, ls, sl_neg hl.2 h0]
    show _ = (ls b).take (b.length - q) ++ suf
    have la := ls_len b
    rw [h2] at la ⊢; subst h3
    simp at la
    rw [List.take_append_of_le_length (by omega), List.take_of_length_le (by omega)]
    exact h2
theorem slneg_len {x : Str} {q : Nat} (h : q ≤ x.length) (h0 : 0 < q) : ((Txt.slice x none (some (-(q : Int)))).length : Int) = x.length - q := by
  have := congrArg List.length (sl_neg h h0)
  rw [List.length_take] at this
  have e : (Txt.slice x none (some (-(q : Int)))).cps.toList.length = (Txt.slice x none (some (-(q : Int)))).length := rfl
  have e2 : x.cps.toList.length = x.length := rfl
  omega
end Mine

/-! LV0 -/
namespace Mine
/-- a text without its last q signs -/
def cutEnd (x : Str) (q : Nat) : Str := if q = 0 then x else Txt.slice x none (some (-(q : Int)))
theorem cutEnd_len {x : Str} {q : Nat} (h : q ≤ x.length) : (cutEnd x q).length = x.length - q := by
  unfold cutEnd
  split
  · omega
  · have := slneg_len h (by omega)
    omega
theorem P2.cutEnd {a b : Str} {q : Nat} (h : P2 (ls a) (ls b) q) : ∃ suf, ls a = ls (cutEnd a q) ++ suf ∧ ls b = ls (cutEnd b q) ++ suf := by
  unfold Mine.cutEnd
  split
  · exact ⟨[], by simp, by simp⟩
  · exact h.cut (by omega)
section
variable {prog : Program} {w : World} {A : Around} {E : Value → Shared → Prop} {s : Shared} {h₀ : Heap} {L a : Addr} {m : Str → Option Value} {news : List (Addr × Obj)} {name : Str} {scope : Scope} {cd : Value}
theorem post_slice {nm : Str} {x : Str} {t u : Tok} {q : Nat} {p1 p2 p3 p4 p5 p6 : Pos} {k0} {Q : Value → Shared → Prop} (F : Fr h₀ L s.heap m) (N : News h₀ L s.heap news) (hv : m nm = some (.str x t)) (hq : m (Str.ofString "post") = some (.int (-(q : Int)) u))
    (hk : scope.kind = .function) (hl1 : (envOf name scope L a cd).kindOf nm = some .local) (hl2 : (envOf name scope L a cd).kindOf (Str.ofString "post") = some .local) (hd : (nm == ("__debug__" : Str)) = false) (hsz : x.length ≤ 1000)
    (hqx : q ≤ x.length) (h : ∀ h' t' k, Fr h₀ L h' m → News h₀ L h' news → (cutEnd x q).length = x.length - q → Q (.str (cutEnd x q) t') { s with heap := h', toks := k }) :
    wpAny (model prog w) A (eval (.Subscript (.Name nm p1) (.Slice none (some (.BoolOp .Or [.Name (Str.ofString "post") p2, .Constant .none k0 p3] p4)) none p5) p6) (envOf name scope L a cd)) Q E s := by
  have hz : x.length ≤ sizeLine := by rw [sizeLine_eq]; omega
  refine Subscript_ (ld F hv ?_ hk hl1 hd)
  refine wpAny_Slice ?_
  refine evalPart_none_step ?_
  refine evalPart_some_step (BoolOp_or (ld F hq (P.truthy_int ?_) hk hl2 (by decide)))
  by_cases h0 : q = 0
  · have e : cutEnd x q = Txt.slice x none none := by rw [cutEnd, if_pos h0, sl_none]
    rw [if_neg (by subst h0; decide)]
    refine BoolOp_one ?_
    refine wpAny_pure ?_
    refine evalPart_none_step ?_
    refine slice_strN_nn (s := s) F N (fun h' t' k F' N' => ?_) (hsz := hz)
    rw [← e]
    exact h _ _ _ F' N' (cutEnd_len hqx)
  · have e : cutEnd x q = Txt.slice x none (some (-(q : Int))) := by rw [cutEnd, if_neg h0]
    rw [if_pos (by simp; omega)]
    refine evalPart_none_step ?_
    refine slice_strN_ns (s := s) F N (fun h' t' k F' N' => ?_) (hsz := hz)
    rw [← e]
    exact h _ _ _ F' N' (cutEnd_len hqx)
end
end Mine

/-! LVD -/
namespace Mine
noncomputable def scN (x y : Nat) : Nat := if x = y then 0 else if Txt.lower ⟨#[x]⟩ = Txt.lower ⟨#[y]⟩ then 1 else 2
theorem scN_self (x : Nat) : scN x x = 0 := if_pos rfl
theorem scN_symm (x y : Nat) : scN x y = scN y x := by
  unfold scN
  by_cases h : x = y
  · subst h; rfl
  · have h' : ¬ y = x := fun e => h e.symm
    simp only [h, h', if_false]
    by_cases h2 : Txt.lower ⟨#[x]⟩ = Txt.lower ⟨#[y]⟩
    · rw [if_pos h2, if_pos h2.symm]
    · rw [if_neg h2, if_neg (fun e => h2 e.symm)]
theorem scN_le (x y : Nat) : scN x y ≤ 2 := by
  unfold scN
  split
  · omega
  · split <;> omega
noncomputable def distR (x : Nat) (prev : List Nat → Nat) : List Nat → Nat
  | [] => prev [] + 2
  | y :: b => min (min (prev (y :: b) + 2) (distR x prev b + 2)) (prev b + scN x y)
noncomputable def dist : List Nat → List Nat → Nat
  | [] => fun b => 2 * b.length
  | x :: a => distR x (dist a)
theorem dist_nil (b : List Nat) : dist [] b = 2 * b.length := rfl
theorem dist_nil_r : ∀ a : List Nat, dist a [] = 2 * a.length
  | [] => rfl
  | x :: a => by
    show dist a [] + 2 = _
    rw [dist_nil_r a, List.length_cons]
    omega
theorem dist_cc (x y : Nat) (a b : List Nat) : dist (x :: a) (y :: b) = min (min (dist a (y :: b) + 2) (dist (x :: a) b + 2)) (dist a b + scN x y) := rfl
inductive Al : List Nat → List Nat → Nat → Prop
  | nil : Al [] [] 0
  | del (x : Nat) {a b : List Nat} {n : Nat} : Al a b n → Al (x :: a) b (n + 2)
  | ins (y : Nat) {a b : List Nat} {n : Nat} : Al a b n → Al a (y :: b) (n + 2)
  | sub (x y : Nat) {a b : List Nat} {n : Nat} : Al a b n → Al (x :: a) (y :: b) (n + scN x y)
theorem dist_del (x : Nat) (a b : List Nat) : dist (x :: a) b ≤ dist a b + 2 := by
  cases b with
  | nil => exact Nat.le_refl _
  | cons y b => rw [dist_cc]; omega
theorem dist_ins (y : Nat) (a b : List Nat) : dist a (y :: b) ≤ dist a b + 2 := by
  cases a with
  | nil => rw [dist_nil, dist_nil, List.length_cons]; omega
  | cons x a => rw [dist_cc]; omega
theorem dist_sub (x y : Nat) (a b : List Nat) : dist (x :: a) (y :: b) ≤ dist a b + scN x y := by rw [dist_cc]; omega
theorem Al.le {a b : List Nat} {n : Nat} (h : Al a b n) : dist a b ≤ n := by
  induction h with
  | nil => exact Nat.le_refl _
  | @del x a b n _ ih => have := dist_del x a b; omega
  | @ins y a b n _ ih => have := dist_ins y a b; omega
  | @sub x y a b n _ ih => have := dist_sub x y a b; omega
theorem al_nil : ∀ b : List Nat, Al [] b (2 * b.length)
  | [] => .nil
  | y :: b => .ins y (al_nil b)
theorem dist_al : ∀ a b : List Nat, Al a b (dist a b)
  | [], b => al_nil b
  | x :: a, b => by
    induction b with
    | nil => exact .del x (dist_al a [])
    | cons y b ih =>
      rw [dist_cc]
      by_cases h1 : dist a b + scN x y ≤ min (dist a (y :: b) + 2) (dist (x :: a) b + 2)
      · rw [Nat.min_eq_right h1]; exact .sub x y (dist_al a b)
      · rw [Nat.min_eq_left (by omega)]
        by_cases h2 : dist a (y :: b) ≤ dist (x :: a) b
        · rw [Nat.min_eq_left (by omega)]; exact .del x (dist_al a (y :: b))
        · rw [Nat.min_eq_right (by omega)]; exact .ins y ih
theorem Al.append {a b c d : List Nat} {n m : Nat} (h : Al a b n) (k : Al c d m) : Al (a ++ c) (b ++ d) (n + m) := by
  induction h with
  | nil => rw [Nat.zero_add]; exact k
  | del x _ ih => rw [Nat.add_right_comm]; exact .del x ih
  | ins y _ ih => rw [Nat.add_right_comm]; exact .ins y ih
  | sub x y _ ih => rw [Nat.add_right_comm]; exact .sub x y ih
theorem Al.rev {a b : List Nat} {n : Nat} (h : Al a b n) : Al a.reverse b.reverse n := by
  induction h with
  | nil => exact .nil
  | del x _ ih => rw [List.reverse_cons]; have := ih.append (.del x .nil); simpa using this
  | ins y _ ih => rw [List.reverse_cons]; have := ih.append (.ins y .nil); simpa using this
  | sub x y _ ih => rw [List.reverse_cons, List.reverse_cons]; have := ih.append (.sub x y .nil); simpa using this
theorem Al.symm {a b : List Nat} {n : Nat} (h : Al a b n) : Al b a n := by
  induction h with
  | nil => exact .nil
  | del x _ ih => exact .ins x ih
  | ins y _ ih => exact .del y ih
  | sub x y _ ih => rw [scN_symm]; exact .sub y x ih
theorem dist_symm (a b : List Nat) : dist a b = dist b a := Nat.le_antisymm (dist_al b a).symm.le (dist_al a b).symm.le
theorem dist_rev (a b : List Nat) : dist a.reverse b.reverse = dist a b :=
  Nat.le_antisymm (dist_al a b).rev.le (by have := (dist_al a.reverse b.reverse).rev.le; simpa using this)
theorem dist_lip (c : Nat) : ∀ a b : List Nat, dist a b ≤ dist a (c :: b) + 2
  | [], b => by rw [dist_nil, dist_nil, List.length_cons]; omega
  | x :: a, b => by
    rw [dist_cc]
    have h1 := dist_del x a b
    have h2 := dist_lip c a b
    omega
theorem dist_lip' (c : Nat) (a b : List Nat) : dist a b ≤ dist (c :: a) b + 2 := by
  rw [dist_symm a b, dist_symm (c :: a) b]
  exact dist_lip c b a
theorem dist_front (c : Nat) (a b : List Nat) : dist (c :: a) (c :: b) = dist a b := by
  have h1 := dist_lip c a b
  have h2 := dist_lip' c a b
  rw [dist_cc, scN_self]
  omega
theorem dist_pre : ∀ p a b : List Nat, dist (p ++ a) (p ++ b) = dist a b
  | [], _, _ => rfl
  | c :: p, a, b => by rw [List.cons_append, List.cons_append, dist_front, dist_pre p a b]
theorem dist_suf (s a b : List Nat) : dist (a ++ s) (b ++ s) = dist a b := by
  rw [← dist_rev, List.reverse_append, List.reverse_append, dist_pre, dist_rev]
theorem Al.len {a b : List Nat} {n : Nat} (h : Al a b n) : 2 * b.length ≤ 2 * a.length + n ∧ 2 * a.length ≤ 2 * b.length + n := by
  induction h with
  | nil => exact ⟨Nat.le_refl _, Nat.le_refl _⟩
  | del x _ ih => simp only [List.length_cons]; omega
  | ins x _ ih => simp only [List.length_cons]; omega
  | sub x y _ ih => simp only [List.length_cons]; omega
theorem dist_len (a b : List Nat) : 2 * b.length ≤ 2 * a.length + dist a b ∧ 2 * a.length ≤ 2 * b.length + dist a b := (dist_al a b).len
/-- from a later row one comes from somewhere in an earlier row -/
theorem dist_row (u : List Nat) : ∀ xs v : List Nat, ∃ v', v' <:+ v ∧ dist u v' ≤ dist (xs ++ u) v
  | [], v => ⟨v, List.suffix_refl v, Nat.le_refl _⟩
  | x :: xs, v => by
    induction v with
    | nil =>
      obtain ⟨v', h1, h2⟩ := dist_row u xs []
      refine ⟨v', h1, Nat.le_trans h2 ?_⟩
      rw [dist_nil_r, dist_nil_r, List.cons_append, List.length_cons]
      omega
    | cons y v ih =>
      rw [List.cons_append, dist_cc]
      by_cases h1 : dist (xs ++ u) v + scN x y ≤ min (dist (xs ++ u) (y :: v) + 2) (dist (x :: (xs ++ u)) v + 2)
      · rw [Nat.min_eq_right h1]
        obtain ⟨v', k1, k2⟩ := dist_row u xs v
        exact ⟨v', k1.trans (List.suffix_cons y v), by omega⟩
      · rw [Nat.min_eq_left (by omega)]
        by_cases h2 : dist (xs ++ u) (y :: v) ≤ dist (x :: (xs ++ u)) v
        · rw [Nat.min_eq_left (by omega)]
          obtain ⟨v', k1, k2⟩ := dist_row u xs (y :: v)
          exact ⟨v', k1, by omega⟩
        · rw [Nat.min_eq_right (by omega)]
          obtain ⟨v', k1, k2⟩ := ih
          exact ⟨v', k1.trans (List.suffix_cons y v), by rw [List.cons_append] at k2; omega⟩
/-- the table -/
noncomputable def D (b a : List Nat) (i j : Nat) : Nat := dist (b.take i).reverse (a.take j).reverse
theorem D_zero (b a : List Nat) {j : Nat} (h : j ≤ a.length) : D b a 0 j = 2 * j := by
  unfold D
  rw [List.take_zero, List.reverse_nil, dist_nil, List.length_reverse, List.length_take, Nat.min_eq_left h]
theorem D_col (b a : List Nat) {i : Nat} (h : i ≤ b.length) : D b a i 0 = 2 * i := by
  unfold D
  rw [List.take_zero, List.reverse_nil, dist_nil_r, List.length_reverse, List.length_take, Nat.min_eq_left h]
theorem D_end (b a : List Nat) : D b a b.length a.length = dist b a := by
  unfold D
  rw [List.take_length, List.take_length, dist_rev]
theorem take_rev {l : List Nat} {i : Nat} (h : i < l.length) : (l.take (i + 1)).reverse = l.getD i 0 :: (l.take i).reverse := by
  rw [List.take_succ_eq_append_getElem h, List.reverse_append]
  simp [List.getD, h]
theorem D_step (b a : List Nat) {i j : Nat} (hi : i < b.length) (hj : j < a.length) : D b a (i + 1) (j + 1) = min (min (D b a (i + 1) j) (D b a i (j + 1)) + 2) (D b a i j + scN (b.getD i 0) (a.getD j 0)) := by
  unfold D
  rw [take_rev hi, take_rev hj, dist_cc]
  omega
theorem D_min (b a : List Nat) {i : Nat} (hi : i < b.length) (ha : 0 < a.length) : ∃ j, 1 ≤ j ∧ j ≤ a.length ∧ D b a (i + 1) j ≤ dist b a := by
  obtain ⟨v', ⟨t, ht⟩, h2⟩ := dist_row (b.take (i + 1)).reverse (b.drop (i + 1)).reverse a.reverse
  rw [← List.reverse_append, List.take_append_drop, dist_rev] at h2
  have e : v' = (a.take v'.length).reverse := by
    have h3 := congrArg List.reverse ht
    rw [List.reverse_append, List.reverse_reverse] at h3
    have h4 : a.take v'.length = v'.reverse := by
      rw [← h3, List.take_append_of_le_length (by simp), List.take_of_length_le (by simp)]
    rw [h4, List.reverse_reverse]
  have hl : v'.length ≤ a.length := by
    have := congrArg List.length ht
    simp at this
    omega
  by_cases h0 : v'.length = 0
  · refine ⟨1, Nat.le_refl _, ha, ?_⟩
    have h5 : D b a (i + 1) 0 ≤ dist b a := by unfold D; rw [← h0, ← e]; exact h2
    have h6 := D_step b a hi ha
    rw [D_col b a (by omega)] at h5
    rw [D_col b a (by omega : i ≤ b.length)] at h6
    have := scN_le (b.getD i 0) (a.getD 0 0)
    rw [h6]
    omega
  · exact ⟨v'.length, by omega, hl, by unfold D; rw [← e]; exact h2⟩
theorem D_new (b a : List Nat) {i j r : Nat} (hi : i < b.length) (hj : j < a.length) (hr : r = if j = 0 then 2 * i else D b a (i + 1) j) : min (min r (D b a i (j + 1)) + 2) (D b a i j + scN (b.getD i 0) (a.getD j 0)) = D b a (i + 1) (j + 1) := by
  rw [D_step b a hi hj, hr]
  by_cases h0 : j = 0
  · subst h0
    rw [if_pos rfl, D_col b a (by omega : i ≤ b.length), D_col b a (by omega : i + 1 ≤ b.length)]
    have := scN_le (b.getD i 0) (a.getD 0 0)
    omega
  · rw [if_neg h0]
end Mine

/-! LVR -/
namespace Mine
section
variable {prog : Program} {w : World} {A : Around} {E : Value → Shared → Prop} {s : Shared} {h₀ : Heap} {env : Env}
theorem ints_of {k : Nat → Int} : ∀ (vs : List Value) (n : Nat), vs.length = n → (∀ (j : Nat) (v : Value), vs[j]? = some v → ∃ t, v = .int (k j) t) → IntsAre vs ((List.range n).map k)
  | [], _, e, _ => by subst e; exact .nil
  | v :: r, n, e, h => by
    subst e
    obtain ⟨t, ht⟩ := h 0 v rfl
    subst ht
    rw [List.length_cons, List.range_succ_eq_map, List.map_cons, List.map_map]
    exact .cons _ _ (ints_of (k := k ∘ Nat.succ) r r.length rfl fun j v hj => h (j + 1) v (by simpa using hj))
theorem rangeSize_two (n : Nat) : Builtin.Range.rangeSize 2 (2 * ((n : Int) + 1)) 2 = (n : Int) := by
  unfold Builtin.Range.rangeSize
  rw [if_pos (by omega)]
  split <;> omega
theorem fits_small (i : Int) (h1 : -10000 ≤ i) (h2 : i ≤ 10000) : Builtin.Range.rangeFitsLong i = true := by
  unfold Builtin.Range.rangeFitsLong
  rw [Bool.and_eq_true]
  exact ⟨decide_eq_true (by omega), decide_eq_true (by omega)⟩
theorem small_two {n : Nat} (h : n ≤ 1000) : Builtin.Range.small 2 (2 * ((n : Int) + 1)) 2 = true := by
  unfold Builtin.Range.small
  rw [rangeSize_two, if_pos (by omega), fits_small _ (by omega) (by omega), fits_small _ (by omega) (by omega), fits_small _ (by omega) (by omega), fits_small _ (by omega) (by omega)]
  exact Bool.or_true _
theorem lrange2 {L r : Addr} {n : Nat} {m : Str → Option Value} {news : List (Addr × Obj)} {t u v : Tok} {Q : Value → Shared → Prop} (hh : A.handled = none) (F : Fr h₀ L s.heap m) (N : News h₀ L s.heap news) (hr : IsRange s.heap r 2 (2 * ((n : Int) + 1)) 2 t u v) (hn : n ≤ 1000)
    (h : ∀ D us c h' tk, Fr h₀ L h' m → News h₀ L h' ((D, listOf (List.toArray us) c) :: news) → (∀ p ∈ news, p.1 ≠ D) → IntsAre us ((List.range n).map fun (j : Nat) => (2 : Int) + (j : Int) * 2) → Q (.ref D) { s with heap := h', toks := tk }) :
    wpAny (model prog w) A (call (.type "list") [.ref r]) Q E s := by
  refine call_list_range hh hr (small_two hn) (rangeSize_two n) (by omega) fun h' tk acc c hk hD hI => ?_
  have hD' : h'.get? s.heap.objs.size = some (listOf (List.toArray acc.toList) c) := by
    rw [Array.toArray_toList]
    exact hD
  refine h _ acc.toList c h' tk (F.keeps hk) (news_pushed F N hk hD' rfl) (fun p hp => Nat.ne_of_lt (Heap.lt_size (N p hp).1)) (ints_of _ _ (by rw [Array.length_toList]; exact hI.1) fun j v hj => ?_)
  obtain ⟨t, rfl⟩ := hI.2 j v (by rw [← hj, Array.getElem?_toList])
  exact ⟨t, rfl⟩
def RowEnd (h₀ : Heap) (L D : Addr) (rest : List (Addr × Obj)) (s : Shared) (J : (Str → Option Value) → List Int → Prop) (Qr : Value → Shared → Prop) (f : Flow) (s₂ : Shared) : Prop := match f with
  | .ret v => Qr v s₂
  | .next => ∃ h' tk m₂ vs₂ c₂ ns₂, s₂ = { s with heap := h', toks := tk } ∧ Fr h₀ L h' m₂ ∧ News h₀ L h' ((D, listOf (List.toArray vs₂) c₂) :: rest) ∧ IntsAre vs₂ ns₂ ∧ J m₂ ns₂
  | _ => False
theorem RowEnd.intro {h₀ h' : Heap} {L D : Addr} {rest : List (Addr × Obj)} {s : Shared} {J : (Str → Option Value) → List Int → Prop} {Qr : Value → Shared → Prop} {tk : Nat} {m₂ : Str → Option Value} {vs₂ : List Value} {c₂ : Nat} {ns₂ : List Int}
    (F : Fr h₀ L h' m₂) (N : News h₀ L h' ((D, listOf (List.toArray vs₂) c₂) :: rest)) (hi : IntsAre vs₂ ns₂) (hJ : J m₂ ns₂) : RowEnd h₀ L D rest s J Qr .next { s with heap := h', toks := tk } :=
  ⟨h', tk, m₂, vs₂, c₂, ns₂, rfl, F, N, hi, hJ⟩
theorem range_loopD {x : Str} {px : Pos} {body : List Stmt} {R : Result → Shared → Prop} {r D : Addr} {n : Nat} {m : Str → Option Value} {vs : List Value} {c : Nat} {ns : List Int} {rest : List (Addr × Obj)} {t u v : Tok}
    (hh : A.handled = none) (hx : env.kindOf x = some .local) (hp : (env.scope.kind == .class || (env.scope.kind == .module && env.locals != env.globals)) = false)
    (hr : IsRange s.heap r 0 (n : Int) 1 t u v) (hn : n ≤ 1000) (F : Fr h₀ env.locals s.heap m) (N : News h₀ env.locals s.heap ((D, listOf (List.toArray vs) c) :: rest)) (hD : ∀ p ∈ rest, p.1 ≠ D)
    (J : Nat → (Str → Option Value) → List Int → Prop) (hi : IntsAre vs ns) (h0 : J 0 m ns)
    (step : ∀ (i : Nat) (t : Tok) m₁ vs₁ c₁ ns₁ own h tk, i < n → J i m₁ ns₁ → IntsAre vs₁ ns₁ → Fr h₀ env.locals h (fun y => if y = x then some (.int i t) else m₁ y) → News h₀ env.locals h ((D, listOf (List.toArray vs₁) c₁) :: (own ++ rest)) → (∀ p ∈ own ++ rest, p.1 ≠ D) →
      wpAny (model prog w) A (execs body env) (RowEnd h₀ env.locals D (own ++ rest) s (J (i + 1)) fun v s' => R (.ok (.ret v)) s') (fun _ _ => False) { s with heap := h, toks := tk })
    (hR : ∀ h' tk m' vs' c' ns', Fr h₀ env.locals h' m' → News h₀ env.locals h' ((D, listOf (List.toArray vs') c') :: rest) → IntsAre vs' ns' → J n m' ns' → R (.ok .next) { s with heap := h', toks := tk }) :
    wpAny (model prog w) A (pyIter (.ref r)) (fun it s₂ => codeAny (model prog w) A (.forLoop (.Name x px) it body [] env) R s₂) E s := by
  refine wpAny_pyIter_range hr (small_one (by omega) (by omega) (by omega) (by omega)) ?_
  have hz : Builtin.Range.rangeSize 0 (n : Int) 1 = (n : Int) := by
    unfold Builtin.Range.rangeSize
    rw [if_pos (by omega)]
    split <;> omega
  rw [hz]
  have hfr : h₀.get? s.heap.objs.size = none := F.fresh
  refine codeAny_forLoop_fr3 (h₀ := h₀) (s := { s with heap := s.heap.push { cls := .type "range_iterator", data := .fields #[rawInt 0, rawInt (n : Int), rawInt 1] } }) (Walks.range hh s.heap.objs.size 0 1 n) hx hp (by have := F.ns.lt; simp only [List.mem_singleton]; exact Nat.ne_of_lt this) (by intro b hb; rw [List.mem_singleton] at hb; rw [hb]; exact hfr)
    (news := (D, listOf (List.toArray vs) c) :: rest) (fun p hp => by rw [List.mem_singleton]; exact Nat.ne_of_lt (Heap.lt_size (N p hp).1)) (by show IsRangeIter _ _ _ _ _; simpa using Heap.get?_push_size _ rfl) (F.push _) (N.pushKeep _)
    (fun i m₁ news₁ => ∃ vs₁ c₁ ns₁, news₁ = (D, listOf (List.toArray vs₁) c₁) :: rest ∧ IntsAre vs₁ ns₁ ∧ J i m₁ ns₁) ⟨vs, c, ns, rfl, hi, h0⟩ ?_ ?_
  · rintro i v m₁ news₁ s₁ own ⟨h, tk, rfl⟩ hlt ⟨t, rfl⟩ ⟨vs₁, c₁, ns₁, rfl, hi₁, hJ⟩ - hown - F₁ N₁
    have e : (0 : Int) + (i : Int) * 1 = (i : Int) := by omega
    rw [e] at F₁
    have hap : ∀ p ∈ own ++ rest, p.1 ≠ D := fun p hp => by
      rcases List.mem_append.mp hp with h1 | h1
      · have := hown p h1
        rw [List.mem_singleton] at this
        rw [this]
        exact Ne.symm (Nat.ne_of_lt (Heap.lt_size (N _ (.head _)).1))
      · exact hD p h1
    refine wpAny_mono (step i t m₁ vs₁ c₁ ns₁ own h tk hlt hJ hi₁ F₁ (N₁.perm fun p hp => ?_) hap) ?_ (fun _ _ z => z.elim)
    · rcases List.mem_cons.mp hp with h1 | h1
      · exact List.mem_append_right _ (h1 ▸ .head _)
      · rcases List.mem_append.mp h1 with h1 | h1
        · exact List.mem_append_left _ h1
        · exact List.mem_append_right _ (.tail _ h1)
    · intro f s₂ hf
      cases f with
      | ret v => exact hf
      | brk => exact hf.elim
      | cont => exact hf.elim
      | next =>
        obtain ⟨h', tk', m₂, vs₂, c₂, ns₂, rfl, F₂, N₂, hi₂, hJ₂⟩ := hf
        refine ⟨rfl, h', tk', m₂, (D, listOf (List.toArray vs₂) c₂) :: rest, rfl, F₂, N₂.perm fun p hp => ?_, rfl, vs₂, c₂, ns₂, rfl, hi₂, hJ₂⟩
        rcases List.mem_append.mp hp with h1 | h1
        · exact .tail _ (List.mem_append_left _ h1)
        · rcases List.mem_cons.mp h1 with h1 | h1
          · exact h1 ▸ .head _
          · exact .tail _ (List.mem_append_right _ h1)
  · rintro h' tk m' news' F' N' - ⟨vs', c', ns', rfl, hi', hJ'⟩
    exact hR h' tk m' vs' c' ns' F' N' hi' hJ'
end
end Mine

/-! SUB -/
namespace Mine
noncomputable def substC (a b : Str) : Int := if a = b then 0 else if Txt.lower a = Txt.lower b then 1 else 2
set_option maxHeartbeats 4000000 in
theorem subst_ctr (w : World) (mean : ExcName → Option Value) (mg mb : Str → Option Value) (news : List (Addr × Obj)) (a b : Str) (ta tb : Tok) :
   Ctr w mean mg mb 76 news 1 (a.length ≤ 1000 ∧ b.length ≤ 1000) [.str a ta, .str b tb] (fun t => .int (substC a b) t) := by
  dsimp only [Ctr, CbRet]
  k_fill
  w_top off
  intros
  rename_i hpre _ _ hret
  obtain ⟨ha, hb⟩ := hpre
  refine wpAny_call ?_
  k_dflt cell_enter
  repeat' (first | (k_here; (with_reducible show wpAny _ _ (call (Value.builtin "str.lower") [Value.str _ _]) _ _ _); (refine SCL.lower (by omega) ?_); intro _) | (k_unfold; (try dsimp only)) | (k_end; wrow_close) | walk1 | (dsimp only; walk1) | (leave1; try dsimp only))
  all_goals refine cb_retI hret ?_ (by k_asm) (by k_asm)
  all_goals simp_all [substC]
end Mine

/-! LEVP -/
namespace Mine
/-- the frame's map of the first loop, of the second -/
def lm1 (a b : Str) (c : Int) (ta tb tc : Tok) (p : Int) (t : Tok) : Str → Option Value := fun y => if y = Str.ofString "pre" then some (.int p t) else if y = Str.ofString "max_cost" then some (.int c tc) else if y = Str.ofString "b" then some (.str b tb) else if y = Str.ofString "a" then some (.str a ta) else none
def lm2 (a b : Str) (c : Int) (ta tb tc : Tok) (p : Int) (t : Tok) (q : Int) (t2 : Tok) : Str → Option Value := fun y => if y = Str.ofString "post" then some (.int q t2) else if y = Str.ofString "pre" then some (.int p t) else if y = Str.ofString "max_cost" then some (.int c tc) else if y = Str.ofString "b" then some (.str b tb) else if y = Str.ofString "a" then some (.str a ta) else none
theorem lm1_step {a b : Str} {c : Int} {ta tb tc : Tok} {p q : Int} {t u : Tok} : (fun y => if y = Str.ofString "pre" then some (Value.int q u) else lm1 a b c ta tb tc p t y) = lm1 a b c ta tb tc q u := by
  funext y
  unfold lm1
  by_cases h : y = Str.ofString "pre" <;> simp [h]
theorem lm2_step {a b : Str} {c : Int} {ta tb tc : Tok} {p q r : Int} {t u v : Tok} : (fun y => if y = Str.ofString "post" then some (Value.int r v) else lm2 a b c ta tb tc p t q u y) = lm2 a b c ta tb tc p t r v := by
  funext y
  unfold lm2
  by_cases h : y = Str.ofString "post" <;> simp [h]
theorem lm2_make {a b a' b' : Str} {c : Int} {ta tb tc ta' tb' : Tok} {p q : Int} {t u : Tok} : (fun y => if y = Str.ofString "post" then some (Value.int q u) else if y = Str.ofString "b" then some (.str b' tb') else if y = Str.ofString "a" then some (.str a' ta') else lm1 a b c ta tb tc p t y) = lm2 a' b' c ta' tb' tc p t q u := by
  funext y
  unfold lm1 lm2
  by_cases h : y = Str.ofString "post"
  · simp [h]
  by_cases h : y = Str.ofString "pre"
  · subst h; simp +decide
  by_cases h : y = Str.ofString "max_cost"
  · subst h; simp +decide
  by_cases h : y = Str.ofString "b"
  · subst h; simp +decide
  by_cases h : y = Str.ofString "a"
  · subst h; simp +decide
  simp [*]
def SFr (g : Heap) (L : Addr) (s : Shared) (news : List (Addr × Obj)) (M : (Str → Option Value) → Prop) (f : Flow) (s' : Shared) : Prop :=
  f = .next ∧ ∃ h tk m, s' = { s with heap := h, toks := tk } ∧ Fr g L h m ∧ News g L h news ∧ M m
theorem SFr.intro {g h : Heap} {L : Addr} {s : Shared} {news : List (Addr × Obj)} {M : (Str → Option Value) → Prop} {tk : Nat} {m : Str → Option Value} (F : Fr g L h m) (N : News g L h news) (hM : M m) : SFr g L s news M .next { s with heap := h, toks := tk } :=
  ⟨rfl, h, tk, m, rfl, F, N, hM⟩
theorem While_st {prog : Program} {w : World} {A : Around} {E : Value → Shared → Prop} {Q : Flow → Shared → Prop} {s : Shared} {env : Env} {h₀ : Heap} {L : Addr} {test : Expr} {body : List Stmt} {pos : Pos} {m : Str → Option Value} {news : List (Addr × Obj)}
    (J : Nat → (Str → Option Value) → Prop) (M : (Str → Option Value) → Prop) {n₀ : Nat}
    (F : Fr h₀ L s.heap m) (N : News h₀ L s.heap news) (hJ : J n₀ m)
    (turn : ∀ n m₁ h₁ tk₁, Fr h₀ L h₁ m₁ → News h₀ L h₁ news → J n m₁ →
      wpAny (model prog w) A (isTrue test env (eval test env)) (fun b s₂ =>
        if b = true then wpAny (model prog w) A (execs body env) (WhileStep h₀ L s (fun n m₁ news₁ => J n m₁ ∧ news₁ = news) n) E s₂ else SFr h₀ L s news M .next s₂) E { s with heap := h₁, toks := tk₁ })
    (rest : ∀ h tk m, Fr h₀ L h m → News h₀ L h news → M m → Q .next { s with heap := h, toks := tk })
    (hE : PassesOwn (model prog w) A env E := by passes_own) : wpAny (model prog w) A (exec (.While test body [] pos) env) Q E s := by
  refine wpAny_mono (While_inv (Q := SFr h₀ L s news M) (fun n m₁ news₁ => J n m₁ ∧ news₁ = news) F N ⟨hJ, rfl⟩ ?_ hE) ?_ (fun _ _ e => e)
  · rintro n m₁ news₁ h₁ tk₁ F₁ N₁ ⟨hJ, rfl⟩
    exact turn n m₁ h₁ tk₁ F₁ N₁ hJ
  · rintro f s' ⟨rfl, h, tk, m, rfl, F, N, hM⟩
    exact rest h tk m F N hM
theorem canon1 {m : Str → Option Value} (n : Str) (v : Option Value) (h : m n = v) : m = fun y => if y = n then v else m y := by
  funext y
  by_cases e : y = n
  · rw [if_pos e, e, h]
  · rw [if_neg e]
def OJ (X Y : Str) (c : Int) (tx ty tc : Tok) (Dw : Addr) (i : Nat) (m : Str → Option Value) (ns : List Int) : Prop :=
  m (Str.ofString "row") = some (.ref Dw) ∧ m (Str.ofString "a") = some (.str X tx) ∧ m (Str.ofString "b") = some (.str Y ty) ∧ m (Str.ofString "max_cost") = some (.int c tc) ∧
  (∃ r t, m (Str.ofString "result") = some (.int r t) ∧ (0 < i → r = (D (ls Y) (ls X) i X.length : Int))) ∧ ns = (List.range X.length).map fun j => (D (ls Y) (ls X) i (j + 1) : Int)
def IJ (X Y : Str) (c : Int) (tx ty tc : Tok) (Dw : Addr) (i j : Nat) (m : Str → Option Value) (ns : List Int) : Prop :=
  m (Str.ofString "row") = some (.ref Dw) ∧ m (Str.ofString "a") = some (.str X tx) ∧ m (Str.ofString "b") = some (.str Y ty) ∧ m (Str.ofString "max_cost") = some (.int c tc) ∧
  (∃ t, m (Str.ofString "bchar") = some (.str (Txt.item Y (i : Int)) t)) ∧ (∃ t, m (Str.ofString "distance") = some (.int (D (ls Y) (ls X) i j : Int) t)) ∧ (∃ (r : Nat) (t : Tok), m (Str.ofString "result") = some (.int (r : Int) t) ∧ r = if j = 0 then 2 * i else D (ls Y) (ls X) (i + 1) j) ∧
  (∃ mn t, m (Str.ofString "minimum") = some (.int mn t) ∧ ∀ k, 1 ≤ k → k ≤ j → mn ≤ (D (ls Y) (ls X) (i + 1) k : Int)) ∧
  ns = (List.range X.length).map fun k => if k < j then (D (ls Y) (ls X) (i + 1) (k + 1) : Int) else (D (ls Y) (ls X) i (k + 1) : Int)
theorem row0 (X Y : Str) : ((List.range X.length).map fun (j : Nat) => (2 : Int) + (j : Int) * 2) = (List.range X.length).map fun j => (D (ls Y) (ls X) 0 (j + 1) : Int) := by
  apply List.map_congr_left
  intro j hj
  have := List.mem_range.mp hj
  rw [D_zero _ _ (by rw [ls_len]; omega)]
  omega
theorem IJ_start {X Y : Str} {c : Int} {tx ty tc t5 t6 t7 t8 : Tok} {Dw : Addr} {i : Nat} {mn : Int} {m : Str → Option Value} {ns : List Int} (hi : i < Y.length)
    (h1 : m (Str.ofString "row") = some (.ref Dw)) (h2 : m (Str.ofString "a") = some (.str X tx)) (h3 : m (Str.ofString "b") = some (.str Y ty)) (h4 : m (Str.ofString "max_cost") = some (.int c tc))
    (h5 : m (Str.ofString "bchar") = some (.str (Txt.item Y (i : Int)) t5)) (h6 : m (Str.ofString "distance") = some (.int ((i : Int) * 2) t6)) (h7 : m (Str.ofString "result") = some (.int ((i : Int) * 2) t7)) (h8 : m (Str.ofString "minimum") = some (.int mn t8))
    (h9 : ns = (List.range X.length).map fun j => (D (ls Y) (ls X) i (j + 1) : Int)) : IJ X Y c tx ty tc Dw i 0 m ns := by
  refine ⟨h1, h2, h3, h4, ⟨_, h5⟩, ⟨t6, ?_⟩, ⟨2 * i, t7, ?_, rfl⟩, ⟨_, _, h8, fun k k1 k2 => absurd k1 (by omega)⟩, ?_⟩
  · rw [h6, D_col _ _ (by rw [ls_len]; omega)]
    congr 2
    omega
  · rw [h7]
    congr 2
    omega
  · rw [h9]
    apply List.map_congr_left
    intro j _
    rw [if_neg (Nat.not_lt_zero j)]
theorem substC_item {X Y : Str} {i j : Nat} (hi : i < Y.length) (hj : j < X.length) : substC (Txt.item Y (i : Int)) (Txt.item X (j : Int)) = (scN ((ls Y).getD i 0) ((ls X).getD j 0) : Int) := by
  rw [item_eq hi, item_eq hj]
  unfold substC scN
  by_cases h : (Y.cps.toList.getD i 0) = (X.cps.toList.getD j 0)
  · rw [h, if_pos rfl, if_pos rfl]
    rfl
  · rw [if_neg h, if_neg (fun e => h (by injection e with e; injection e with e; injection e))]
    split <;> rfl
theorem pick2 (a x r : Int) {A X R S Z : Nat} (ha : a = A + S) (hx : x = X) (hr : r = R) (h : min (min R X + 2) (A + S) = Z) : (if a < (if x < r then x else r) + 2 then a else (if x < r then x else r) + 2) = (Z : Int) := by
  by_cases h1 : x < r
  · rw [if_pos h1]
    split <;> omega
  · rw [if_neg h1]
    split <;> omega
theorem new_val {X Y : Str} {i j r7 : Nat} {ns : List Int} (hi : i < Y.length) (hj : j < X.length) (hr : r7 = if j = 0 then 2 * i else D (ls Y) (ls X) (i + 1) j)
    (hns : ns = (List.range X.length).map fun k => if k < j then (D (ls Y) (ls X) (i + 1) (k + 1) : Int) else (D (ls Y) (ls X) i (k + 1) : Int)) :
    ns.getD (j : Int).toNat 0 = (D (ls Y) (ls X) i (j + 1) : Int) ∧
    (if (D (ls Y) (ls X) i j : Int) + substC (Txt.item Y (i : Int)) (Txt.item X (j : Int)) < (if ns.getD (j : Int).toNat 0 < (r7 : Int) then ns.getD (j : Int).toNat 0 else (r7 : Int)) + 2 then (D (ls Y) (ls X) i j : Int) + substC (Txt.item Y (i : Int)) (Txt.item X (j : Int)) else (if ns.getD (j : Int).toNat 0 < (r7 : Int) then ns.getD (j : Int).toNat 0 else (r7 : Int)) + 2) = (D (ls Y) (ls X) (i + 1) (j + 1) : Int) := by
  have e : ns.getD (j : Int).toNat 0 = (D (ls Y) (ls X) i (j + 1) : Int) := by
    rw [Int.toNat_natCast, hns]
    simp [List.getD, hj]
  refine ⟨e, ?_⟩
  exact pick2 _ _ _ (by rw [substC_item hi hj]) e rfl (D_new (ls Y) (ls X) (by rw [ls_len]; exact hi) (by rw [ls_len]; exact hj) hr)
theorem IJ_next {X Y : Str} {c v d mn : Int} {tx ty tc t5 t6 t7 t8 : Tok} {Dw : Addr} {i j : Nat} {m : Str → Option Value} {ns : List Int} (hj : j < X.length) (hv : v = (D (ls Y) (ls X) (i + 1) (j + 1) : Int)) (hd : d = (D (ls Y) (ls X) i (j + 1) : Int))
    (h1 : m (Str.ofString "row") = some (.ref Dw)) (h2 : m (Str.ofString "a") = some (.str X tx)) (h3 : m (Str.ofString "b") = some (.str Y ty)) (h4 : m (Str.ofString "max_cost") = some (.int c tc))
    (h5 : m (Str.ofString "bchar") = some (.str (Txt.item Y (i : Int)) t5)) (h6 : m (Str.ofString "distance") = some (.int d t6)) (h7 : m (Str.ofString "result") = some (.int v t7)) (h8 : m (Str.ofString "minimum") = some (.int mn t8))
    (h9 : ns = (List.range X.length).map fun k => if k < j then (D (ls Y) (ls X) (i + 1) (k + 1) : Int) else (D (ls Y) (ls X) i (k + 1) : Int)) (h10 : ∀ k, 1 ≤ k → k ≤ j + 1 → mn ≤ (D (ls Y) (ls X) (i + 1) k : Int)) : IJ X Y c tx ty tc Dw i (j + 1) m (ns.set (j : Int).toNat v) := by
  subst hv hd
  refine ⟨h1, h2, h3, h4, ⟨_, h5⟩, ⟨t6, h6⟩, ⟨_, t7, h7, ?_⟩, ⟨_, _, h8, h10⟩, ?_⟩
  · rw [if_neg (by omega)]
  · rw [Int.toNat_natCast, h9]
    apply List.ext_getElem
    · simp
    · intro k k1 k2
      simp only [List.getElem_set, List.getElem_map, List.getElem_range]
      by_cases e : j = k
      · subst e
        rw [if_pos rfl, if_pos (by omega)]
      · rw [if_neg e]
        by_cases e2 : k < j
        · rw [if_pos e2, if_pos (by omega)]
        · rw [if_neg e2, if_neg (by omega)]
theorem mn_more {b a : List Nat} {i j : Nat} {mn v : Int} (h : ∀ k, 1 ≤ k → k ≤ j → mn ≤ (D b a (i + 1) k : Int)) (hv : v = (D b a (i + 1) (j + 1) : Int)) (hc : ¬ v < mn) : ∀ k, 1 ≤ k → k ≤ j + 1 → mn ≤ (D b a (i + 1) k : Int) := by
  intro k h1 h2
  by_cases e : k = j + 1
  · subst e; omega
  · exact h k h1 (by omega)
theorem mn_less {b a : List Nat} {i j : Nat} {mn v : Int} (h : ∀ k, 1 ≤ k → k ≤ j → mn ≤ (D b a (i + 1) k : Int)) (hv : v = (D b a (i + 1) (j + 1) : Int)) (hc : v < mn) : ∀ k, 1 ≤ k → k ≤ j + 1 → v ≤ (D b a (i + 1) k : Int) := by
  intro k h1 h2
  by_cases e : k = j + 1
  · subst e; omega
  · have := h k h1 (by omega); omega
theorem OJ_next {X Y : Str} {c : Int} {tx ty tc t : Tok} {Dw : Addr} {i : Nat} {r : Nat} {m : Str → Option Value} {ns : List Int} (hX : 0 < X.length)
    (h1 : m (Str.ofString "row") = some (.ref Dw)) (h2 : m (Str.ofString "a") = some (.str X tx)) (h3 : m (Str.ofString "b") = some (.str Y ty)) (h4 : m (Str.ofString "max_cost") = some (.int c tc))
    (h7 : m (Str.ofString "result") = some (.int (r : Int) t)) (h7' : r = if X.length = 0 then 2 * i else D (ls Y) (ls X) (i + 1) X.length)
    (h9 : ns = (List.range X.length).map fun k => if k < X.length then (D (ls Y) (ls X) (i + 1) (k + 1) : Int) else (D (ls Y) (ls X) i (k + 1) : Int)) : OJ X Y c tx ty tc Dw (i + 1) m ns := by
  refine ⟨h1, h2, h3, h4, ⟨_, _, h7, fun _ => ?_⟩, ?_⟩
  · rw [h7', if_neg (by omega)]
  · rw [h9]
    apply List.map_congr_left
    intro k hk
    rw [if_pos (List.mem_range.mp hk)]
theorem OJ_val {X Y : Str} {V : Nat} {rr : Int} (hY : 0 < Y.length) (hV : dist (ls Y) (ls X) = V) (j6 : 0 < Y.length → rr = (D (ls Y) (ls X) Y.length X.length : Int)) : rr = V := by
  rw [j6 hY, ← hV]
  have := D_end (ls Y) (ls X)
  rw [ls_len, ls_len] at this
  rw [this]
theorem mn_le {X Y : Str} {V i : Nat} {mn : Int} (hX : 0 < X.length) (hi : i < Y.length) (hV : dist (ls Y) (ls X) = V) (h : ∀ k, 1 ≤ k → k ≤ X.length → mn ≤ (D (ls Y) (ls X) (i + 1) k : Int)) : mn ≤ V := by
  obtain ⟨j, h1, h2, h3⟩ := D_min (ls Y) (ls X) (i := i) (by rw [ls_len]; exact hi) (by rw [ls_len]; exact hX)
  rw [ls_len] at h2
  have := h j h1 h2
  omega
end Mine

/-! LEV -/
namespace Mine
/-- the frame's map of the first loop, of the second -/
local macro_rules | `(tactic| k_all) => `(tactic| assumption)
/-- what stands when the list of the first row is made -/
def LevAt (g : Heap) (L : Addr) (news : List (Addr × Obj)) (c : Int) (tc : Tok) (V : Nat) (h : Heap) (r : Addr) : Prop :=
  ∃ (m : Str → Option Value) (ns : List (Addr × Obj)) (X Y : Str) (tx ty t u v : Tok),
    Fr g L h m ∧ News g L h ns ∧ (∀ p ∈ news, p ∈ ns) ∧ IsRange h r 2 (2 * ((X.length : Int) + 1)) 2 t u v ∧
    m (Str.ofString "a") = some (.str X tx) ∧ m (Str.ofString "b") = some (.str Y ty) ∧ m (Str.ofString "max_cost") = some (.int c tc) ∧
    dist (ls Y) (ls X) = V ∧ 0 < X.length ∧ X.length ≤ 40 ∧ Y.length ≤ 40 ∧ 0 < Y.length
theorem LevAt.intro {g : Heap} {L : Addr} {news : List (Addr × Obj)} {c : Int} {tc : Tok} {V : Nat} {h : Heap} {r : Addr} {m : Str → Option Value} {ns : List (Addr × Obj)} {tx ty t u v : Tok} (X Y : Str)
    (F : Fr g L h m) (N : News g L h ns) (hn : ∀ p ∈ news, p ∈ ns) (R : IsRange h r 2 (2 * ((X.length : Int) + 1)) 2 t u v)
    (h1 : m (Str.ofString "a") = some (.str X tx)) (h2 : m (Str.ofString "b") = some (.str Y ty)) (h3 : m (Str.ofString "max_cost") = some (.int c tc))
    (h4 : dist (ls Y) (ls X) = V) (h5 : 0 < X.length) (h6 : X.length ≤ 40) (h7 : Y.length ≤ 40) (h8 : 0 < Y.length) : LevAt g L news c tc V h r :=
  ⟨m, ns, X, Y, tx, ty, t, u, v, F, N, hn, R, h1, h2, h3, h4, h5, h6, h7, h8⟩
theorem name_range {h : Heap} {r : Addr} {a b c : Int} {t u v : Tok} (R : IsRange h r a b c t u v) : ∃ r', r = r' ∧ IsRange h r' a b c t u v := ⟨r, rfl, R⟩
theorem cut_lev {P : Heap → Nat → Addr → Prop} {G : Prop} {g h₁ : Heap} {L : Addr} {m₁ : Str → Option Value} (news : List (Addr × Obj)) (c : Int) (tc : Tok) (V : Nat) (_ : Fr g L h₁ m₁)
    (h : (∀ h tk r, LevAt g L news c tc V h r → P h tk r) → G) (k : ∀ h tk r, LevAt g L news c tc V h r → P h tk r) : G := h k
set_option maxHeartbeats 16000000 in
theorem lev_ctr (w : World) (mean : ExcName → Option Value) (mg mb : Str → Option Value) (news : List (Addr × Obj)) (a b : Str) (c : Int) (V : Nat) (ta tb tc : Tok) :
   Ctr w mean mg mb 83 news 2 (a.length ≤ 40 ∧ b.length ≤ 40 ∧ dist (ls a) (ls b) = V ∧ (c = V ∨ c = V - 1)) [.str a ta, .str b tb, .int c tc] (fun t => .int (V : Int) t) := by
  dsimp only [Ctr]
  k_fill
  w_top off
  intros
  rename_i hpre _ _ hret
  obtain ⟨ha, hb, hV₀, hc⟩ := hpre
  refine wpAny_call ?_
  k_dflt cell_enter
  rename Fr _ _ _ _ => F0
  have F1 := fr_binds F0 (l' := [(Str.ofString "max_cost", .int c tc), (Str.ofString "b", .str b tb), (Str.ofString "a", .str a ta)]) rfl
  clear F0
  dsimp only [mOf] at F1
  repeat' ((fail_if_success (with_reducible show wpAny _ _ (exec (Stmt.While _ _ _ _) _) _ _ _)); (first | ((with_reducible show wpAny _ _ (eval (Expr.Subscript (Expr.Name _ _) (Expr.Slice none (some (Expr.BoolOp _ _ _)) none _) _) _) _ _ _); (with_reducible rename Fr _ _ _ _ => F'); (with_reducible rename News _ _ _ _ => N'); k_dflt (refine post_slice (s := ⟨_, _, _, _, _⟩) F' N' (by exact rfl) (by exact rfl) (by exact rfl) (by exact rfl) (by exact rfl) (by decide) (by omega) (by omega) ?_); intro _ _ _ _ _ _; (try dsimp only)) | (k_unfold; (try dsimp only)) | (k_end; wrow_close) | walk1 | (dsimp only; walk1) | (leave1; try dsimp only)) <;> ((try ((with_reducible rename Fr _ _ _ _ => Fq); dsimp only at Fq)); (try dsimp only)))
  · rename ((a == b) = true) => heq
    have h0 : (0 : Int) = V := by
      have e := eq_of_beq heq
      subst e
      have := (dist_pre (ls a) [] []).symm
      rw [List.append_nil, hV₀] at this
      rw [← this]
      rfl
    rw [← h0] at hret
    exact hret _ _ _ (by k_asm) (by k_asm)
  rename Fr _ _ _ _ => F
  rename News _ _ _ _ => N
  rename ((a == b) = false) => hne
  refine wpAny_noRaise (While_st (fun n m₁ => ∃ (p : Nat) (t : Tok), P1 (ls a) (ls b) p ∧ m₁ = lm1 a b c ta tb tc (p : Int) t ∧ n + p = a.length) (fun m => ∃ (p : Nat) (t : Tok), P1 (ls a) (ls b) p ∧ m = lm1 a b c ta tb tc (p : Int) t) (n₀ := a.length) F N ⟨0, _, P1_zero _ _, rfl, rfl⟩ ?_ ?_)
  · rintro n _ h₁ tk₁ F₁ N₁ ⟨p, t, hp, rfl, hn⟩
    clear F N
    have hp1 : p ≤ a.length := hp.le.1
    have hp2 : p ≤ b.length := hp.le.2
    unfold lm1 at F₁
    repeat' ((fail_if_success (with_reducible show SFr _ _ _ _ _ _ _)); (fail_if_success (with_reducible show WhileStep _ _ _ _ _ _ _)); (first | ((with_reducible show wpAny _ _ (eval (Expr.Subscript (Expr.Name _ _) (Expr.Slice none (some (Expr.BoolOp _ _ _)) none _) _) _) _ _ _); (with_reducible rename Fr _ _ _ _ => F'); (with_reducible rename News _ _ _ _ => N'); k_dflt (refine post_slice (s := ⟨_, _, _, _, _⟩) F' N' (by exact rfl) (by exact rfl) (by exact rfl) (by exact rfl) (by exact rfl) (by decide) (by omega) (by omega) ?_); intro _ _ _ _ _ _; (try dsimp only)) | (k_unfold; (try dsimp only)) | (k_end; wrow_close) | walk1 | (dsimp only; walk1) | (leave1; try dsimp only)) <;> ((try ((with_reducible rename Fr _ _ _ _ => Fq); dsimp only at Fq)); (try dsimp only)))
    · have hs := P1.succ hp (by omega) (by omega) (by assumption)
      refine WhileStep.intro (by k_asm) (by k_asm) (n' := n - 1) (by omega) ⟨⟨p + 1, _, hs, lm1_step, by omega⟩, rfl⟩
    all_goals exact SFr.intro (by k_asm) (by k_asm) ⟨p, _, hp, rfl⟩
  · rintro h₁ tk₁ _ F₁ N₁ ⟨p, t, hp, rfl⟩
    clear F N
    have hp1 : p ≤ a.length := hp.le.1
    have hp2 : p ≤ b.length := hp.le.2
    unfold lm1 at F₁
    repeat' ((fail_if_success (with_reducible show wpAny _ _ (exec (Stmt.While _ _ _ _) _) _ _ _)); (first | ((with_reducible show wpAny _ _ (eval (Expr.Subscript (Expr.Name _ _) (Expr.Slice none (some (Expr.BoolOp _ _ _)) none _) _) _) _ _ _); (with_reducible rename Fr _ _ _ _ => F'); (with_reducible rename News _ _ _ _ => N'); k_dflt (refine post_slice (s := ⟨_, _, _, _, _⟩) F' N' (by exact rfl) (by exact rfl) (by exact rfl) (by exact rfl) (by exact rfl) (by decide) (by omega) (by omega) ?_); intro _ _ _ _ _ _; (try dsimp only)) | (k_unfold; (try dsimp only)) | (k_end; wrow_close) | walk1 | (dsimp only; walk1) | (leave1; try dsimp only)) <;> ((try ((with_reducible rename Fr _ _ _ _ => Fq); dsimp only at Fq)); (try dsimp only)))
    rename Fr _ _ _ _ => F
    rename News _ _ _ _ => N
    obtain ⟨pre, hA, hB⟩ := hp.cut
    have hAl : (Txt.slice a (some (p : Int)) none).length ≤ 40 := Nat.le_trans (Txt.slice_le _ _ _) ha
    have hBl : (Txt.slice b (some (p : Int)) none).length ≤ 40 := Nat.le_trans (Txt.slice_le _ _ _) hb
    revert hA hB hAl hBl F
    generalize Txt.slice a (some (p : Int)) none = A₂
    generalize Txt.slice b (some (p : Int)) none = B₂
    intro F hA hB hAl hBl
    refine (While_st (fun n m₁ => ∃ (q : Nat) (u ta' tb' : Tok), P2 (ls A₂) (ls B₂) q ∧ m₁ = lm2 A₂ B₂ c ta' tb' tc (p : Int) t (-(q : Int)) u ∧ n + q = A₂.length) 
      (fun m => ∃ (q : Nat) (u ta' tb' : Tok), P2 (ls A₂) (ls B₂) q ∧ m = lm2 A₂ B₂ c ta' tb' tc (p : Int) t (-(q : Int)) u) (n₀ := A₂.length) F N ⟨0, _, _, _, P2_zero _ _, lm2_make, rfl⟩ ?_ ?_)
    · rintro n _ h₁ tk₁ F₁ N₁ ⟨q, u, ta', tb', hq, rfl, hn⟩
      clear F N
      have hq1 : q ≤ A₂.length := hq.le.1
      have hq2 : q ≤ B₂.length := hq.le.2
      unfold lm2 at F₁
      repeat' ((fail_if_success (with_reducible show SFr _ _ _ _ _ _ _)); (fail_if_success (with_reducible show WhileStep _ _ _ _ _ _ _)); (first | ((with_reducible show wpAny _ _ (eval (Expr.Subscript (Expr.Name _ _) (Expr.Slice none (some (Expr.BoolOp _ _ _)) none _) _) _) _ _ _); (with_reducible rename Fr _ _ _ _ => F'); (with_reducible rename News _ _ _ _ => N'); k_dflt (refine post_slice (s := ⟨_, _, _, _, _⟩) F' N' (by exact rfl) (by exact rfl) (by exact rfl) (by exact rfl) (by exact rfl) (by decide) (by omega) (by omega) ?_); intro _ _ _ _ _ _; (try dsimp only)) | (k_unfold; (try dsimp only)) | (k_end; wrow_close) | walk1 | (dsimp only; walk1) | (leave1; try dsimp only)) <;> ((try ((with_reducible rename Fr _ _ _ _ => Fq); dsimp only at Fq)); (try dsimp only)))
      all_goals first
        | ((with_reducible show SFr _ _ _ _ _ _ _); exact SFr.intro (by k_asm) (by k_asm) ⟨q, _, _, _, hq, rfl⟩)
        | (have hs := P2.succ hq (by omega) (by omega) (by assumption)
           exact WhileStep.intro (by k_asm) (by k_asm) (n' := n - 1) (by omega) ⟨⟨q + 1, _, _, _, hs, by rw [show -((q + 1 : Nat) : Int) = -(q : Int) - 1 by omega]; exact lm2_step, by omega⟩, rfl⟩)
    · rintro h₁ tk₁ _ F₁ N₁ ⟨q, u, ta', tb', hq, rfl⟩
      clear F N
      have hq1 : q ≤ A₂.length := hq.le.1
      have hq2 : q ≤ B₂.length := hq.le.2
      obtain ⟨suf, hX, hY⟩ := hq.cutEnd
      have hV : dist (ls (cutEnd A₂ q)) (ls (cutEnd B₂ q)) = V := by rw [← hV₀, hA, hB, dist_pre, hX, hY, dist_suf]
      have hW : dist (ls (cutEnd B₂ q)) (ls (cutEnd A₂ q)) = V := by rw [dist_symm]; exact hV
      clear hX hY hA hB hq hp hV₀
      have hl := dist_len (ls (cutEnd A₂ q)) (ls (cutEnd B₂ q))
      rw [hV, ls_len, ls_len] at hl
      have hE1 : (cutEnd A₂ q).length = 0 → V = 2 * (cutEnd B₂ q).length := fun e => by
        have : ls (cutEnd A₂ q) = [] := List.length_eq_zero_iff.mp e
        rw [← hV, this, dist_nil, ls_len]
      have hE2 : (cutEnd B₂ q).length = 0 → V = 2 * (cutEnd A₂ q).length := fun e => by
        have : ls (cutEnd B₂ q) = [] := List.length_eq_zero_iff.mp e
        rw [← hV, this, dist_nil_r, ls_len]
      unfold lm2 at F₁
      apply cut_lev news c tc V F₁
      · intro KEY
        repeat' ((fail_if_success (with_reducible show wpAny _ _ (exec (Stmt.For _ _ _ _ _) _) _ _ _)); (fail_if_success (with_reducible show wpAny _ _ (call (Value.type _) [Value.ref _]) _ _ _)); (first | ((with_reducible show wpAny _ _ (eval (Expr.Subscript (Expr.Name _ _) (Expr.Slice none (some (Expr.BoolOp _ _ _)) none _) _) _) _ _ _); (with_reducible rename Fr _ _ _ _ => F'); (with_reducible rename News _ _ _ _ => N'); k_dflt (refine post_slice (s := ⟨_, _, _, _, _⟩) F' N' (by exact rfl) (by exact rfl) (by exact rfl) (by exact rfl) (by exact rfl) (by decide) (by omega) (by omega) ?_); intro _ _ _ _ _ _; (try dsimp only)) | (k_unfold; (try dsimp only)) | (k_end; wrow_close) | walk1 | (dsimp only; walk1) | (leave1; try dsimp only)) <;> ((try ((with_reducible rename Fr _ _ _ _ => Fq); dsimp only at Fq)); (try dsimp only)))
        · refine cb_retI hret ?_ (by k_asm) (News.tail' (by k_asm)); omega
        · rename IsRange _ _ _ _ _ _ _ _ => R
          rename Fr _ _ _ _ => F
          rename News _ _ _ _ => N
          rename_i tkz _ _ _ _
          (try dsimp only at R)
          obtain ⟨rr, hrr, R'⟩ := name_range R
          rw [hrr]
          have K := KEY _ tkz _ (LevAt.intro (cutEnd B₂ q) (cutEnd A₂ q) F N (fun p hp => by first | exact hp | exact .tail _ hp | exact .tail _ (.tail _ hp) | exact .tail _ (.tail _ (.tail _ hp))) R' rfl rfl rfl hV (by omega) (by omega) (by omega) (by omega))
          exact K
        · refine cb_retI hret ?_ (by k_asm) (by k_asm); omega
        · rename IsRange _ _ _ _ _ _ _ _ => R
          rename Fr _ _ _ _ => F
          rename News _ _ _ _ => N
          rename_i tkz _ _ _ _
          (try dsimp only at R)
          obtain ⟨rr, hrr, R'⟩ := name_range R
          rw [hrr]
          have K := KEY _ tkz _ (LevAt.intro (cutEnd A₂ q) (cutEnd B₂ q) F N (fun p hp => by first | exact hp | exact .tail _ hp | exact .tail _ (.tail _ hp) | exact .tail _ (.tail _ (.tail _ hp))) R' rfl rfl rfl hW (by omega) (by omega) (by omega) (by omega))
          exact K
        · refine cb_retI hret ?_ (by k_asm) (by k_asm); omega
        · refine cb_retI hret ?_ (by k_asm) (by k_asm); omega
      · intro hh tkk r HL
        clear hV hW hE1 hE2 hl
        obtain ⟨mm, ns, X, Y, tx, ty, t1, t2, t3, F, N, hns, R, q1, q2, q3, hYX, hX0, hX1, hY1, hY0⟩ := HL
        rw [canon1 _ _ q3, canon1 _ _ q2, canon1 _ _ q1] at F
        dsimp only at F
        refine lrange2 rfl F N R (by omega) ?_
        intro D0 us c0 h2 tk2 F2 N2 hD2 hi2
        clear F N R
        repeat' ((fail_if_success (with_reducible show wpAny _ _ (exec (Stmt.For _ _ _ _ _) _) _ _ _)); (first | ((with_reducible show wpAny _ _ (eval (Expr.Subscript (Expr.Name _ _) (Expr.Slice none (some (Expr.BoolOp _ _ _)) none _) _) _) _ _ _); (with_reducible rename Fr _ _ _ _ => F'); (with_reducible rename News _ _ _ _ => N'); k_dflt (refine post_slice (s := ⟨_, _, _, _, _⟩) F' N' (by exact rfl) (by exact rfl) (by exact rfl) (by exact rfl) (by exact rfl) (by decide) (by omega) (by omega) ?_); intro _ _ _ _ _ _; (try dsimp only)) | (k_unfold; (try dsimp only)) | (k_end; wrow_close) | walk1 | (dsimp only; walk1) | (leave1; try dsimp only)) <;> ((try ((with_reducible rename Fr _ _ _ _ => Fq); dsimp only at Fq)); (try dsimp only)))
        refine wpAny_For ?_
        repeat' ((fail_if_success (with_reducible show wpAny _ _ (pyIter _) _ _ _)); first | walk1 | (dsimp only; walk1))
        rename IsRange _ _ _ _ _ _ _ _ => R
        rename Fr _ _ _ _ => F
        rename News _ _ _ _ => N
        refine range_loopD (s := ⟨_, _, _, _, _⟩) rfl rfl rfl R (by omega) F N hD2 (OJ X Y c _ _ tc D0) hi2 ⟨rfl, rfl, rfl, rfl, ⟨_, _, rfl, fun z => absurd z (by omega)⟩, ?_⟩ ?_ ?_
        · exact row0 _ _
        · rintro i ti m₁ vs₁ c₁ ns₁ own h tk hi ⟨j1, j2, j3, j4, ⟨rr, rt, j5, j6⟩, j7⟩ hi₁ F₁ N₁ hD₁
          clear F N R
          rw [canon1 _ _ j5, canon1 _ _ j4, canon1 _ _ j3, canon1 _ _ j2, canon1 _ _ j1] at F₁
          dsimp only at F₁
          repeat' ((fail_if_success (with_reducible show wpAny _ _ (exec (Stmt.For _ _ _ _ _) _) _ _ _)); (fail_if_success (with_reducible show RowEnd _ _ _ _ _ _ _ _ _)); (first | ((with_reducible show wpAny _ _ (eval (Expr.Subscript (Expr.Name _ _) (Expr.Slice none (some (Expr.BoolOp _ _ _)) none _) _) _) _ _ _); (with_reducible rename Fr _ _ _ _ => F'); (with_reducible rename News _ _ _ _ => N'); k_dflt (refine post_slice (s := ⟨_, _, _, _, _⟩) F' N' (by exact rfl) (by exact rfl) (by exact rfl) (by exact rfl) (by exact rfl) (by decide) (by omega) (by omega) ?_); intro _ _ _ _ _ _; (try dsimp only)) | (k_unfold; (try dsimp only)) | (k_end; wrow_close) | walk1 | (dsimp only; walk1) | (leave1; try dsimp only)) <;> ((try ((with_reducible rename Fr _ _ _ _ => Fq); dsimp only at Fq)); (try dsimp only)))
          refine wpAny_For ?_
          repeat' ((fail_if_success (with_reducible show wpAny _ _ (pyIter _) _ _ _)); first | walk1 | (dsimp only; walk1))
          rename IsRange _ _ _ _ _ _ _ _ => R
          rename Fr _ _ _ _ => F
          rename News _ _ _ _ => N
          refine range_loopD (s := ⟨_, _, _, _, _⟩) rfl rfl rfl R (by omega) F N hD₁ (IJ X Y c _ _ tc D0 i) hi₁ (IJ_start hi rfl rfl rfl rfl rfl rfl rfl rfl j7) ?_ ?_
          · rintro j tj m₂ vs₂ c₂ ns₂ own₂ h' tk' hj ⟨l1, l2, l3, l4, ⟨t5, l5⟩, ⟨t6, l6⟩, ⟨r7, t7, l7, l7'⟩, ⟨mn, t8, l8, l8'⟩, l9⟩ hi₂ F₂ N₂ hD₂
            clear F N R
            rw [canon1 _ _ l8, canon1 _ _ l7, canon1 _ _ l6, canon1 _ _ l5, canon1 _ _ l4, canon1 _ _ l3, canon1 _ _ l2, canon1 _ _ l1] at F₂
            dsimp only at F₂
            have hns : ns₂.length = X.length := by rw [l9]; simp
            repeat' ((fail_if_success (with_reducible show wpAny _ _ (call (Value.ref 76) [Value.str _ _, Value.str _ _]) _ _ _)); (fail_if_success (with_reducible show RowEnd _ _ _ _ _ _ _ _ _)); (first | ((with_reducible show wpAny _ _ (eval (Expr.Subscript (Expr.Name _ _) (Expr.Slice none (some (Expr.BoolOp _ _ _)) none _) _) _) _ _ _); (with_reducible rename Fr _ _ _ _ => F'); (with_reducible rename News _ _ _ _ => N'); k_dflt (refine post_slice (s := ⟨_, _, _, _, _⟩) F' N' (by exact rfl) (by exact rfl) (by exact rfl) (by exact rfl) (by exact rfl) (by decide) (by omega) (by omega) ?_); intro _ _ _ _ _ _; (try dsimp only)) | (k_unfold; (try dsimp only)) | (k_end; wrow_close) | walk1 | (dsimp only; walk1) | (leave1; try dsimp only)) <;> ((try ((with_reducible rename Fr _ _ _ _ => Fq); dsimp only at Fq)); (try dsimp only)))
            k_here
            refine' subst_ctr _ _ _ _ _ _ _ _ _ _ _ _ _ _ _ _ _ _ _ _ _ _ _ ⟨_, _, _, _, _⟩ _ _ ?sj1 ?sj2 ?sj3 ?sj4 ?sj5 ?sj6 ?sj7 ?sj8 ?sj9 ?sjA; (case sj1 => k_asm); (case sj2 => k_asm); (case sj3 => k_in); (case sj4 => k_asm); (case sj5 => k_asm); (case sj6 => rfl); (case sj7 => exact ⟨Nat.le_of_ble_eq_true rfl, Nat.le_of_ble_eq_true rfl⟩); (case sj8 => ktr_room); (case sj9 => ktr_units)
            intro _ _ _ _ _
            (try dsimp only)
            repeat' ((fail_if_success (with_reducible show wpAny _ _ (exec (Stmt.For _ _ _ _ _) _) _ _ _)); (fail_if_success (with_reducible show RowEnd _ _ _ _ _ _ _ _ _)); (first | ((with_reducible show wpAny _ _ (eval (Expr.Subscript (Expr.Name _ _) (Expr.Slice none (some (Expr.BoolOp _ _ _)) none _) _) _) _ _ _); (with_reducible rename Fr _ _ _ _ => F'); (with_reducible rename News _ _ _ _ => N'); k_dflt (refine post_slice (s := ⟨_, _, _, _, _⟩) F' N' (by exact rfl) (by exact rfl) (by exact rfl) (by exact rfl) (by exact rfl) (by decide) (by omega) (by omega) ?_); intro _ _ _ _ _ _; (try dsimp only)) | (k_unfold; (try dsimp only)) | (k_end; wrow_close) | walk1 | (dsimp only; walk1) | (leave1; try dsimp only)) <;> ((try ((with_reducible rename Fr _ _ _ _ => Fq); dsimp only at Fq)); (try dsimp only)))
            all_goals
              (obtain ⟨e1, e2⟩ := new_val hi hj l7' l9
               (try have hz : (if (D (ls Y) (ls X) i j : Int) + substC (Txt.item Y (i : Int)) (Txt.item X (j : Int)) < (if ns₂.getD (j : Int).toNat 0 < (r7 : Int) then ns₂.getD (j : Int).toNat 0 else (r7 : Int)) + 2 then (D (ls Y) (ls X) i j : Int) + substC (Txt.item Y (i : Int)) (Txt.item X (j : Int)) else (if ns₂.getD (j : Int).toNat 0 < (r7 : Int) then ns₂.getD (j : Int).toNat 0 else (r7 : Int)) + 2) < mn := by assumption)
               first
               | exact RowEnd.intro (by k_asm) (by k_asm) (by k_asm) (IJ_next hj e2 e1 rfl rfl rfl rfl rfl rfl rfl rfl l9 (mn_less l8' e2 hz))
               | exact RowEnd.intro (by k_asm) (by k_asm) (by k_asm) (IJ_next hj e2 e1 rfl rfl rfl rfl rfl rfl rfl rfl l9 (mn_more l8' e2 (by assumption))))
          · rintro h3 tk3 m' vs' c' ns' F' N' hi' ⟨l1, l2, l3, l4, ⟨t5, l5⟩, ⟨t6, l6⟩, ⟨r7, t7, l7, l7'⟩, ⟨mn, t8, l8, l8'⟩, l9⟩
            rw [canon1 _ _ l8, canon1 _ _ l7, canon1 _ _ l6, canon1 _ _ l5, canon1 _ _ l4, canon1 _ _ l3, canon1 _ _ l2, canon1 _ _ l1] at F'
            dsimp only at F'
            have hmV := mn_le hX0 hi hYX l8'
            repeat' ((fail_if_success (with_reducible show wpAny _ _ (exec (Stmt.For _ _ _ _ _) _) _ _ _)); (fail_if_success (with_reducible show RowEnd _ _ _ _ _ _ _ _ _)); (first | ((with_reducible show wpAny _ _ (eval (Expr.Subscript (Expr.Name _ _) (Expr.Slice none (some (Expr.BoolOp _ _ _)) none _) _) _) _ _ _); (with_reducible rename Fr _ _ _ _ => F'); (with_reducible rename News _ _ _ _ => N'); k_dflt (refine post_slice (s := ⟨_, _, _, _, _⟩) F' N' (by exact rfl) (by exact rfl) (by exact rfl) (by exact rfl) (by exact rfl) (by decide) (by omega) (by omega) ?_); intro _ _ _ _ _ _; (try dsimp only)) | (k_unfold; (try dsimp only)) | (k_end; wrow_close) | walk1 | (dsimp only; walk1) | (leave1; try dsimp only)) <;> ((try ((with_reducible rename Fr _ _ _ _ => Fq); dsimp only at Fq)); (try dsimp only)))
            · (try dsimp only)
              unfold RowEnd
              (try dsimp only)
              repeat' (first | ((with_reducible show wpAny _ _ (eval (Expr.Subscript (Expr.Name _ _) (Expr.Slice none (some (Expr.BoolOp _ _ _)) none _) _) _) _ _ _); (with_reducible rename Fr _ _ _ _ => F'); (with_reducible rename News _ _ _ _ => N'); k_dflt (refine post_slice (s := ⟨_, _, _, _, _⟩) F' N' (by exact rfl) (by exact rfl) (by exact rfl) (by exact rfl) (by exact rfl) (by decide) (by omega) (by omega) ?_); intro _ _ _ _ _ _; (try dsimp only)) | (k_unfold; (try dsimp only)) | (k_end; wrow_close) | walk1 | (dsimp only; walk1) | (leave1; try dsimp only)) <;> ((try ((with_reducible rename Fr _ _ _ _ => Fq); dsimp only at Fq)); (try dsimp only))
              (with_reducible rename News _ _ _ _ => NN)
              have hcV : c + 1 = (V : Int) := by omega
              exact cb_retI hret hcV (by k_asm) (NN.perm fun p hp => by have hp := hns p hp; first | exact .tail _ (List.mem_append_right _ hp) | exact .tail _ (List.mem_append_right _ (.tail _ hp)))
            · exact RowEnd.intro (by k_asm) (by k_asm) (by k_asm) (OJ_next hX0 rfl rfl rfl rfl rfl l7' l9)
        · rintro h3 tk3 m' vs' c' ns' F' N' hi' ⟨j1, j2, j3, j4, ⟨rr, rt, j5, j6⟩, j7⟩
          have hrr := OJ_val hY0 hYX j6
          rw [canon1 _ _ j5, canon1 _ _ j4, canon1 _ _ j3, canon1 _ _ j2, canon1 _ _ j1] at F'
          dsimp only at F'
          repeat' ((fail_if_success (with_reducible show wpAny _ _ (exec (Stmt.For _ _ _ _ _) _) _ _ _)); (fail_if_success (with_reducible show RowEnd _ _ _ _ _ _ _ _ _)); (first | ((with_reducible show wpAny _ _ (eval (Expr.Subscript (Expr.Name _ _) (Expr.Slice none (some (Expr.BoolOp _ _ _)) none _) _) _) _ _ _); (with_reducible rename Fr _ _ _ _ => F'); (with_reducible rename News _ _ _ _ => N'); k_dflt (refine post_slice (s := ⟨_, _, _, _, _⟩) F' N' (by exact rfl) (by exact rfl) (by exact rfl) (by exact rfl) (by exact rfl) (by decide) (by omega) (by omega) ?_); intro _ _ _ _ _ _; (try dsimp only)) | (k_unfold; (try dsimp only)) | (k_end; wrow_close) | walk1 | (dsimp only; walk1) | (leave1; try dsimp only)) <;> ((try ((with_reducible rename Fr _ _ _ _ => Fq); dsimp only at Fq)); (try dsimp only)))
          (with_reducible rename News _ _ _ _ => NN)
          exact cb_retI hret hrr (by k_asm) (NN.perm fun p hp => by have hp := hns p hp; first | exact .tail _ hp | exact .tail _ (.tail _ hp))
end Mine

/-! CMP -/
namespace Mine
/-- the values of a block, item by item -/
inductive Ys {α : Type} (R : α → Value → Prop) : List α → List Value → Prop
  | nil : Ys R [] []
  | cons {a : α} {v : Value} {as : List α} {vs : List Value} : R a v → Ys R as vs → Ys R (a :: as) (v :: vs)
theorem Ys.snoc {α : Type} {R : α → Value → Prop} {as : List α} {vs : List Value} (h : Ys R as vs) {a : α} {v : Value} (r : R a v) : Ys R (as ++ [a]) (vs ++ [v]) := by
  induction h with
  | nil => exact .cons r .nil
  | cons h _ ih => exact .cons h ih
theorem Ys.strs {α : Type} {f : α → Str} : ∀ {as : List α} {vs : List Value}, Ys (fun a v => ∃ t, v = .str (f a) t) as vs → StrsAre vs (as.map f)
  | _, _, .nil => .nil
  | _, _, .cons ⟨t, e⟩ h => e ▸ .cons _ t h.strs
theorem Ys.ints {α : Type} {f : α → Int} : ∀ {as : List α} {vs : List Value}, Ys (fun a v => ∃ t, v = .int (f a) t) as vs → IntsAre vs (as.map f)
  | _, _, .nil => .nil
  | _, _, .cons ⟨t, e⟩ h => e ▸ .cons _ t h.ints
section
open PyProof.Rows.LCg PyProof.Rows.LCt
variable {prog : Program} {w : World} {A : Around} {E : Value → Shared → Prop} {s : Shared} {h₀ : Heap} {L : Addr} {m : Str → Option Value} {env : Env}
structure ItAt (prog : Program) (w : World) (A : Around) (h₀ : Heap) (L : Addr) (n : Nat) (P : Nat → Value → Prop) (S : List (Addr × Obj) → Prop) (h : Heap) (I : Addr) (fp : List Addr) (St : Nat → Heap → Prop) (h' : Heap) : Prop where
  walks : Walks prog w A I fp [I] n P St
  obj : ∀ i h, St i h → ∃ o, h.get? I = some o
  keep : ∀ i h h' o nw, St i h → h.get? I = some o → h'.get? I = some o → (∀ b o, h₀.get? b = some o → h'.get? b = some o) → News h₀ L h' nw → S nw → St i h'
  start : St 0 h'
  foot : ∀ b ∈ fp, b < h'.objs.size
  old : ∀ b o, h.get? b = some o → h'.get? b = some o
  new : I = h.objs.size
def IterOK (prog : Program) (w : World) (A : Around) (h₀ : Heap) (L : Addr) (n : Nat) (P : Nat → Value → Prop) (S : List (Addr × Obj) → Prop) (xv : Value) (s₁ : Shared) : Prop :=
  ∀ (Q : Value → Shared → Prop) (E : Value → Shared → Prop), (∀ I fp St h', ItAt prog w A h₀ L n P S s₁.heap I fp St h' → Q (.ref I) { s₁ with heap := h' }) → wpAny (model prog w) A (pyIter xv) Q E s₁
theorem iter_tuple {ax : Addr} {its : Array Value} {k : Nat} {news : List (Addr × Obj)} (hh : A.handled = none) (N : News h₀ L s.heap news) (hm : (ax, ({ cls := .type "tuple", data := .seq its k } : Obj)) ∈ news) :
    IterOK prog w A h₀ L its.size (fun i v => its[i]? = some v) (fun nw => (ax, ({ cls := .type "tuple", data := .seq its k } : Obj)) ∈ nw) (.ref ax) s := by
  intro Q E hQ
  have hl : s.heap.IsTuple ax its := ⟨_, (N _ hm).1, rfl, _, rfl⟩
  have hlt : ax < s.heap.objs.size := Heap.lt_size (N _ hm).1
  refine wpAny_pyIter_tuple hl (hQ _ [s.heap.objs.size, ax] _ _ ⟨Walks.tuple hh s.heap.objs.size ax (Nat.ne_of_lt hlt) its, ?_, ?_, ⟨⟨_, Heap.get?_push_size _ rfl, rfl, rfl⟩, hl.push _⟩, ?_, fun b o e => Heap.get?_push_of_some _ e, rfl⟩)
  · intro i h st
    obtain ⟨o, e, _⟩ := st.1
    exact ⟨o, e⟩
  · intro i h h' o nw st e e' _ N' hS
    refine ⟨?_, ⟨_, (N' _ hS).1, rfl, _, rfl⟩⟩
    obtain ⟨o', q, r⟩ := st.1
    rw [e] at q
    cases q
    exact ⟨o, e', r⟩
  · intro b hb
    rw [Heap.size_push]
    rcases List.mem_cons.mp hb with rfl | hb
    · exact Nat.lt_succ_self _
    · rw [List.mem_singleton.mp hb]
      exact Nat.lt_succ_of_lt hlt
theorem iter_list {ax : Addr} {its : Array Value} {k : Nat} {news : List (Addr × Obj)} (hh : A.handled = none) (N : News h₀ L s.heap news) (hm : (ax, ({ cls := .type "list", data := .seq its k } : Obj)) ∈ news) :
    IterOK prog w A h₀ L its.size (fun i v => its[i]? = some v) (fun nw => (ax, ({ cls := .type "list", data := .seq its k } : Obj)) ∈ nw) (.ref ax) s := by
  intro Q E hQ
  have hl : s.heap.IsList ax its := ⟨_, (N _ hm).1, rfl, _, rfl⟩
  have hlt : ax < s.heap.objs.size := Heap.lt_size (N _ hm).1
  refine wpAny_pyIter_list hl (hQ _ [s.heap.objs.size, ax] _ _ ⟨Walks.list hh s.heap.objs.size ax (Nat.ne_of_lt hlt) its, ?_, ?_, ⟨⟨_, Heap.get?_push_size _ rfl, rfl, rfl⟩, hl.push _⟩, ?_, fun b o e => Heap.get?_push_of_some _ e, rfl⟩)
  · intro i h st
    obtain ⟨o, e, _⟩ := st.1
    exact ⟨o, e⟩
  · intro i h h' o nw st e e' _ N' hS
    refine ⟨?_, ⟨_, (N' _ hS).1, rfl, _, rfl⟩⟩
    obtain ⟨o', q, r⟩ := st.1
    rw [e] at q
    cases q
    exact ⟨o, e', r⟩
  · intro b hb
    rw [Heap.size_push]
    rcases List.mem_cons.mp hb with rfl | hb
    · exact Nat.lt_succ_self _
    · rw [List.mem_singleton.mp hb]
      exact Nat.lt_succ_of_lt hlt
theorem iter_range {r : Addr} {n : Nat} {t u v : Tok} (hh : A.handled = none) (hr : IsRange s.heap r 0 (n : Int) 1 t u v) (hn : n ≤ 1000) :
    IterOK prog w A h₀ L n (fun i v => ∃ t, v = .int (i : Int) t) (fun _ => True) (.ref r) s := by
  intro Q E hQ
  refine wpAny_pyIter_range hr (small_one (by omega) (by omega) (by omega) (by omega)) ?_
  have hz : Builtin.Range.rangeSize 0 (n : Int) 1 = (n : Int) := by
    unfold Builtin.Range.rangeSize
    rw [if_pos (by omega)]
    split <;> omega
  rw [hz]
  have W := range_walks (prog := prog) (w := w) hh (I := s.heap.objs.size) 0 n
  refine hQ _ [s.heap.objs.size] _ _ ⟨{ sub := W.sub, frame := W.frame, done := W.done, self := W.self, item := fun i s Q E hi st hQ => W.item i s Q E hi st fun v h' tk hP => hQ v h' tk (by obtain ⟨t, rfl⟩ := hP; exact ⟨t, by rw [Int.zero_add]⟩) }, ?_, range_st, by show IsRangeIter _ _ _ _ _; simpa using Heap.get?_push_size _ rfl, ?_, fun b o e => Heap.get?_push_of_some _ e, rfl⟩
  · intro i h st
    exact ⟨_, st⟩
  · intro b hb
    rw [Heap.size_push, List.mem_singleton.mp hb]
    exact Nat.lt_succ_self _
theorem iter_str {x : Str} {t : Tok} (hh : A.handled = none) (hx : x.cps.all (· < 128) = true) : IterOK prog w A h₀ L x.cps.size (SignAt x) (fun _ => True) (.str x t) s := by
  intro Q E hQ
  refine wpAny_pyIter_ascii hx (hQ _ [s.heap.objs.size] (fun i h => h.IsStrIter s.heap.objs.size "str_ascii_iterator" x t i) _ ⟨Walks.strAscii hh _ x t, ?_, ?_, ⟨_, Heap.get?_push_size _ rfl, rfl, rfl⟩, ?_, fun b o e => Heap.get?_push_of_some _ e, rfl⟩)
  · intro i h st
    obtain ⟨o, e, _⟩ := st
    exact ⟨o, e⟩
  · intro i h h' o nw st e e' _ N' hS
    obtain ⟨o', q, r⟩ := st
    rw [e] at q
    cases q
    exact ⟨o, e', r⟩
  · intro b hb
    rw [Heap.size_push, List.mem_singleton.mp hb]
    exact Nat.lt_succ_self _

/-- the turns of a block whose element leaves the heap alone -/
theorem rest_of {elt : Expr} {x : Str} {scope : Scope} {cl : List (Str × Addr)} {S : List (Addr × Obj) → Prop} {P R : Nat → Value → Prop} {Fin : List Value → List (Addr × Obj) → Prop} {n : Nat} {news : List (Addr × Obj)} (hS : S news)
    (step : ∀ i, i < n → ∀ v I oI C oC D ys m₂ h tk (E' : Value → Shared → Prop), P i v → NsObj oC m₂ → m₂ x = some v → Fr h₀ L h m → News h₀ L h ((I, oI) :: (C, oC) :: (D, lst ys) :: news) →
      wpAny (model prog w) A (eval elt (compEnvC scope cl C env)) (fun y s' => (∃ tk', s' = { s with heap := h, toks := tk' }) ∧ R i y) E' { s with heap := h, toks := tk })
    (fin : ∀ ys, Ys R (List.range n) ys → Fin ys news) : CompRest prog w A h₀ L m env elt x scope cl s S P Fin n 0 [] news := by
  have main : ∀ k i ys, i + k = n → Ys R (List.range i) ys → CompRest prog w A h₀ L m env elt x scope cl s S P Fin k i ys news := by
    intro k
    induction k with
    | zero =>
      intro i ys e h
      rw [Nat.add_zero] at e
      subst e
      exact CompRest.zero (fin ys h)
    | succ k ih =>
      intro i ys e hy
      refine CompRest.succ fun v I oI C oC D m₂ h tk E' hP hC hx F N off ne => wpAny_mono (step i (by omega) v I oI C oC D ys m₂ h tk E' hP hC hx F N) (fun y s' hq => ?_) fun _ _ z => z
      obtain ⟨⟨tk', rfl⟩, hR⟩ := hq
      exact CompEnd.intro F N news (fun p hp => hp) off hS (ih (i + 1) (ys ++ [y]) (by omega) (by rw [List.range_succ]; exact hy.snoc hR))
  exact main n 0 [] (Nat.zero_add _) .nil
/-- the same with a test -/
theorem restT_of {ct elt : Expr} {x : Str} {scope : Scope} {cl : List (Str × Addr)} {S : List (Addr × Obj) → Prop} {P R : Nat → Value → Prop} {b : Nat → Bool} {Fin : List Value → List (Addr × Obj) → Prop} {n : Nat} {news : List (Addr × Obj)} (hS : S news)
    (step : ∀ i, i < n → ∀ v I oI C oC D ys m₂ h tk (E' : Value → Shared → Prop), P i v → NsObj oC m₂ → m₂ x = some v → Fr h₀ L h m → News h₀ L h ((I, oI) :: (C, oC) :: (D, lst ys) :: news) →
      wpAny (model prog w) A (isTrue ct (compEnvC scope cl C env) (eval ct (compEnvC scope cl C env))) (fun ok s' => b i = ok ∧ if ok = true then
        wpAny (model prog w) A (eval elt (compEnvC scope cl C env)) (fun y s' => (∃ tk', s' = { s with heap := h, toks := tk' }) ∧ R i y) E' s' else (∃ tk', s' = { s with heap := h, toks := tk' })) E' { s with heap := h, toks := tk })
    (fin : ∀ ys, Ys R ((List.range n).filter b) ys → Fin ys news) : CompRestT prog w A h₀ L m env ct elt x scope cl s S P Fin n 0 [] news := by
  have main : ∀ k i ys, i + k = n → Ys R ((List.range i).filter b) ys → CompRestT prog w A h₀ L m env ct elt x scope cl s S P Fin k i ys news := by
    intro k
    induction k with
    | zero =>
      intro i ys e h
      rw [Nat.add_zero] at e
      subst e
      exact CompRestT.zero (fin ys h)
    | succ k ih =>
      intro i ys e hy
      refine CompRestT.succ fun v I oI C oC D m₂ h tk E' hP hC hx F N off ne => wpAny_mono (step i (by omega) v I oI C oC D ys m₂ h tk E' hP hC hx F N) (fun ok s' hq => ?_) fun _ _ z => z
      obtain ⟨hb, hq⟩ := hq
      cases ok with
      | true =>
        rw [if_pos rfl] at hq
        rw [if_pos rfl]
        refine wpAny_mono hq (fun y s' hq => ?_) fun _ _ z => z
        obtain ⟨⟨tk', rfl⟩, hR⟩ := hq
        exact CompEnd.intro F N news (fun p hp => hp) off hS (ih (i + 1) (ys ++ [y]) (by omega) (by rw [List.range_succ, List.filter_append, List.filter_cons_of_pos (by exact hb), List.filter_nil]; exact hy.snoc hR))
      | false =>
        rw [if_neg (by decide)] at hq
        rw [if_neg (by decide)]
        obtain ⟨tk', rfl⟩ := hq
        exact CompEnd.intro F N news (fun p hp => hp) off hS (ih (i + 1) ys (by omega) (by rw [List.range_succ, List.filter_append, List.filter_cons_of_neg (by rw [hb]; decide), List.filter_nil, List.append_nil]; exact hy))
  exact main n 0 [] (Nat.zero_add _) .nil

theorem comp_U {elt iter : Expr} {x : Str} {px : Pos} {scope : Scope} {cl : List (Str × Addr)} {pos : Pos} {Q : Value → Shared → Prop}
    (hclos : closureFor scope env = pure cl) (hcell : ∀ y ∈ scope.names, y.2 ≠ .cell) (hkind : scope.kind = .function)
    (hnames : ∀ y ∈ scope.names, y.2 = .local → scope.names.lookup y.1 = some .local) (hx : scope.names.lookup x = some .local)
    (h : wpAny (model prog w) A (eval iter env) (fun xv s₁ => ∃ n P S news, Fr h₀ L s₁.heap m ∧ News h₀ L s₁.heap news ∧ IterOK prog w A h₀ L n P S xv s₁ ∧ n ≤ sizeLine ∧ S news ∧
      ∀ g, CompRest prog w A h₀ L m env elt x scope cl { s₁ with heap := g } S P (FinE h₀ L m { s₁ with heap := g } Q) n 0 [] news) E s)
    (hs : ∀ x, foldedSetIterable iter env x = pure x := by intro _; rfl) :
    wpAny (model prog w) A (eval (.ListComp elt [⟨.Name x px, iter, [], 0⟩] scope pos) env) Q E s := by
  rw [eval_ListComp]
  refine wpAny_comprehension_free (use := none) rfl hs hclos hkind hnames (wpAny_mono h (fun xv s₁ h₁ => ?_) fun _ _ e => e)
  obtain ⟨n, P, S, news, F, N, hI, hsz, hS, R⟩ := h₁
  refine hI _ _ fun I fp St h' Z => ?_
  have hI := Z.new
  subst hI
  refine block_U Z.walks hsz Z.obj Z.keep hcell hkind hx Z.start Z.foot (F.keeps Z.old) (N.grown Z.old) (Nat.ne_of_lt F.ns.lt) (next_is_new F) (fun p hp => Nat.ne_of_lt (Heap.lt_size (N p hp).1)) hS (R _) ?_
  intro D C h tk m' ys news' F' N' o1 hn hC₀ hD₀ hCL hDL hCD offC fin
  refine ⟨m', hn, fun h'' hs'' => fin D h'' tk (F'.change hs'' hCL hC₀) (fun p hp => ?_) o1⟩
  refine ⟨hs''.extBut _ _ ?_ (N' p hp).1, (N' p hp).2⟩
  rcases List.mem_cons.mp hp with rfl | hp
  · exact Ne.symm hCD
  · exact offC p hp
theorem comp_T {ct elt iter : Expr} {x : Str} {px : Pos} {scope : Scope} {cl : List (Str × Addr)} {pos : Pos} {Q : Value → Shared → Prop}
    (hclos : closureFor scope env = pure cl) (hcell : ∀ y ∈ scope.names, y.2 ≠ .cell) (hkind : scope.kind = .function)
    (hnames : ∀ y ∈ scope.names, y.2 = .local → scope.names.lookup y.1 = some .local) (hx : scope.names.lookup x = some .local)
    (h : wpAny (model prog w) A (eval iter env) (fun xv s₁ => ∃ n P S news, Fr h₀ L s₁.heap m ∧ News h₀ L s₁.heap news ∧ IterOK prog w A h₀ L n P S xv s₁ ∧ n ≤ sizeLine ∧ S news ∧
      ∀ g, CompRestT prog w A h₀ L m env ct elt x scope cl { s₁ with heap := g } S P (FinE h₀ L m { s₁ with heap := g } Q) n 0 [] news) E s)
    (hs : ∀ x, foldedSetIterable iter env x = pure x := by intro _; rfl) :
    wpAny (model prog w) A (eval (.ListComp elt [⟨.Name x px, iter, [ct], 0⟩] scope pos) env) Q E s := by
  rw [eval_ListComp]
  refine wpAny_comprehension_free (use := none) rfl hs hclos hkind hnames (wpAny_mono h (fun xv s₁ h₁ => ?_) fun _ _ e => e)
  obtain ⟨n, P, S, news, F, N, hI, hsz, hS, R⟩ := h₁
  refine hI _ _ fun I fp St h' Z => ?_
  have hI := Z.new
  subst hI
  refine block_T Z.walks hsz Z.obj Z.keep hcell hkind hx Z.start Z.foot (F.keeps Z.old) (N.grown Z.old) (Nat.ne_of_lt F.ns.lt) (next_is_new F) (fun p hp => Nat.ne_of_lt (Heap.lt_size (N p hp).1)) hS (R _) ?_
  intro D C h tk m' ys news' F' N' o1 hn hC₀ hD₀ hCL hDL hCD offC fin
  refine ⟨m', hn, fun h'' hs'' => fin D h'' tk (F'.change hs'' hCL hC₀) (fun p hp => ?_) o1⟩
  refine ⟨hs''.extBut _ _ ?_ (N' p hp).1, (N' p hp).2⟩
  rcases List.mem_cons.mp hp with rfl | hp
  · exact Ne.symm hCD
  · exact offC p hp
/-- to the call behind: the list's own place in the ledger -/
theorem fin_of {Q : Value → Shared → Prop} {R : Nat → Value → Prop} {as : List Nat} {news : List (Addr × Obj)} (h : ∀ ys D h tk, Ys R as ys → Fr h₀ L h m → News h₀ L h ((D, lst ys) :: news) → (∀ p ∈ news, p.1 ≠ D) → Q (.ref D) { s with heap := h, toks := tk }) :
    ∀ ys, Ys R as ys → FinE h₀ L m s Q ys news := by
  intro ys hy
  unfold FinE
  intro D h' tk F N o1
  refine h ys D h' tk hy F N ?_
  have go : ∀ l : List (Addr × Obj), Off1 D l → ∀ p ∈ l, p.1 ≠ D := by
    intro l
    induction l with
    | nil => intro _ p hp; cases hp
    | cons q l ih =>
      intro o p hp
      rcases List.mem_cons.mp hp with rfl | hp
      · exact o.1
      · exact ih o.2 p hp
  exact go news o1
end
end Mine

/-! MANY -/
namespace Mine

def bitI (k : Int) (i : Nat) : Int := Builtin.bitAnd (k.fdiv (2 ^ i)) 1
noncomputable def manyS (k : Int) : Int := ((List.range 4).map (bitI k)).sum
set_option maxHeartbeats 4000000 in
theorem many_ctr (w : World) (mean : ExcName → Option Value) (mg mb : Str → Option Value) (news : List (Addr × Obj)) (k : Int) (t : Tok) :
   Ctr w mean mg mb 103 news 3 (0 ≤ k ∧ k < 16) [.int k t] (fun t => .int (manyS k) t) := by
  dsimp only [Ctr]
  k_fill
  w_top off
  intros
  rename_i hpre _ _ hret
  obtain ⟨hk0, hk1⟩ := hpre
  refine wpAny_call ?_
  refine' code_defC ?k1 ?k2 ?k3 ?k4 ?k5 ?kA ?kF ?kK ?k6 ?k7 ?k8 ?k9 ?kB ?kD ?_ ?c2 ?c3 ?c4
  case kA => exact rfl
  case kF => exact rfl
  case kK => assumption
  case k1 => k_asm
  case k2 => k_asm
  case k3 => k_asm
  case k4 => k_asm
  case k5 => k_asm
  case k6 => k_is
  case k7 => k_is
  case k8 => ktr_room
  case k9 => exact BindsTo.of_eq rfl
  case kB => exact rfl
  case kD => decide +kernel
  case c2 => exact rfl
  case c3 => exact rfl
  case c4 => exact rfl
  k_whole
  intro g' L' h' tk' cells' FG' F' N' Y' B' X' T' l1
  (try k_lt l1)
  k_cells Y'
  obtain ⟨mm, F2⟩ : ∃ mm, Fr g' L' h' mm := ⟨_, F'⟩
  clear F'
  rename (Obj.data _ = Data.cell _) => dc
  have d2 := dc.trans (show _ = Data.cell (some (.int k t)) from rfl)
  clear dc
  (try dsimp only)
  repeat' ((fail_if_success (with_reducible show wpAny _ _ (eval (Expr.ListComp _ _ _ _) _) _ _ _)); first | (k_unfold; (try dsimp only)) | (k_end; wrow_close) | walk1 | (dsimp only; walk1) | (leave1; try dsimp only))
  refine comp_U (h₀ := g') (L := L') (m := mm) (by with_unfolding_all rfl) (by decide) (by rfl) (by decide) (by rfl) ?_
  repeat' ((fail_if_success (with_reducible show ∃ _, _)); first | (k_unfold; (try dsimp only)) | (k_end; wrow_close) | walk1 | (dsimp only; walk1) | (leave1; try dsimp only))
  rename IsRange _ _ _ _ _ _ _ _ => R
  rename Fr _ _ _ _ => F
  rename News _ _ _ _ => N
  refine ⟨4, _, _, _, F, N, iter_range rfl R (by decide), by decide, trivial, fun g => rest_of (R := fun i v => ∃ t, v = .int (bitI k i) t) trivial ?_ (fin_of ?_)⟩
  · intro i hi v I oI C oC D ys m₂ h tk E' hP hC hx F N
    obtain ⟨t0, rfl⟩ := hP
    repeat' ((fail_if_success (with_reducible show _ ∧ _)); first | (k_unfold; (try dsimp only)) | (k_end; wrow_close) | walk1 | (dsimp only; walk1) | (leave1; try dsimp only))
    exact ⟨⟨_, rfl⟩, _, rfl⟩
  · intro ys D h tk hy F N hD
    have hy := hy.ints
    repeat' (first | (k_unfold; (try dsimp only)) | (k_end; wrow_close) | walk1 | (dsimp only; walk1) | (leave1; try dsimp only))
    (with_reducible rename News _ _ _ _ => NN)
    exact cb_retI hret rfl (by k_asm) (NN.perm fun p hp => by first | exact .tail _ (.tail _ hp) | exact .tail _ hp)
end Mine

/-! MAIL -/
namespace Mine

abbrev RowsO (r0 r1 r2 r3 r4 : Str) (t0 t1 t2 t3 t4 : Tok) (n : Nat) : Obj := { cls := .type "list", data := .seq #[.str r0 t0, .str r1 t1, .str r2 t2, .str r3 t3, .str r4 t4] n }
theorem item_rows {prog : Program} {w : World} {A : Around} {E : Value → Shared → Prop} {s : Shared} {value slice : Expr} {g : Heap} {L l : Addr} {news : List (Addr × Obj)} {items : Array Value} {n : Nat} {k : Int} {u : Tok} {x : Value} {Q : Value → Shared → Prop} (N : News g L s.heap news) (hm : (l, ({ cls := .type "list", data := .seq items n } : Obj)) ∈ news)
    (h0 : 0 ≤ k) (hfit : k < 2 ^ 63) (hx : items.toList[k.toNat]? = some x) (h : Q x s)
    (hs : subscripted slice false (.ref l) (.int k u) = operate [.ref l, .int k u] (getItem (.ref l) (.int k u)) := by with_unfolding_all rfl) (hg : ∀ r, letTemporaryGo value (.ref l) r = pure () := by intro _; with_unfolding_all rfl) :
    wpAny (model prog w) A (subscriptTail value slice (.ref l) (.int k u)) Q E s :=
  have hl : s.heap.IsList l items := ⟨_, (N _ hm).1, rfl, _, rfl⟩
  subscriptTail_builtin hl.typeIs slot_list_getitem.lookup (wpAny_getItem_list hl h0 hfit (by rw [← hx, Array.getElem?_toList]) h) hs hg
theorem bound_four {f : Nat → Str} {B : Nat} (h : ∀ i, (f i).length ≤ B) (b : Nat → Bool) : ((((List.range 4).filter b).map f).map (·.length)).sum + (((List.range 4).filter b).map f).length ≤ 4 * B + 4 ∧ (Txt.join (Str.ofString "") (((List.range 4).filter b).map f)).length ≤ 4 * B := by
  have e : (Txt.join (Str.ofString "") (((List.range 4).filter b).map f)).length = ((((List.range 4).filter b).map f).map (·.length)).sum + _ * 0 := size_glued _ _
  rw [e]
  have h0 := h 0
  have h1 := h 1
  have h2 := h 2
  have h3 := h 3
  show ((((List.filter b [0, 1, 2, 3])).map f).map (·.length)).sum + (((List.filter b [0, 1, 2, 3])).map f).length ≤ _ ∧ ((((List.filter b [0, 1, 2, 3])).map f).map (·.length)).sum + _ ≤ _
  simp only [List.filter_cons, List.filter_nil]
  cases b 0 <;> cases b 1 <;> cases b 2 <;> cases b 3 <;> simp <;> omega
theorem bound_four' {f : Nat → Str} {B : Nat} (h : ∀ i, (f i).length ≤ B) : (((List.range 4).map f).map (·.length)).sum + ((List.range 4).map f).length ≤ 4 * B + 4 ∧ (Txt.join (Str.ofString "") ((List.range 4).map f)).length ≤ 4 * B := by
  have := bound_four h (fun _ => true)
  rw [List.filter_eq_self.mpr (fun _ _ => rfl)] at this
  exact this
/-- the rows from the last to the first -/
def rowAt (r0 r1 r2 r3 : Str) : Nat → Str
  | 0 => r3
  | 1 => r2
  | 2 => r1
  | _ => r0
def mailI (r0 r1 r2 r3 : Str) (k : Int) (i : Nat) : Str := (if bitI k (3 - i) ≠ 0 then Str.ofString "\"" else Str.ofString "") ++ rowAt r0 r1 r2 r3 i
def mailS (r0 r1 r2 r3 r4 : Str) (k : Int) : Str := Txt.join (Str.ofString "") ((List.range 4).map (mailI r0 r1 r2 r3 k)) ++ r4
theorem mailI_pos {r0 r1 r2 r3 : Str} {k : Int} {i : Nat} (h : bitI k (3 - i) ≠ 0) : Str.ofString "\"" ++ rowAt r0 r1 r2 r3 i = mailI r0 r1 r2 r3 k i := by
  unfold mailI
  rw [if_pos h]
theorem mailI_neg {r0 r1 r2 r3 : Str} {k : Int} {i : Nat} (h : bitI k (3 - i) = 0) : Str.ofString "" ++ rowAt r0 r1 r2 r3 i = mailI r0 r1 r2 r3 k i := by
  unfold mailI
  rw [if_neg (fun e => e h)]
theorem rowAt_len {r0 r1 r2 r3 : Str} (h0 : r0.length ≤ 20) (h1 : r1.length ≤ 20) (h2 : r2.length ≤ 20) (h3 : r3.length ≤ 20) (i : Nat) : (rowAt r0 r1 r2 r3 i).length ≤ 20 := by
  unfold rowAt
  split <;> assumption
theorem mailI_len {r0 r1 r2 r3 : Str} (h0 : r0.length ≤ 20) (h1 : r1.length ≤ 20) (h2 : r2.length ≤ 20) (h3 : r3.length ≤ 20) (k : Int) (i : Nat) : (mailI r0 r1 r2 r3 k i).length ≤ 21 := by
  have e := rowAt_len h0 h1 h2 h3 i
  unfold mailI
  rw [Str.length_append]
  split
  · have : (Str.ofString "\"").length = 1 := rfl
    omega
  · have : (Str.ofString "").length = 0 := rfl
    omega
set_option maxHeartbeats 4000000 in
theorem mail_ctr (w : World) (mean : ExcName → Option Value) (mg mb : Str → Option Value) (news : List (Addr × Obj)) (l : Addr) (n : Nat) (r0 r1 r2 r3 r4 : Str) (t0 t1 t2 t3 t4 : Tok) (k : Int) (t : Tok) :
   Ctr w mean mg mb 88 ((l, RowsO r0 r1 r2 r3 r4 t0 t1 t2 t3 t4 n) :: news) 3 (0 ≤ k ∧ k < 16 ∧ r0.length ≤ 20 ∧ r1.length ≤ 20 ∧ r2.length ≤ 20 ∧ r3.length ≤ 20 ∧ r4.length ≤ 20) [.ref l, .int k t] (fun t => .str (mailS r0 r1 r2 r3 r4 k) t) := by
  dsimp only [Ctr]
  k_fill
  w_top off
  intros
  rename_i hpre _ _ hret
  obtain ⟨hk0, hk1, h0, h1, h2, h3, h4⟩ := hpre
  refine wpAny_call ?_
  refine' code_defC ?k1 ?k2 ?k3 ?k4 ?k5 ?kA ?kF ?kK ?k6 ?k7 ?k8 ?k9 ?kB ?kD ?_ ?c2 ?c3 ?c4
  case kA => exact rfl
  case kF => exact rfl
  case kK => assumption
  case k1 => k_asm
  case k2 => k_asm
  case k3 => k_asm
  case k4 => k_asm
  case k5 => k_asm
  case k6 => k_is
  case k7 => k_is
  case k8 => ktr_room
  case k9 => exact BindsTo.of_eq rfl
  case kB => exact rfl
  case kD => decide +kernel
  case c2 => exact rfl
  case c3 => exact rfl
  case c4 => exact rfl
  k_whole
  intro g' L' h' tk' cells' FG' F' N' Y' B' X' T' l1
  (try k_lt l1)
  k_cells Y'
  obtain ⟨mm, F2⟩ : ∃ mm, Fr g' L' h' mm := ⟨_, F'⟩
  clear F'
  rename (Obj.data _ = Data.cell _) => dc
  have d2 := dc.trans (show _ = Data.cell (some (.ref l)) from rfl)
  clear dc
  revert d2
  rename (Obj.data _ = Data.cell _) => dc
  have d3 := dc.trans (show _ = Data.cell (some (.int k t)) from rfl)
  clear dc
  intro d2
  (try dsimp only)
  repeat' ((fail_if_success (with_reducible show wpAny _ _ (eval (Expr.ListComp _ _ _ _) _) _ _ _)); first | ((with_reducible show wpAny _ _ (subscriptTail _ _ (Value.ref _) (Value.int _ _)) _ _ _); (with_reducible rename News _ _ _ _ => N'); (refine item_rows N' (by k_mem) (by decide) (by decide) (by rfl) ?_)) | (k_unfold; (try dsimp only)) | (k_end; wrow_close) | walk1 | (dsimp only; walk1) | (leave1; try dsimp only))
  refine comp_U (h₀ := g') (L := L') (m := mm) (by with_unfolding_all rfl) (by decide) (by rfl) (by decide) (by rfl) ?_
  repeat' ((fail_if_success (with_reducible show ∃ _, _)); first | ((with_reducible show wpAny _ _ (subscriptTail _ _ (Value.ref _) (Value.int _ _)) _ _ _); (with_reducible rename News _ _ _ _ => N'); (refine item_rows N' (by k_mem) (by decide) (by decide) (by rfl) ?_)) | (k_unfold; (try dsimp only)) | (k_end; wrow_close) | walk1 | (dsimp only; walk1) | (leave1; try dsimp only))
  rename Fr _ _ _ _ => F
  rename News _ _ _ _ => N
  refine ⟨_, _, _, _, F, N, iter_tuple rfl N List.mem_cons_self, Nat.le_of_ble_eq_true rfl, List.mem_cons_self, fun g => rest_of (R := fun i v => ∃ t, v = .str (mailI r0 r1 r2 r3 k i) t) List.mem_cons_self ?_ (fin_of ?_)⟩
  · clear F N
    intro i hi v I oI C oC D ys m₂ h tk E' hP hC hx F N
    have hi : i < 4 := hi
    obtain rfl | rfl | rfl | rfl : i = 0 ∨ i = 1 ∨ i = 2 ∨ i = 3 := by omega
    all_goals
      lcg_open hP
      repeat' ((fail_if_success (with_reducible show _ ∧ _)); first | ((with_reducible show wpAny _ _ (subscriptTail _ _ (Value.ref _) (Value.int _ _)) _ _ _); (with_reducible rename News _ _ _ _ => N'); (refine item_rows N' (by k_mem) (by decide) (by decide) (by rfl) ?_)) | (k_unfold; (try dsimp only)) | (k_end; wrow_close) | walk1 | (dsimp only; walk1) | (leave1; try dsimp only))
    all_goals refine ⟨⟨_, rfl⟩, _, congrArg (fun z => Value.str z _) ?_⟩
    all_goals first
      | exact mailI_pos (r0 := r0) (r1 := r1) (r2 := r2) (r3 := r3) (k := k) (i := 0) (by assumption)
      | exact mailI_neg (r0 := r0) (r1 := r1) (r2 := r2) (r3 := r3) (k := k) (i := 0) (by assumption)
      | exact mailI_pos (r0 := r0) (r1 := r1) (r2 := r2) (r3 := r3) (k := k) (i := 1) (by assumption)
      | exact mailI_neg (r0 := r0) (r1 := r1) (r2 := r2) (r3 := r3) (k := k) (i := 1) (by assumption)
      | exact mailI_pos (r0 := r0) (r1 := r1) (r2 := r2) (r3 := r3) (k := k) (i := 2) (by assumption)
      | exact mailI_neg (r0 := r0) (r1 := r1) (r2 := r2) (r3 := r3) (k := k) (i := 2) (by assumption)
      | exact mailI_pos (r0 := r0) (r1 := r1) (r2 := r2) (r3 := r3) (k := k) (i := 3) (by assumption)
      | exact mailI_neg (r0 := r0) (r1 := r1) (r2 := r2) (r3 := r3) (k := k) (i := 3) (by assumption)
  · clear F N
    intro ys D h tk hy F N hD
    have hy : StrsAre ys ((List.range 4).map (mailI r0 r1 r2 r3 k)) := hy.strs
    repeat' ((fail_if_success (with_reducible show wpAny _ _ (call (Value.builtin _) _) _ _ _)); first | ((with_reducible show wpAny _ _ (subscriptTail _ _ (Value.ref _) (Value.int _ _)) _ _ _); (with_reducible rename News _ _ _ _ => N'); (refine item_rows N' (by k_mem) (by decide) (by decide) (by rfl) ?_)) | (k_unfold; (try dsimp only)) | (k_end; wrow_close) | walk1 | (dsimp only; walk1) | (leave1; try dsimp only))
    refine join_listW ⟨_, (N _ (.head _)).1, rfl, _, rfl⟩ hy (by decide) ?hw ?_
    case hw => exact Nat.le_trans (bound_four' (mailI_len h0 h1 h2 h3 k)).1 (by decide)
    intro _ _
    have hJ : (Txt.join (Str.ofString "") ((List.range 4).map (mailI r0 r1 r2 r3 k))).length ≤ 84 := (bound_four' (mailI_len h0 h1 h2 h3 k)).2
    unfold mailS at hret
    generalize Txt.join (Str.ofString "") ((List.range 4).map (mailI r0 r1 r2 r3 k)) = J at hJ hret ⊢
    repeat' (first | ((with_reducible show wpAny _ _ (subscriptTail _ _ (Value.ref _) (Value.int _ _)) _ _ _); (with_reducible rename News _ _ _ _ => N'); (refine item_rows N' (by k_mem) (by decide) (by decide) (by rfl) ?_)) | (k_unfold; (try dsimp only)) | (k_end; wrow_close) | walk1 | (dsimp only; walk1) | (leave1; try dsimp only))
    (with_reducible rename News _ _ _ _ => NN)
    exact cb_retS hret rfl (by k_asm) (NN.perm fun p hp => by first | exact .tail _ (.tail _ (.tail _ (.tail _ hp))))
end Mine

/-! LEFT -/
namespace Mine

def leftB (k : Int) (i : Nat) : Bool := !(bitI k (3 - i) != 0)
def leftS (r0 r1 r2 r3 r4 : Str) (k : Int) : Str := Txt.join (Str.ofString "") (((List.range 4).filter (leftB k)).map (rowAt r0 r1 r2 r3)) ++ (if Builtin.bitAnd k 1 ≠ 0 then Str.ofString "z." else r4)
set_option maxHeartbeats 4000000 in
theorem left_ctr (w : World) (mean : ExcName → Option Value) (mg mb : Str → Option Value) (news : List (Addr × Obj)) (l : Addr) (n : Nat) (r0 r1 r2 r3 r4 : Str) (t0 t1 t2 t3 t4 : Tok) (k : Int) (t : Tok) :
   Ctr w mean mg mb 93 ((l, RowsO r0 r1 r2 r3 r4 t0 t1 t2 t3 t4 n) :: news) 3 (0 ≤ k ∧ k < 16 ∧ r0.length ≤ 20 ∧ r1.length ≤ 20 ∧ r2.length ≤ 20 ∧ r3.length ≤ 20 ∧ r4.length ≤ 20) [.ref l, .int k t] (fun t => .str (leftS r0 r1 r2 r3 r4 k) t) := by
  dsimp only [Ctr]
  k_fill
  w_top off
  intros
  rename_i hpre _ _ hret
  obtain ⟨hk0, hk1, h0, h1, h2, h3, h4⟩ := hpre
  refine wpAny_call ?_
  refine' code_defC ?k1 ?k2 ?k3 ?k4 ?k5 ?kA ?kF ?kK ?k6 ?k7 ?k8 ?k9 ?kB ?kD ?_ ?c2 ?c3 ?c4
  case kA => exact rfl
  case kF => exact rfl
  case kK => assumption
  case k1 => k_asm
  case k2 => k_asm
  case k3 => k_asm
  case k4 => k_asm
  case k5 => k_asm
  case k6 => k_is
  case k7 => k_is
  case k8 => ktr_room
  case k9 => exact BindsTo.of_eq rfl
  case kB => exact rfl
  case kD => decide +kernel
  case c2 => exact rfl
  case c3 => exact rfl
  case c4 => exact rfl
  k_whole
  intro g' L' h' tk' cells' FG' F' N' Y' B' X' T' l1
  (try k_lt l1)
  k_cells Y'
  obtain ⟨mm, F2⟩ : ∃ mm, Fr g' L' h' mm := ⟨_, F'⟩
  clear F'
  rename (Obj.data _ = Data.cell _) => dc
  have d2 := dc.trans (show _ = Data.cell (some (.ref l)) from rfl)
  clear dc
  revert d2
  rename (Obj.data _ = Data.cell _) => dc
  have d3 := dc.trans (show _ = Data.cell (some (.int k t)) from rfl)
  clear dc
  intro d2
  (try dsimp only)
  repeat' ((fail_if_success (with_reducible show wpAny _ _ (eval (Expr.ListComp _ _ _ _) _) _ _ _)); first | ((with_reducible show wpAny _ _ (subscriptTail _ _ (Value.ref _) (Value.int _ _)) _ _ _); (with_reducible rename News _ _ _ _ => N'); (refine item_rows N' (by k_mem) (by decide) (by decide) (by rfl) ?_)) | (k_unfold; (try dsimp only)) | (k_end; wrow_close) | walk1 | (dsimp only; walk1) | (leave1; try dsimp only))
  refine comp_T (h₀ := g') (L := L') (m := mm) (by with_unfolding_all rfl) (by decide) (by rfl) (by decide) (by rfl) ?_
  repeat' ((fail_if_success (with_reducible show ∃ _, _)); first | ((with_reducible show wpAny _ _ (subscriptTail _ _ (Value.ref _) (Value.int _ _)) _ _ _); (with_reducible rename News _ _ _ _ => N'); (refine item_rows N' (by k_mem) (by decide) (by decide) (by rfl) ?_)) | (k_unfold; (try dsimp only)) | (k_end; wrow_close) | walk1 | (dsimp only; walk1) | (leave1; try dsimp only))
  rename Fr _ _ _ _ => F
  rename News _ _ _ _ => N
  refine ⟨_, _, _, _, F, N, iter_tuple rfl N List.mem_cons_self, Nat.le_of_ble_eq_true rfl, List.mem_cons_self, fun g => restT_of (R := fun i v => ∃ t, v = .str (rowAt r0 r1 r2 r3 i) t) (b := leftB k) List.mem_cons_self ?_ (fin_of ?_)⟩
  · clear F N
    intro i hi v I oI C oC D ys m₂ h tk E' hP hC hx F N
    have hi : i < 4 := hi
    obtain rfl | rfl | rfl | rfl : i = 0 ∨ i = 1 ∨ i = 2 ∨ i = 3 := by omega
    all_goals
      lcg_open hP
      repeat' ((fail_if_success (with_reducible show _ ∧ _)); first | ((with_reducible show wpAny _ _ (subscriptTail _ _ (Value.ref _) (Value.int _ _)) _ _ _); (with_reducible rename News _ _ _ _ => N'); (refine item_rows N' (by k_mem) (by decide) (by decide) (by rfl) ?_)) | (k_unfold; (try dsimp only)) | (k_end; wrow_close) | walk1 | (dsimp only; walk1) | (leave1; try dsimp only))
    all_goals
      refine ⟨rfl, ?_⟩
      split
      · repeat' ((fail_if_success (with_reducible show _ ∧ _)); first | ((with_reducible show wpAny _ _ (subscriptTail _ _ (Value.ref _) (Value.int _ _)) _ _ _); (with_reducible rename News _ _ _ _ => N'); (refine item_rows N' (by k_mem) (by decide) (by decide) (by rfl) ?_)) | (k_unfold; (try dsimp only)) | (k_end; wrow_close) | walk1 | (dsimp only; walk1) | (leave1; try dsimp only))
        exact ⟨⟨_, rfl⟩, _, rfl⟩
      · exact ⟨_, rfl⟩
  · clear F N
    intro ys D h tk hy F N hD
    have hy : StrsAre ys (((List.range 4).filter (leftB k)).map (rowAt r0 r1 r2 r3)) := hy.strs
    repeat' ((fail_if_success (with_reducible show wpAny _ _ (call (Value.builtin _) _) _ _ _)); first | ((with_reducible show wpAny _ _ (subscriptTail _ _ (Value.ref _) (Value.int _ _)) _ _ _); (with_reducible rename News _ _ _ _ => N'); (refine item_rows N' (by k_mem) (by decide) (by decide) (by rfl) ?_)) | (k_unfold; (try dsimp only)) | (k_end; wrow_close) | walk1 | (dsimp only; walk1) | (leave1; try dsimp only))
    refine join_listW ⟨_, (N _ (.head _)).1, rfl, _, rfl⟩ hy (by decide) ?hw ?_
    case hw => exact Nat.le_trans (bound_four (rowAt_len h0 h1 h2 h3) _).1 (by decide)
    intro _ _
    have hJ : (Txt.join (Str.ofString "") (((List.range 4).filter (leftB k)).map (rowAt r0 r1 r2 r3))).length ≤ 80 := (bound_four (rowAt_len h0 h1 h2 h3) _).2
    unfold leftS at hret
    generalize Txt.join (Str.ofString "") (((List.range 4).filter (leftB k)).map (rowAt r0 r1 r2 r3)) = J at hJ hret ⊢
    repeat' (first | ((with_reducible show wpAny _ _ (subscriptTail _ _ (Value.ref _) (Value.int _ _)) _ _ _); (with_reducible rename News _ _ _ _ => N'); (refine item_rows N' (by k_mem) (by decide) (by decide) (by rfl) ?_)) | (k_unfold; (try dsimp only)) | (k_end; wrow_close) | walk1 | (dsimp only; walk1) | (leave1; try dsimp only))
    · (with_reducible rename News _ _ _ _ => NN)
      exact cb_retS hret (by rw [if_pos (by assumption)]) (by k_asm) (NN.perm fun p hp => by first | exact .tail _ (.tail _ (.tail _ (.tail _ hp))))
    · (with_reducible rename News _ _ _ _ => NN)
      exact cb_retS hret (by rw [if_neg (fun e => e (by assumption))]) (by k_asm) (NN.perm fun p hp => by first | exact .tail _ (.tail _ (.tail _ (.tail _ hp))))
end Mine

/-! CNT -/
namespace Mine

theorem mail_at (w : World) (mean : ExcName → Option Value) (mg mb : Str → Option Value) (news : List (Addr × Obj)) (l : Addr) (n : Nat) (r0 r1 r2 r3 r4 : Str) (t0 t1 t2 t3 t4 : Tok) (k : Int) (t : Tok) (hm : (l, RowsO r0 r1 r2 r3 r4 t0 t1 t2 t3 t4 n) ∈ news) :
   Ctr w mean mg mb 88 news 3 (0 ≤ k ∧ k < 16 ∧ r0.length ≤ 20 ∧ r1.length ≤ 20 ∧ r2.length ≤ 20 ∧ r3.length ≤ 20 ∧ r4.length ≤ 20) [.ref l, .int k t] (fun t => .str (mailS r0 r1 r2 r3 r4 k) t) := by
  intro dp un gd cn cs a ccd cl outer A₀ base h₀ L m s Q E B F X N T hk hp h1 h2 hret
  exact mail_ctr w mean mg mb news l n r0 r1 r2 r3 r4 t0 t1 t2 t3 t4 k t dp un gd cn cs a ccd cl outer A₀ base h₀ L m s Q E B F X (N.perm fun p hp => by rcases List.mem_cons.mp hp with rfl | hp; exact hm; exact hp) T hk hp h1 h2 (fun t h' tk' F' N' => hret t h' tk' F' N'.tail')
theorem left_at (w : World) (mean : ExcName → Option Value) (mg mb : Str → Option Value) (news : List (Addr × Obj)) (l : Addr) (n : Nat) (r0 r1 r2 r3 r4 : Str) (t0 t1 t2 t3 t4 : Tok) (k : Int) (t : Tok) (hm : (l, RowsO r0 r1 r2 r3 r4 t0 t1 t2 t3 t4 n) ∈ news) :
   Ctr w mean mg mb 93 news 3 (0 ≤ k ∧ k < 16 ∧ r0.length ≤ 20 ∧ r1.length ≤ 20 ∧ r2.length ≤ 20 ∧ r3.length ≤ 20 ∧ r4.length ≤ 20) [.ref l, .int k t] (fun t => .str (leftS r0 r1 r2 r3 r4 k) t) := by
  intro dp un gd cn cs a ccd cl outer A₀ base h₀ L m s Q E B F X N T hk hp h1 h2 hret
  exact left_ctr w mean mg mb news l n r0 r1 r2 r3 r4 t0 t1 t2 t3 t4 k t dp un gd cn cs a ccd cl outer A₀ base h₀ L m s Q E B F X (N.perm fun p hp => by rcases List.mem_cons.mp hp with rfl | hp; exact hm; exact hp) T hk hp h1 h2 (fun t h' tk' F' N' => hret t h' tk' F' N'.tail')
theorem mailS_len {r0 r1 r2 r3 r4 : Str} (h0 : r0.length ≤ 20) (h1 : r1.length ≤ 20) (h2 : r2.length ≤ 20) (h3 : r3.length ≤ 20) (h4 : r4.length ≤ 20) (k : Int) : (mailS r0 r1 r2 r3 r4 k).length ≤ 104 := by
  have := (bound_four' (mailI_len h0 h1 h2 h3 k)).2
  unfold mailS
  rw [Str.length_append]
  omega
theorem leftS_len {r0 r1 r2 r3 r4 : Str} (h0 : r0.length ≤ 20) (h1 : r1.length ≤ 20) (h2 : r2.length ≤ 20) (h3 : r3.length ≤ 20) (h4 : r4.length ≤ 20) (k : Int) : (leftS r0 r1 r2 r3 r4 k).length ≤ 104 := by
  have := (bound_four (rowAt_len h0 h1 h2 h3) (leftB k)).2
  unfold leftS
  rw [Str.length_append]
  split
  · have : (Str.ofString "z.").length = 2 := rfl
    omega
  · omega
def letB (x : Str) (i : Nat) : Bool := !!(Builtin.Str.occurrences x (Txt.item (Str.ofString "abcd") (i : Int)) 0 x.length 1).isEmpty
def numS (x : Str) : Int := (((List.range 4).filter (letB x)).map fun i => (1 : Int) * 2 ^ i).sum
structure Cnt (r0 r1 r2 r3 r4 : Str) (k N : Int) : Prop where
  k0 : 0 ≤ k
  k1 : k < 16
  n0 : 0 ≤ N
  n1 : N < 16
  l0 : r0.length ≤ 20
  l1 : r1.length ≤ 20
  l2 : r2.length ≤ 20
  l3 : r3.length ≤ 20
  l4 : r4.length ≤ 20
  a1 : (mailS r0 r1 r2 r3 r4 k).cps.all (· < 128) = true
  a2 : (leftS r0 r1 r2 r3 r4 N).cps.all (· < 128) = true
  s1 : stripS (mailS r0 r1 r2 r3 r4 k) = leftS r0 r1 r2 r3 r4 N
  s2 : stripS (leftS r0 r1 r2 r3 r4 N) = leftS r0 r1 r2 r3 r4 N
  num : numS (leftS r0 r1 r2 r3 r4 N) = N
  gray : k = Builtin.bitXor N (N.fdiv (2 ^ 1))
set_option maxHeartbeats 4000000 in
theorem counted_ctr (w : World) (mean : ExcName → Option Value) (mg mb : Str → Option Value) (news : List (Addr × Obj)) (l : Addr) (n : Nat) (r0 r1 r2 r3 r4 : Str) (t0 t1 t2 t3 t4 : Tok) (k K : Int) (t : Tok) (hm : (l, RowsO r0 r1 r2 r3 r4 t0 t1 t2 t3 t4 n) ∈ news) :
   CtrG w mean mg mb 98 news 5 (Cnt r0 r1 r2 r3 r4 k K) [.ref l, .int k t] (fun t => .int K t) := by
  dsimp only [CtrG]
  k_fill
  w_top off
  intros
  rename_i hpre _ _ hret
  refine wpAny_call ?_
  refine' code_defC ?k1 ?k2 ?k3 ?k4 ?k5 ?kA ?kF ?kK ?k6 ?k7 ?k8 ?k9 ?kB ?kD ?_ ?c2 ?c3 ?c4
  case kA => exact rfl
  case kF => exact rfl
  case kK => assumption
  case k1 => k_asm
  case k2 => k_asm
  case k3 => k_asm
  case k4 => k_asm
  case k5 => k_asm
  case k6 => k_is
  case k7 => k_is
  case k8 => ktr_room
  case k9 => exact BindsTo.of_eq rfl
  case kB => exact rfl
  case kD => decide +kernel
  case c2 => exact rfl
  case c3 => exact rfl
  case c4 => exact rfl
  k_whole
  intro g' L' h' tk' cells' FG' F' N' Y' B' X' T' l1
  (try k_lt l1)
  k_cells Y'
  obtain ⟨mm, F2, hm1, hm2⟩ : ∃ mm, Fr g' L' h' mm ∧ mm (Str.ofString "rows") = some (.ref l) ∧ mm (Str.ofString "marks") = some (.int k t) := ⟨_, F', rfl, rfl⟩
  clear F'
  rw [canon1 _ _ hm2, canon1 _ _ hm1] at F2
  clear hm1 hm2
  dsimp only at F2
  rename (Obj.data _ = Data.cell _) => dc
  have d2 := dc.trans (show _ = Data.cell none from rfl)
  clear dc

  (try dsimp only)
  repeat' ((fail_if_success (with_reducible show wpAny _ _ (call (Value.ref _) _) _ _ _)); first | (k_unfold; (try dsimp only)) | (k_end; wrow_close) | walk1 | (dsimp only; walk1) | (leave1; try dsimp only))
  simp only [List.cons_append, List.nil_append] at N'
  obtain ⟨pk0, pk1, pn0, pn1, p0, p1, p2, p3, p4, pa1, pa2, ps1, ps2, pnum, pgray⟩ := hpre
  have pl1 := mailS_len p0 p1 p2 p3 p4 k
  have pl2 := leftS_len p0 p1 p2 p3 p4 K
  k_here
  refine' (mail_at _ _ _ _ _ _ _ _ _ _ _ _ _ _ _ _ _ _ _ (.tail _ hm)) _ _ _ _ _ _ _ _ _ _ _ _ _ _ ⟨_, _, _, _, _⟩ _ _ ?c11 ?c12 ?c13 ?c14 ?c15 ?c16 ?c17 ?c18 ?c19 ?_; (case c11 => k_asm); (case c12 => k_asm); (case c13 => k_in); (case c14 => k_asm); (case c15 => k_asm); (case c16 => rfl); (case c17 => exact ⟨pk0, pk1, p0, p1, p2, p3, p4⟩); (case c18 => ktr_room); (case c19 => ktr_units)
  intro _ _ _ _ _
  (try dsimp only)
  repeat' ((fail_if_success (with_reducible show wpAny _ _ (call (Value.ref _) _) _ _ _)); first | (k_unfold; (try dsimp only)) | (k_end; wrow_close) | walk1 | (dsimp only; walk1) | (leave1; try dsimp only))
  k_here
  refine' (strip_ctr _ _ _ _ _ _ _) _ _ _ _ _ _ _ _ _ _ _ _ _ _ ⟨_, _, _, _, _⟩ _ _ ?c21 ?c22 ?c23 ?c24 ?c25 ?c26 ?c27 ?c28 ?c29 ?_; (case c21 => k_asm); (case c22 => k_asm); (case c23 => k_in); (case c24 => k_asm); (case c25 => k_asm); (case c26 => rfl); (case c27 => exact ⟨Nat.le_trans pl1 (by decide), pa1⟩); (case c28 => ktr_room); (case c29 => ktr_units)
  intro _ _ _ _ _ _ _
  (try dsimp only)
  rw [ps1]
  repeat' ((fail_if_success (with_reducible show wpAny _ _ (call (Value.ref _) _) _ _ _)); (fail_if_success (with_reducible show wpAny _ _ (eval (Expr.ListComp _ _ _ _) _) _ _ _)); first | (k_unfold; (try dsimp only)) | (k_end; wrow_close) | walk1 | (dsimp only; walk1) | (leave1; try dsimp only))
  k_here
  (with_reducible rename Fr _ _ _ _ => F3)
  (with_reducible rename News _ _ _ _ => N3)
  refine' storeX_C F3 N3 ?u1 (UpdF.head (fun p hp => Nat.ne_of_lt (Nat.lt_succ_of_lt (l1 p hp)))) ?u2 ?_ ?u3 ?u4
  case u1 => rfl
  case u2 => exact d2
  case u3 => rfl
  case u4 => rfl
  clear F3 N3
  intro h5 o5 F5 N5 d5
  (try dsimp only at N5)
  (try dsimp only)
  repeat' ((fail_if_success (with_reducible show wpAny _ _ (call (Value.ref _) _) _ _ _)); (fail_if_success (with_reducible show wpAny _ _ (eval (Expr.ListComp _ _ _ _) _) _ _ _)); first | (k_unfold; (try dsimp only)) | (k_end; wrow_close) | walk1 | (dsimp only; walk1) | (leave1; try dsimp only))
  refine comp_T (h₀ := g') (L := L') (m := fun y => if y = Str.ofString "marks" then some (Value.int k t) else if y = Str.ofString "rows" then some (Value.ref l) else mm y) (by with_unfolding_all rfl) (by decide) (by rfl) (by decide) (by rfl) ?_
  repeat' ((fail_if_success (with_reducible show ∃ _, _)); first | (k_unfold; (try dsimp only)) | (k_end; wrow_close) | walk1 | (dsimp only; walk1) | (leave1; try dsimp only))
  rename IsRange _ _ _ _ _ _ _ _ => R
  (with_reducible rename Fr _ _ _ _ => F)
  (with_reducible rename News _ _ _ _ => N)
  refine ⟨4, _, _, _, F, N, iter_range rfl R (by decide), by decide, trivial, fun g => restT_of (R := fun i v => ∃ t, v = .int ((1 : Int) * 2 ^ i) t) (b := letB (leftS r0 r1 r2 r3 r4 K)) trivial ?_ (fin_of ?_)⟩
  · clear F N
    intro i hi v I oI C oC D ys m₂ h tk E' hP hC hx F N
    obtain ⟨t9, rfl⟩ := hP
    repeat' ((fail_if_success (with_reducible show _ ∧ _)); first | (k_unfold; (try dsimp only)) | (k_end; wrow_close) | walk1 | (dsimp only; walk1) | (leave1; try dsimp only))
    refine ⟨rfl, ?_⟩
    split
    · repeat' ((fail_if_success (with_reducible show _ ∧ _)); first | (k_unfold; (try dsimp only)) | (k_end; wrow_close) | walk1 | (dsimp only; walk1) | (leave1; try dsimp only))
      exact ⟨⟨_, rfl⟩, _, rfl⟩
    · exact ⟨_, rfl⟩
  · clear F N
    intro ys D h tk hy F N hD
    have hy := hy.ints
    have hs : (List.map (fun i => (1 : Int) * 2 ^ i) (List.filter (letB (leftS r0 r1 r2 r3 r4 K)) (List.range 4))).sum = K := pnum
    repeat' ((fail_if_success (with_reducible show wpAny _ _ (call (Value.ref _) _) _ _ _)); first | (k_unfold; (try dsimp only)) | (k_end; wrow_close) | walk1 | (dsimp only; walk1) | (leave1; try dsimp only))
    (with_reducible rename Fr _ _ _ _ => F9)
    rw [hs] at F9 ⊢

    k_here
    refine' (left_at _ _ _ _ _ _ _ _ _ _ _ _ _ _ _ _ _ _ _ (.tail _ (.tail _ hm))) _ _ _ _ _ _ _ _ _ _ _ _ _ _ ⟨_, _, _, _, _⟩ _ _ ?c211 ?c212 ?c213 ?c214 ?c215 ?c216 ?c217 ?c218 ?c219 ?_; (case c211 => k_asm); (case c212 => k_asm); (case c213 => k_in); (case c214 => k_asm); (case c215 => k_asm); (case c216 => rfl); (case c217 => exact ⟨pn0, pn1, p0, p1, p2, p3, p4⟩); (case c218 => ktr_room); (case c219 => ktr_units)
    intro _ _ _ _ _
    (try dsimp only)
    repeat' ((fail_if_success (with_reducible show wpAny _ _ (call (Value.ref _) _) _ _ _)); first | (k_unfold; (try dsimp only)) | (k_end; wrow_close) | walk1 | (dsimp only; walk1) | (leave1; try dsimp only))
    · exfalso
      rename ((_ != _) = true) => hx
      simp at hx
    k_here
    refine' (strip_ctr _ _ _ _ _ _ _) _ _ _ _ _ _ _ _ _ _ _ _ _ _ ⟨_, _, _, _, _⟩ _ _ ?c311 ?c312 ?c313 ?c314 ?c315 ?c316 ?c317 ?c318 ?c319 ?_; (case c311 => k_asm); (case c312 => k_asm); (case c313 => k_in); (case c314 => k_asm); (case c315 => k_asm); (case c316 => rfl); (case c317 => exact ⟨Nat.le_trans pl2 (by decide), pa2⟩); (case c318 => ktr_room); (case c319 => ktr_units)
    intro _ _ _ _ _ _ _
    (try dsimp only)
    rw [ps2]
    repeat' ((fail_if_success (with_reducible show wpAny _ _ (call (Value.ref _) _) _ _ _)); first | (k_unfold; (try dsimp only)) | (k_end; wrow_close) | walk1 | (dsimp only; walk1) | (leave1; try dsimp only))
    all_goals first
      | (exfalso; rename ((_ != _) = true) => hx; simp at hx; done)
      | (exfalso; rename (¬ _ = _) => hx; exact hx pgray)
      | ((with_reducible rename News _ _ _ _ => NN)
         exact hret _ _ _ _ (by k_asm) (NN.perm fun p hp => .tail _ (.tail _ hp)) (GExt.trans (by assumption) (by assumption)))
end Mine

/-! STL -/
namespace Mine
section
variable {prog : Program} {w : World} {A : Around} {E : Value → Shared → Prop} {s : Shared} {h₀ : Heap} {env : Env}
def StEnd (h₀ : Heap) (L : Addr) (rest : List (Addr × Obj)) (s : Shared) (J : (Str → Option Value) → Prop) (Qr : Value → Shared → Prop) (f : Flow) (s₂ : Shared) : Prop := match f with
  | .ret v => Qr v s₂
  | .next => ∃ h' tk m₂, s₂ = { s with heap := h', toks := tk } ∧ Fr h₀ L h' m₂ ∧ News h₀ L h' rest ∧ J m₂
  | _ => False
theorem StEnd.intro {h₀ h' : Heap} {L : Addr} {rest : List (Addr × Obj)} {s : Shared} {J : (Str → Option Value) → Prop} {Qr : Value → Shared → Prop} {tk : Nat} {m₂ : Str → Option Value}
    (F : Fr h₀ L h' m₂) (N : News h₀ L h' rest) (hJ : J m₂) : StEnd h₀ L rest s J Qr .next { s with heap := h', toks := tk } :=
  ⟨h', tk, m₂, rfl, F, N, hJ⟩
theorem strs_at {vs : List Value} {ys : List Str} (h : StrsAre vs ys) {i : Nat} {v : Value} (e : vs[i]? = some v) : ∃ y t, ys[i]? = some y ∧ v = .str y t := by
  induction h generalizing i with
  | nil => cases e
  | cons y t _ ih =>
    cases i with
    | zero => cases e; exact ⟨y, t, rfl, rfl⟩
    | succ i => exact ih e
theorem strs_loop {x : Str} {px : Pos} {body : List Stmt} {R : Result → Shared → Prop} {D : Addr} {k : Nat} {m : Str → Option Value} {its : Array Value} {ys : List Str} {rest : List (Addr × Obj)}
    (hh : A.handled = none) (hx : env.kindOf x = some .local) (hp : (env.scope.kind == .class || (env.scope.kind == .module && env.locals != env.globals)) = false)
    (F : Fr h₀ env.locals s.heap m) (N : News h₀ env.locals s.heap rest) (hm : (D, ({ cls := .type "list", data := .seq its k } : Obj)) ∈ rest) (hi : StrsAre its.toList ys)
    (J : Nat → (Str → Option Value) → Prop) (h0 : J 0 m)
    (step : ∀ (i : Nat) (y : Str) (t : Tok) m₁ own h tk, ys[i]? = some y → J i m₁ → Fr h₀ env.locals h (fun z => if z = x then some (.str y t) else m₁ z) → News h₀ env.locals h (own ++ rest) →
      wpAny (model prog w) A (execs body env) (StEnd h₀ env.locals (own ++ rest) s (J (i + 1)) fun v s' => R (.ok (.ret v)) s') (fun _ _ => False) { s with heap := h, toks := tk })
    (hR : ∀ h' tk m', Fr h₀ env.locals h' m' → News h₀ env.locals h' rest → J ys.length m' → R (.ok .next) { s with heap := h', toks := tk }) :
    wpAny (model prog w) A (pyIter (.ref D)) (fun it s₂ => codeAny (model prog w) A (.forLoop (.Name x px) it body [] env) R s₂) E s := by
  have hl : s.heap.IsList D its := ⟨_, (N _ hm).1, rfl, _, rfl⟩
  have hlt : D < s.heap.objs.size := Heap.lt_size (N _ hm).1
  refine wpAny_pyIter_list hl ?_
  have hfr : h₀.get? s.heap.objs.size = none := F.fresh
  have hDn := (N _ hm).2.2
  have hsz : its.size = ys.length := by rw [← hi.length]; simp
  refine codeAny_forLoop_fr3 (h₀ := h₀) (n := its.size) (s := { s with heap := s.heap.push { cls := .type "list_iterator", data := .fields #[.ref D, .int 0 0] } }) (Walks.list hh s.heap.objs.size D (Nat.ne_of_lt hlt) its) hx hp ?_ (by intro b hb; rw [List.mem_singleton] at hb; rw [hb]; exact hfr)
    (news := rest) (fun p hp => by rw [List.mem_singleton]; exact Nat.ne_of_lt (Heap.lt_size (N p hp).1)) ⟨⟨_, Heap.get?_push_size _ rfl, rfl, rfl⟩, hl.push _⟩ (F.push _) (N.pushKeep _)
    (fun i m₁ news₁ => news₁ = rest ∧ J i m₁) ⟨rfl, h0⟩ ?_ ?_
  · intro hm'
    rcases List.mem_cons.mp hm' with h1 | h1
    · exact absurd h1 (Nat.ne_of_lt F.ns.lt)
    · exact (N _ hm).2.1 (List.mem_singleton.mp h1).symm
  · rintro i v m₁ news₁ s₁ own ⟨h, tk, rfl⟩ hlt hv ⟨rfl, hJ⟩ - hown - F₁ N₁
    obtain ⟨y, t, hy, rfl⟩ := strs_at hi (by rw [Array.getElem?_toList]; exact hv)
    refine wpAny_mono (step i y t m₁ own h tk hy hJ F₁ N₁) ?_ (fun _ _ z => z.elim)
    intro f s₂ hf
    cases f with
    | ret v => exact hf
    | brk => exact hf.elim
    | cont => exact hf.elim
    | next =>
      obtain ⟨h', tk', m₂, rfl, F₂, N₂, hJ₂⟩ := hf
      exact ⟨rfl, h', tk', m₂, _, rfl, F₂, N₂, rfl, rfl, hJ₂⟩
  · rintro h' tk m' news' F' N' - ⟨rfl, hJ'⟩
    exact hR h' tk m' F' N' (by rw [← hsz]; exact hJ')
end
end Mine

/-! ELL -/
namespace Mine

local macro_rules | `(tactic| k_all) => `(tactic| assumption)
def find4 (x y : Str) (i j : Int) : Int := match Builtin.Str.occurrences x y (fromIndex x.length i) (min (fromIndex x.length j) x.length) 1 with | k :: _ => (k : Int) | [] => -1
theorem gives_find4 (x y : Str) (i j : Int) (t u v z : Tok) : Gives (Builtin.«str.find» ⟨[.str x t, .str y u, .int i v, .int j z], []⟩) (.int (find4 x y i j)) := by
  show Gives (match Builtin.Str.occurrences x y (fromIndex x.length i) (min (fromIndex x.length j) x.length) 1 with | k :: _ => retInt k | [] => (do rule "str.find.not-found"; retInt (-1))) _
  unfold find4
  cases Builtin.Str.occurrences x y (fromIndex x.length i) (min (fromIndex x.length j) x.length) 1 with
  | nil => exact .rule (.of_eq rfl)
  | cons k _ => exact .of_eq rfl
theorem call_find4 {prog : Program} {w : World} {A : Around} {E : Value → Shared → Prop} {s : Shared} {x y : Str} {t u v z : Tok} {i j : Int} {Q : Value → Shared → Prop} (hq : Q (.int (find4 x y i j) s.toks) { s with toks := s.toks + 1 }) : wpAny (model prog w) A (call (.builtin "str.find") [.str x t, .str y u, .int i v, .int j z]) Q E s :=
  call_gives F.slot_str_find (typeIs_str _ _ _) F.entry_str_find (F.args_str_find_4 _ _ _ _) (gives_find4 x y i j t u v z) hq
def findsG (b : Str) (en : Int) : List Str → Int → Bool
  | [], _ => true
  | w :: r, st => if find4 b w st en < 0 then false else findsG b en r (find4 b w st en + w.length)
def EJ (b : Str) (tb : Tok) (en : Int) (te : Tok) (ys : List Str) (sp0 : Int) (i : Nat) (m : Str → Option Value) : Prop :=
  m (Str.ofString "got") = some (.str b tb) ∧ m (Str.ofString "endpos") = some (.int en te) ∧ ∃ sp t, m (Str.ofString "startpos") = some (.int sp t) ∧ findsG b en (ys.drop i) sp = findsG b en ys sp0
theorem EJ.start {b : Str} {tb : Tok} {en : Int} {te : Tok} {ys : List Str} {sp : Int} {t : Tok} {m : Str → Option Value} (h1 : m (Str.ofString "got") = some (.str b tb)) (h2 : m (Str.ofString "endpos") = some (.int en te)) (h3 : m (Str.ofString "startpos") = some (.int sp t)) : EJ b tb en te ys sp 0 m :=
  ⟨h1, h2, sp, t, h3, rfl⟩
theorem drop_at {ys : List Str} {i : Nat} {y : Str} (h : ys[i]? = some y) : ys.drop i = y :: ys.drop (i + 1) := by
  obtain ⟨h1, h2⟩ := List.getElem?_eq_some_iff.mp h
  rw [← h2]
  exact List.drop_eq_getElem_cons h1
theorem EJ.next {b y : Str} {tb : Tok} {en : Int} {te : Tok} {ys : List Str} {sp sp0 : Int} {i : Nat} {t : Tok} {m : Str → Option Value} (h : findsG b en (ys.drop i) sp = findsG b en ys sp0) (hy : ys[i]? = some y) (hn : ¬ find4 b y sp en < 0) (h1 : m (Str.ofString "got") = some (.str b tb)) (h2 : m (Str.ofString "endpos") = some (.int en te)) (h3 : m (Str.ofString "startpos") = some (.int (find4 b y sp en + y.length) t)) : EJ b tb en te ys sp0 (i + 1) m := by
  refine ⟨h1, h2, _, _, h3, ?_⟩
  rw [drop_at hy] at h
  rw [← h]
  show _ = if _ then _ else _
  rw [if_neg hn]
theorem EJ.fail {b y : Str} {en : Int} {ys : List Str} {sp sp0 : Int} {i : Nat} (h : findsG b en (ys.drop i) sp = findsG b en ys sp0) (hy : ys[i]? = some y) (hn : find4 b y sp en < 0) : findsG b en ys sp0 = false := by
  rw [drop_at hy] at h
  rw [← h]
  show (if _ then _ else _) = _
  rw [if_pos hn]
theorem EJ.done {b : Str} {tb : Tok} {en : Int} {te : Tok} {ys : List Str} {sp0 : Int} {m : Str → Option Value} (h : EJ b tb en te ys sp0 ys.length m) : findsG b en ys sp0 = true := by
  obtain ⟨_, _, _, _, _, h⟩ := h
  rw [List.drop_length] at h
  rw [← h]
  rfl
def ellE (b : Str) (ms : List Str) (yl : Str) (st : Int) : Bool := if Txt.endswith b yl = true then (if (b.length : Int) - yl.length < st then false else findsG b ((b.length : Int) - yl.length) ms st) else false
def ellP (b y0 : Str) (mid : List Str) (yl : Str) : Bool := if y0.length = 0 then ellE b (y0 :: mid) yl 0 else if Txt.startswith b y0 = true then ellE b mid yl (y0.length : Int) else false
section
variable {b y0 yl : Str} {mid : List Str} {V : Bool}
theorem ell_e2 {ms : List Str} {st : Int} (h2 : Txt.endswith b yl = false) : ellE b ms yl st = false := by
  unfold ellE; rw [if_neg (by rw [h2]; decide)]
theorem ell_e3 {ms : List Str} {st : Int} (h2 : Txt.endswith b yl = true) (h3 : (b.length : Int) - yl.length < st) : ellE b ms yl st = false := by
  unfold ellE; rw [if_pos h2, if_pos h3]
theorem ell_e4 {ms : List Str} {st : Int} (h2 : Txt.endswith b yl = true) (h3 : ¬ (b.length : Int) - yl.length < st) : ellE b ms yl st = findsG b ((b.length : Int) - yl.length) ms st := by
  unfold ellE; rw [if_pos h2, if_neg h3]
theorem ell_a (h0 : (y0.length : Int) ≠ 0) (h1 : Txt.startswith b y0 = true) : ellP b y0 mid yl = ellE b mid yl (y0.length : Int) := by
  unfold ellP; rw [if_neg (by omega), if_pos h1]
theorem ell_b (h0 : (y0.length : Int) = 0) : ellP b y0 mid yl = ellE b (y0 :: mid) yl 0 := by
  unfold ellP; rw [if_pos (by omega)]
theorem ell_l1 (h0 : (y0.length : Int) ≠ 0) (h1 : Txt.startswith b y0 = false) : false = ellP b y0 mid yl := by
  unfold ellP; rw [if_neg (by omega), if_neg (by rw [h1]; decide)]
theorem ell_l2 (h0 : (y0.length : Int) ≠ 0) (h1 : Txt.startswith b y0 = true) (h2 : Txt.endswith b yl = false) : false = ellP b y0 mid yl := by rw [ell_a h0 h1, ell_e2 h2]
theorem ell_l3 (h0 : (y0.length : Int) ≠ 0) (h1 : Txt.startswith b y0 = true) (h2 : Txt.endswith b yl = true) (h3 : (b.length : Int) - yl.length < y0.length) : false = ellP b y0 mid yl := by rw [ell_a h0 h1, ell_e3 h2 h3]
theorem ell_l4 (h0 : (y0.length : Int) ≠ 0) (h1 : Txt.startswith b y0 = true) (h2 : Txt.endswith b yl = true) (h3 : ¬ (b.length : Int) - yl.length < y0.length) (h4 : findsG b ((b.length : Int) - yl.length) mid y0.length = V) : V = ellP b y0 mid yl := by rw [ell_a h0 h1, ell_e4 h2 h3, h4]
theorem ell_m2 (h0 : (y0.length : Int) = 0) (h2 : Txt.endswith b yl = false) : false = ellP b y0 mid yl := by rw [ell_b h0, ell_e2 h2]
theorem ell_m3 (h0 : (y0.length : Int) = 0) (h2 : Txt.endswith b yl = true) (h3 : (b.length : Int) - yl.length < 0) : false = ellP b y0 mid yl := by rw [ell_b h0, ell_e3 h2 h3]
theorem ell_m4 (h0 : (y0.length : Int) = 0) (h2 : Txt.endswith b yl = true) (h3 : ¬ (b.length : Int) - yl.length < 0) (h4 : findsG b ((b.length : Int) - yl.length) (y0 :: mid) 0 = V) : V = ellP b y0 mid yl := by rw [ell_b h0, ell_e4 h2 h3, h4]
end
/-- what stands when the loop over the pieces begins -/
def LoopAt (g : Heap) (L : Addr) (news : List (Addr × Obj)) (b : Str) (tb : Tok) (V : Bool) (h : Heap) : Prop :=
  ∃ (m : Str → Option Value) (ns : List (Addr × Obj)) (D : Addr) (k : Nat) (vals : Array Value) (ys : List Str) (en st : Int) (te ts : Tok),
    Fr g L h m ∧ News g L h ns ∧ (D, ({ cls := .type "list", data := .seq vals k } : Obj)) ∈ ns ∧ StrsAre vals.toList ys ∧ (∀ y ∈ ys, y.length ≤ 200) ∧ (∀ p ∈ news, p ∈ ns) ∧
    m (Str.ofString "ws") = some (.ref D) ∧ m (Str.ofString "got") = some (.str b tb) ∧ m (Str.ofString "endpos") = some (.int en te) ∧ m (Str.ofString "startpos") = some (.int st ts) ∧ findsG b en ys st = V
theorem LoopAt.intro {g : Heap} {L : Addr} {news : List (Addr × Obj)} {b : Str} {tb : Tok} {V : Bool} {h : Heap} {m : Str → Option Value} {ns : List (Addr × Obj)} {D : Addr} {k : Nat} {vals : Array Value} {en st : Int} {te ts : Tok} (ys : List Str)
    (F : Fr g L h m) (N : News g L h ns) (hm : (D, ({ cls := .type "list", data := .seq vals k } : Obj)) ∈ ns) (hs : StrsAre vals.toList ys) (hl : ∀ y ∈ ys, y.length ≤ 200) (hn : ∀ p ∈ news, p ∈ ns)
    (h1 : m (Str.ofString "ws") = some (.ref D)) (h2 : m (Str.ofString "got") = some (.str b tb)) (h3 : m (Str.ofString "endpos") = some (.int en te)) (h4 : m (Str.ofString "startpos") = some (.int st ts)) (h5 : findsG b en ys st = V) : LoopAt g L news b tb V h :=
  ⟨m, ns, D, k, vals, ys, en, st, te, ts, F, N, hm, hs, hl, hn, h1, h2, h3, h4, h5⟩
theorem cut_loop {P : Heap → Nat → Prop} {G : Prop} {g h₁ : Heap} {L : Addr} {m₁ : Str → Option Value} (news : List (Addr × Obj)) (b : Str) (tb : Tok) (V : Bool) (_ : Fr g L h₁ m₁)
    (h : (∀ h tk, LoopAt g L news b tb V h → P h tk) → G) (k : ∀ h tk, LoopAt g L news b tb V h → P h tk) : G := h k
theorem pieces_cons {l : List (Str × Tok)} {x : Str} {r : List Str} (h : l.map (·.1) = x :: r) : ∃ t l', l = (x, t) :: l' ∧ l'.map (·.1) = r := by
  cases l with
  | nil => cases h
  | cons p l' =>
    obtain ⟨y, t⟩ := p
    injection h with e0 h
    dsimp only at e0
    exact ⟨t, l', by rw [e0], h⟩
theorem pieces_nil {l : List (Str × Tok)} (h : l.map (·.1) = []) : l = [] := by
  cases l with
  | nil => rfl
  | cons p l' => cases h
theorem pieces2 {l : List (Str × Tok)} {x0 x1 : Str} (h : l.map (·.1) = [x0, x1]) : ∃ t0 t1, l = [(x0, t0), (x1, t1)] := by
  obtain ⟨t0, l', rfl, h0⟩ := pieces_cons h
  obtain ⟨t1, l'', rfl, h1⟩ := pieces_cons h0
  obtain rfl := pieces_nil h1
  exact ⟨_, _, rfl⟩
theorem pieces3 {l : List (Str × Tok)} {x0 x1 x2 : Str} (h : l.map (·.1) = [x0, x1, x2]) : ∃ t0 t1 t2, l = [(x0, t0), (x1, t1), (x2, t2)] := by
  obtain ⟨t0, l', rfl, h0⟩ := pieces_cons h
  obtain ⟨t1, t2, rfl⟩ := pieces2 h0
  exact ⟨_, _, _, rfl⟩
theorem pieces4 {l : List (Str × Tok)} {x0 x1 x2 x3 : Str} (h : l.map (·.1) = [x0, x1, x2, x3]) : ∃ t0 t1 t2 t3, l = [(x0, t0), (x1, t1), (x2, t2), (x3, t3)] := by
  obtain ⟨t0, l', rfl, h0⟩ := pieces_cons h
  obtain ⟨t1, t2, t3, rfl⟩ := pieces3 h0
  exact ⟨_, _, _, _, rfl⟩
theorem pieces5 {l : List (Str × Tok)} {x0 x1 x2 x3 x4 : Str} (h : l.map (·.1) = [x0, x1, x2, x3, x4]) : ∃ t0 t1 t2 t3 t4, l = [(x0, t0), (x1, t1), (x2, t2), (x3, t3), (x4, t4)] := by
  obtain ⟨t0, l', rfl, h0⟩ := pieces_cons h
  obtain ⟨t1, t2, t3, t4, rfl⟩ := pieces4 h0
  exact ⟨_, _, _, _, _, rfl⟩
theorem mid_cases {mid : List Str} (h : mid.length ≤ 3) : mid = [] ∨ (∃ x1, mid = [x1]) ∨ (∃ x1 x2, mid = [x1, x2]) ∨ (∃ x1 x2 x3, mid = [x1, x2, x3]) := by
  cases mid with
  | nil => exact .inl rfl
  | cons a r =>
    cases r with
    | nil => exact .inr (.inl ⟨a, rfl⟩)
    | cons b r =>
      cases r with
      | nil => exact .inr (.inr (.inl ⟨a, b, rfl⟩))
      | cons c r =>
        cases r with
        | nil => exact .inr (.inr (.inr ⟨a, b, c, rfl⟩))
        | cons d r => simp only [List.length_cons] at h; omega
set_option maxHeartbeats 8000000 in
theorem ell_ctrM (w : World) (mean : ExcName → Option Value) (mg mb : Str → Option Value) (news : List (Addr × Obj)) (a b x0 xl : Str) (mid : List Str) (ta tb : Tok) :
   Ctr w mean mg mb 52 news 3 (a.length ≤ 200 ∧ b.length ≤ 200 ∧ Txt.split a (Str.ofString "...") = x0 :: (mid ++ [xl]) ∧ mid.length ≤ 3 ∧ (Builtin.Str.occurrences a (Str.ofString "...") 0 a.length 1).isEmpty = false ∧ xl.length ≠ 0) [.str a ta, .str b tb] (fun t => .bool (ellP b x0 mid xl)) := by
  dsimp only [Ctr]
  k_fill
  w_top off
  intros
  rename_i hpre _ _ hret
  obtain ⟨hlen, hlen2, hsp, hmid, hocc, hx2⟩ := hpre
  refine wpAny_call ?_
  k_dflt cell_enter
  rename Fr _ _ _ _ => F0
  have F1 := fr_binds F0 (l' := [(Str.ofString "got", .str b tb), (Str.ofString "want", .str a ta)]) rfl
  clear F0
  dsimp only [mOf] at F1
  apply cut_loop news b tb (ellP b x0 mid xl) F1
  · intro KEY
    repeat' ((fail_if_success (with_reducible show wpAny _ _ (call (Value.builtin _) _) _ _ _)); (first | ((with_reducible show wpAny _ _ (call (Value.builtin "str.find") _) _ _ _); refine call_find4 ?_) | (k_unfold; (try dsimp only)) | (k_end; wrow_close) | walk1 | (dsimp only; walk1) | (leave1; try dsimp only)) <;> ((try ((with_reducible rename Fr _ _ _ _ => Fq); dsimp only at Fq)); (try dsimp only)))
    (with_reducible rename News _ _ _ _ => N3)
    have hne3 : ∀ p ∈ news, p.1 ≠ _ := fun p hp => Nat.ne_of_lt (Heap.lt_size (N3 p hp).1)
    repeat' ((fail_if_success (with_reducible show wpAny _ _ (exec (Stmt.Assert _ _ _) _) _ _ _)); (first | ((with_reducible show wpAny _ _ (call (Value.builtin "str.find") _) _ _ _); refine call_find4 ?_) | (k_unfold; (try dsimp only)) | (k_end; wrow_close) | walk1 | (dsimp only; walk1) | (leave1; try dsimp only)) <;> ((try ((with_reducible rename Fr _ _ _ _ => Fq); dsimp only at Fq)); (try dsimp only)))
    rename (List.map _ _ = Txt.split _ _) => hl
    rename (∀ _ ∈ List.map _ _, Str.length _ ≤ _) => hle
    rename StrsAre _ _ => hsa
    rw [hl, hsp] at hle
    rename List (Str × Tok) => l
    clear hsa
    rw [hsp] at hl
    have hle' : ∀ x, x ∈ x0 :: (mid ++ [xl]) → x.length ≤ 200 := fun x hx => Nat.le_trans (hle x hx) (by omega)
    clear hle
    have hl0 : x0.length ≤ 200 := hle' _ (.head _)
    have hll : xl.length ≤ 200 := hle' _ (.tail _ (List.mem_append_right _ (.head _)))
    have hlm : ∀ x ∈ mid, x.length ≤ 200 := fun x hx => hle' _ (.tail _ (List.mem_append_left _ hx))
    have hlz : ∀ x ∈ x0 :: mid, x.length ≤ 200 := fun x hx => (List.mem_cons.mp hx).elim (fun e => e ▸ hl0) (hlm x)
    clear hle'
    rcases mid_cases hmid with hm | ⟨x1, hm⟩ | ⟨x1, x2, hm⟩ | ⟨x1, x2, x3, hm⟩
    all_goals
      rw [hm] at hl
      first
        | obtain ⟨t0, t1, rfl⟩ := pieces2 hl
        | obtain ⟨t0, t1, t2, rfl⟩ := pieces3 hl
        | obtain ⟨t0, t1, t2, t3, rfl⟩ := pieces4 hl
        | obtain ⟨t0, t1, t2, t3, t4, rfl⟩ := pieces5 hl
      clear hl
      dsimp only [strValues, List.map] at *
      repeat' ((fail_if_success (with_reducible show wpAny _ _ (exec (Stmt.For _ _ _ _ _) _) _ _ _)); (first | ((with_reducible show wpAny _ _ (call (Value.builtin "str.find") _) _ _ _); refine call_find4 ?_) | (k_unfold; (try dsimp only)) | (k_end; wrow_close) | walk1 | (dsimp only; walk1) | (leave1; try dsimp only)) <;> ((try ((with_reducible rename Fr _ _ _ _ => Fq); dsimp only at Fq)); (try dsimp only)))
      all_goals try (exfalso; omega)
      all_goals
        (with_reducible rename News _ _ _ _ => NN)
        first
        | exact cb_retB hret (ell_l1 (by assumption) (by assumption)) (by k_asm) (NN.perm fun p hp => by first | exact .tail _ (.tail _ hp) | exact .tail _ hp | exact hp)
        | exact cb_retB hret (ell_l2 (by assumption) (by assumption) (by assumption)) (by k_asm) (NN.perm fun p hp => by first | exact .tail _ (.tail _ hp) | exact .tail _ hp | exact hp)
        | exact cb_retB hret (ell_l3 (by assumption) (by assumption) (by assumption) (by assumption)) (by k_asm) (NN.perm fun p hp => by first | exact .tail _ (.tail _ hp) | exact .tail _ hp | exact hp)
        | exact cb_retB hret (ell_m2 (by assumption) (by assumption)) (by k_asm) (NN.perm fun p hp => by first | exact .tail _ (.tail _ hp) | exact .tail _ hp | exact hp)
        | exact cb_retB hret (ell_m3 (by assumption) (by assumption) (by assumption)) (by k_asm) (NN.perm fun p hp => by first | exact .tail _ (.tail _ hp) | exact .tail _ hp | exact hp)
        | ((with_reducible rename Fr _ _ _ _ => FF)
           have K := KEY _ tk (LoopAt.intro (x0 :: mid) FF NN (.tail _ (.head _)) (by rw [hm]; first | exact .nil | exact (.cons _ _ .nil) | exact (.cons _ _ (.cons _ _ .nil)) | exact (.cons _ _ (.cons _ _ (.cons _ _ .nil))) | exact (.cons _ _ (.cons _ _ (.cons _ _ (.cons _ _ .nil))))) hlz (fun p hp => by first | exact .tail _ (.tail _ hp) | exact .tail _ hp | exact hp) rfl rfl rfl rfl (ell_m4 (by assumption) (by assumption) (by assumption) rfl))
           exact K)
        | ((with_reducible rename Fr _ _ _ _ => FF)
           have K := KEY _ tk (LoopAt.intro mid FF NN (.tail _ (.head _)) (by rw [hm]; first | exact .nil | exact (.cons _ _ .nil) | exact (.cons _ _ (.cons _ _ .nil)) | exact (.cons _ _ (.cons _ _ (.cons _ _ .nil))) | exact (.cons _ _ (.cons _ _ (.cons _ _ (.cons _ _ .nil))))) hlm (fun p hp => by first | exact .tail _ (.tail _ hp) | exact .tail _ hp | exact hp) rfl rfl rfl rfl (ell_l4 (by assumption) (by assumption) (by assumption) (by assumption) rfl))
           exact K)
  · intro h tk HL
    obtain ⟨m, ns, D, kk, vals, ys, en, st, te, ts, F, N, hmem, hstr, hysl, hns, q0, q1, q2, q3, hV⟩ := HL
    rw [canon1 _ _ q3, canon1 _ _ q2, canon1 _ _ q1, canon1 _ _ q0] at F
    dsimp only at F
    refine wpAny_For ?_
    repeat' ((fail_if_success (with_reducible show wpAny _ _ (pyIter _) _ _ _)); (first | ((with_reducible show wpAny _ _ (call (Value.builtin "str.find") _) _ _ _); refine call_find4 ?_) | (k_unfold; (try dsimp only)) | (k_end; wrow_close) | walk1 | (dsimp only; walk1) | (leave1; try dsimp only)) <;> ((try ((with_reducible rename Fr _ _ _ _ => Fq); dsimp only at Fq)); (try dsimp only)))
    (with_reducible rename Fr _ _ _ _ => F)
    (with_reducible rename News _ _ _ _ => N)
    refine strs_loop (s := ⟨_, _, _, _, _⟩) rfl rfl rfl F N hmem hstr (EJ b tb en te ys st) (EJ.start rfl rfl rfl) ?_ ?_
    · rintro i y t m₁ own h tk hy ⟨q1, q2, sp, tsp, q3, q6⟩ F₁ N₁
      clear F N
      have hyl : y.length ≤ 200 := hysl _ (List.mem_of_getElem? hy)
      rw [canon1 _ _ q3, canon1 _ _ q2, canon1 _ _ q1] at F₁
      dsimp only at F₁
      repeat' ((fail_if_success (with_reducible show StEnd _ _ _ _ _ _ _ _)); (first | ((with_reducible show wpAny _ _ (call (Value.builtin "str.find") _) _ _ _); refine call_find4 ?_) | (k_unfold; (try dsimp only)) | (k_end; wrow_close) | walk1 | (dsimp only; walk1) | (leave1; try dsimp only)) <;> ((try ((with_reducible rename Fr _ _ _ _ => Fq); dsimp only at Fq)); (try dsimp only)))
      · (try dsimp only)
        unfold StEnd
        (try dsimp only)
        repeat' ((first | ((with_reducible show wpAny _ _ (call (Value.builtin "str.find") _) _ _ _); refine call_find4 ?_) | (k_unfold; (try dsimp only)) | (k_end; wrow_close) | walk1 | (dsimp only; walk1) | (leave1; try dsimp only)) <;> ((try ((with_reducible rename Fr _ _ _ _ => Fq); dsimp only at Fq)); (try dsimp only)))
        (with_reducible rename News _ _ _ _ => NN)
        exact cb_retB hret ((EJ.fail q6 hy (by assumption)).symm.trans hV) (by k_asm) (NN.perm fun p hp => List.mem_append_right _ (hns p hp))
      · exact StEnd.intro (by k_asm) (by k_asm) (EJ.next q6 hy (by assumption) rfl rfl rfl)
    · intro h' tk m' F' N' hJ
      have hd := EJ.done hJ
      repeat' ((first | ((with_reducible show wpAny _ _ (call (Value.builtin "str.find") _) _ _ _); refine call_find4 ?_) | (k_unfold; (try dsimp only)) | (k_end; wrow_close) | walk1 | (dsimp only; walk1) | (leave1; try dsimp only)) <;> ((try ((with_reducible rename Fr _ _ _ _ => Fq); dsimp only at Fq)); (try dsimp only)))
      (with_reducible rename News _ _ _ _ => NN)
      exact cb_retB hret (hd.symm.trans hV) (by k_asm) (NN.perm hns)
set_option maxHeartbeats 4000000 in
theorem ell_ctr0 (w : World) (mean : ExcName → Option Value) (mg mb : Str → Option Value) (news : List (Addr × Obj)) (a b : Str) (ta tb : Tok) :
   Ctr w mean mg mb 52 news 3 (a.length ≤ 200 ∧ b.length ≤ 200 ∧ (Builtin.Str.occurrences a (Str.ofString "...") 0 a.length 1).isEmpty = true) [.str a ta, .str b tb] (fun t => .bool (a == b)) := by
  dsimp only [Ctr]
  k_fill
  w_top off
  intros
  rename_i hpre _ _ hret
  obtain ⟨hlen, hlen2, hocc⟩ := hpre
  refine wpAny_call ?_
  k_dflt cell_enter
  rename Fr _ _ _ _ => F0
  have F1 := fr_binds F0 (l' := [(Str.ofString "got", .str b tb), (Str.ofString "want", .str a ta)]) rfl
  clear F0
  dsimp only [mOf] at F1
  repeat' ((fail_if_success (with_reducible show wpAny _ _ (call (Value.builtin _) _) _ _ _)); first | ((with_reducible show wpAny _ _ (call (Value.builtin "str.find") _) _ _ _); refine call_find4 ?_) | (k_unfold; (try dsimp only)) | (k_end; wrow_close) | walk1 | (dsimp only; walk1) | (leave1; try dsimp only))
  exact cb_retB hret rfl (by k_asm) (by k_asm)
end Mine

/-! ELC -/
namespace Mine
abbrev dots : Str := Str.ofString "..."
def EllOK (a b : Str) (V : Bool) : Prop :=
  a.length ≤ 200 ∧ b.length ≤ 200 ∧
  (((Builtin.Str.occurrences a dots 0 a.length 1).isEmpty = true ∧ V = (a == b)) ∨
   ((Builtin.Str.occurrences a dots 0 a.length 1).isEmpty = false ∧
     ((∃ x0 x1, Txt.split a dots = [x0, x1] ∧ x1.length ≠ 0 ∧ V = ellP b x0 [] x1) ∨
      (∃ x0 x1 x2, Txt.split a dots = [x0, x1, x2] ∧ x2.length ≠ 0 ∧ V = ellP b x0 [x1] x2) ∨
      (∃ x0 x1 x2 x3, Txt.split a dots = [x0, x1, x2, x3] ∧ x3.length ≠ 0 ∧ V = ellP b x0 [x1, x2] x3) ∨
      (∃ x0 x1 x2 x3 x4, Txt.split a dots = [x0, x1, x2, x3, x4] ∧ x4.length ≠ 0 ∧ V = ellP b x0 [x1, x2, x3] x4))))
theorem ell_ctr (w : World) (mean : ExcName → Option Value) (mg mb : Str → Option Value) (news : List (Addr × Obj)) (a b : Str) (V : Bool) (ta tb : Tok) :
   Ctr w mean mg mb 52 news 3 (EllOK a b V) [.str a ta, .str b tb] (fun _ => .bool V) := by
  intro dp un gd cn cs a' ccd cl outer A₀ base h₀ L m s Q E B F X N T hk hp h1 h2 hret
  obtain ⟨l1, l2, ⟨hz, rfl⟩ | ⟨hz, ⟨x0, x1, hs, hl, rfl⟩ | ⟨x0, x1, x2, hs, hl, rfl⟩ | ⟨x0, x1, x2, x3, hs, hl, rfl⟩ | ⟨x0, x1, x2, x3, x4, hs, hl, rfl⟩⟩⟩ := hp
  · exact ell_ctr0 w mean mg mb news a b ta tb dp un gd cn cs a' ccd cl outer A₀ base h₀ L m s Q E B F X N T hk ⟨l1, l2, hz⟩ h1 h2 hret
  · exact ell_ctrM w mean mg mb news a b x0 x1 [] ta tb dp un gd cn cs a' ccd cl outer A₀ base h₀ L m s Q E B F X N T hk ⟨l1, l2, hs, Nat.le_of_ble_eq_true rfl, hz, hl⟩ h1 h2 hret
  · exact ell_ctrM w mean mg mb news a b x0 x2 [x1] ta tb dp un gd cn cs a' ccd cl outer A₀ base h₀ L m s Q E B F X N T hk ⟨l1, l2, hs, Nat.le_of_ble_eq_true rfl, hz, hl⟩ h1 h2 hret
  · exact ell_ctrM w mean mg mb news a b x0 x3 [x1, x2] ta tb dp un gd cn cs a' ccd cl outer A₀ base h₀ L m s Q E B F X N T hk ⟨l1, l2, hs, Nat.le_of_ble_eq_true rfl, hz, hl⟩ h1 h2 hret
  · exact ell_ctrM w mean mg mb news a b x0 x4 [x1, x2, x3] ta tb dp un gd cn cs a' ccd cl outer A₀ base h₀ L m s Q E B F X N T hk ⟨l1, l2, hs, Nat.le_of_ble_eq_true rfl, hz, hl⟩ h1 h2 hret
section
variable {prog : Program} {w : World} {A : Around} {E : Value → Shared → Prop} {s : Shared} {h₀ : Heap} {env : Env}
theorem range_loop0 {x : Str} {px : Pos} {body : List Stmt} {R : Result → Shared → Prop} {r : Addr} {n : Nat} {m : Str → Option Value} {rest : List (Addr × Obj)} {t u v : Tok}
    (hh : A.handled = none) (hx : env.kindOf x = some .local) (hp : (env.scope.kind == .class || (env.scope.kind == .module && env.locals != env.globals)) = false)
    (hr : IsRange s.heap r 0 (n : Int) 1 t u v) (hn : n ≤ 1000) (F : Fr h₀ env.locals s.heap m) (N : News h₀ env.locals s.heap rest)
    (J : Nat → (Str → Option Value) → Prop) (h0 : J 0 m)
    (step : ∀ (i : Nat) (t : Tok) m₁ own h tk, i < n → J i m₁ → Fr h₀ env.locals h (fun y => if y = x then some (.int i t) else m₁ y) → News h₀ env.locals h (own ++ rest) →
      wpAny (model prog w) A (execs body env) (StEnd h₀ env.locals (own ++ rest) s (J (i + 1)) fun v s' => R (.ok (.ret v)) s') (fun _ _ => False) { s with heap := h, toks := tk })
    (hR : ∀ h' tk m', Fr h₀ env.locals h' m' → News h₀ env.locals h' rest → J n m' → R (.ok .next) { s with heap := h', toks := tk }) :
    wpAny (model prog w) A (pyIter (.ref r)) (fun it s₂ => codeAny (model prog w) A (.forLoop (.Name x px) it body [] env) R s₂) E s := by
  refine wpAny_pyIter_range hr (small_one (by omega) (by omega) (by omega) (by omega)) ?_
  have hz : Builtin.Range.rangeSize 0 (n : Int) 1 = (n : Int) := by
    unfold Builtin.Range.rangeSize
    rw [if_pos (by omega)]
    split <;> omega
  rw [hz]
  have hfr : h₀.get? s.heap.objs.size = none := F.fresh
  refine codeAny_forLoop_fr3 (h₀ := h₀) (s := { s with heap := s.heap.push { cls := .type "range_iterator", data := .fields #[rawInt 0, rawInt (n : Int), rawInt 1] } }) (Walks.range hh s.heap.objs.size 0 1 n) hx hp (by have := F.ns.lt; simp only [List.mem_singleton]; exact Nat.ne_of_lt this) (by intro b hb; rw [List.mem_singleton] at hb; rw [hb]; exact hfr)
    (news := rest) (fun p hp => by rw [List.mem_singleton]; exact Nat.ne_of_lt (Heap.lt_size (N p hp).1)) (by show IsRangeIter _ _ _ _ _; simpa using Heap.get?_push_size _ rfl) (F.push _) (N.pushKeep _)
    (fun i m₁ news₁ => news₁ = rest ∧ J i m₁) ⟨rfl, h0⟩ ?_ ?_
  · rintro i v m₁ news₁ s₁ own ⟨h, tk, rfl⟩ hlt ⟨t, rfl⟩ ⟨rfl, hJ⟩ - hown - F₁ N₁
    have e : (0 : Int) + (i : Int) * 1 = (i : Int) := by omega
    rw [e] at F₁
    refine wpAny_mono (step i t m₁ own h tk hlt hJ F₁ N₁) ?_ (fun _ _ z => z.elim)
    intro f s₂ hf
    cases f with
    | ret v => exact hf
    | brk => exact hf.elim
    | cont => exact hf.elim
    | next =>
      obtain ⟨h', tk', m₂, rfl, F₂, N₂, hJ₂⟩ := hf
      exact ⟨rfl, h', tk', m₂, _, rfl, F₂, N₂, rfl, rfl, hJ₂⟩
  · rintro h' tk m' news' F' N' - ⟨rfl, hJ'⟩
    exact hR h' tk m' F' N' hJ'
end
end Mine

/-! GL -/
namespace Mine
theorem law_raises (args : List WData) (cls : ExcName) : PySem.Challenge.rw_uc0009_01.row.claim.raises args cls = false := rfl
theorem law_post (args : List WData) : PySem.Challenge.rw_uc0009_01.row.claim.post args (.bool true) args = true := by
  refine postW_of (X := true) ?a ?b rfl
  case a => with_unfolding_all rfl
  case b => with_unfolding_all rfl
theorem good_law {cl : Str → Option Addr} {mean : ExcName → Option Value} {args : List WData} {s₁ s' : Shared} (hk : ∀ b o, s₁.heap.get? b = some o → s'.heap.get? b = some o) (hos : s'.os = s₁.os) (hg : AllBare s'.gens) : GoodWG PySem.Challenge.rw_uc0009_01.row.claim cl mean args s₁ (.ok (.ret (.bool true))) s' :=
  ⟨.inl ⟨.bool true, .bool true, [], rfl, law_raises args, .bool true, law_post args, fun _ => ⟨List.nodup_nil, fun _ hz => nomatch hz⟩⟩, .of_keep hk, hos, hg⟩
end Mine

/-! PFD -/
namespace Mine
theorem pick_ints {vs : List Value} {ns : List Int} (hi : IntsAre vs ns) (lo hi' st : Option Int) : ∃ ms, IntsAre (slicePick vs.toArray lo hi' st).toList ms := by
  have at_ : ∀ (j : Nat) (v : Value), vs.toArray[j]? = some v → ∃ n t, v = .int n t := by
    intro j v
    rw [List.getElem?_toArray]
    induction hi generalizing j with
    | nil => intro e; cases e
    | cons n t _ ih =>
      cases j with
      | zero => intro e; cases e; exact ⟨n, t, rfl⟩
      | succ j => intro e; exact ih j e
  unfold slicePick
  generalize sliceRange _ _ _ = l
  show ∃ ms, IntsAre (l.filterMap (vs.toArray[·]?)) ms
  induction l with
  | nil => exact ⟨[], .nil⟩
  | cons j l ih =>
    obtain ⟨ms, h⟩ := ih
    cases e : vs.toArray[j]? with
    | none => rw [List.filterMap_cons_none e]; exact ⟨ms, h⟩
    | some v =>
      obtain ⟨n, t, rfl⟩ := at_ j v e
      rw [List.filterMap_cons_some e]
      exact ⟨n :: ms, .cons n t h⟩
def tb (j : Nat) : Str := [Str.ofString "\\\\", Str.ofString "\\\"", Str.ofString "\\\\\\\""].getD j Str.empty
theorem tb_len {j : Nat} : (tb j).length ≤ 4 := by
  unfold tb
  match j with
  | 0 => decide
  | 1 => decide
  | 2 => decide
  | j + 3 => exact Nat.zero_le _
theorem fmod_nat (x : Int) {n : Nat} (h : 0 < n) : ∃ k : Nat, k < n ∧ x.fmod (n : Int) = (k : Int) := by
  have h1 := Int.fmod_nonneg_of_pos x (by omega : (0 : Int) < n)
  have h2 := Int.fmod_lt_of_pos x (by omega : (0 : Int) < n)
  exact ⟨(x.fmod n).toNat, by omega, by omega⟩
theorem ys_cons {R : Nat → Value → Prop} {i : Nat} {is : List Nat} {ys : List Value} (h : Ys R (i :: is) ys) : ∃ v r, ys = v :: r ∧ R i v ∧ Ys R is r := by
  cases h with
  | cons a t => exact ⟨_, _, rfl, a, t⟩
theorem four {R : Nat → Value → Prop} {ys : List Value} (h : Ys R (List.range 4) ys) : ∃ v0 v1 v2 v3, ys = [v0, v1, v2, v3] ∧ R 0 v0 ∧ R 1 v1 ∧ R 2 v2 ∧ R 3 v3 := by
  have h : Ys R [0, 1, 2, 3] ys := h
  obtain ⟨v0, r0, rfl, a, h0⟩ := ys_cons h
  obtain ⟨v1, r1, rfl, b, h1⟩ := ys_cons h0
  obtain ⟨v2, r2, rfl, c, h2⟩ := ys_cons h1
  obtain ⟨v3, r3, rfl, d, h3⟩ := ys_cons h2
  cases h3
  exact ⟨_, _, _, _, rfl, a, b, c, d⟩
def letterS : Nat → Str | 0 => ⟨#[97]⟩ | 1 => ⟨#[98]⟩ | 2 => ⟨#[99]⟩ | _ => ⟨#[100]⟩
def endS : Nat → Str | 0 => ⟨#[10]⟩ | 1 => ⟨#[13]⟩ | _ => ⟨#[13, 10]⟩
def rowS (i e : Nat) : Str := ⟨#[46]⟩ ++ letterS i ++ endS e
theorem bit_nat (z : Int) : ∃ b : Nat, b < 2 ∧ Builtin.bitAnd z 1 = (b : Int) := by
  rw [bitAnd_m1]
  exact ⟨(z % 2).toNat, by omega, by omega⟩
theorem rowS_crlf {i : Nat} (h : i < 4) : Str.ofString "." ++ Txt.item (Str.ofString "abcd") (i : Int) ++ Str.ofString "\r\n" = rowS i 2 := by
  obtain rfl | rfl | rfl | rfl : i = 0 ∨ i = 1 ∨ i = 2 ∨ i = 3 := by omega
  all_goals decide +kernel
theorem rowS_one {i b : Nat} (h : i < 4) (hb : b < 2) : Str.ofString "." ++ Txt.item (Str.ofString "abcd") (i : Int) ++ Txt.item (Str.ofString "\n\r") (b : Int) = rowS i b := by
  obtain rfl | rfl | rfl | rfl : i = 0 ∨ i = 1 ∨ i = 2 ∨ i = 3 := by omega
  all_goals
    obtain rfl | rfl : b = 0 ∨ b = 1 := by omega
    all_goals decide +kernel
def RowR (i : Nat) (v : Value) : Prop := ∃ e t, e < 3 ∧ v = .str (rowS i e) t
theorem RowR.crlf {i : Nat} (h : i < 4) (t : Tok) : RowR i (.str (Str.ofString "." ++ Txt.item (Str.ofString "abcd") (i : Int) ++ Str.ofString "\r\n") t) := ⟨2, t, by decide, by rw [rowS_crlf h]⟩
theorem RowR.one {i b : Nat} (h : i < 4) (hb : b < 2) (t : Tok) : RowR i (.str (Str.ofString "." ++ Txt.item (Str.ofString "abcd") (i : Int) ++ Txt.item (Str.ofString "\n\r") (b : Int)) t) := ⟨b, t, by omega, by rw [rowS_one h hb]⟩
open PyProof.Rows.LCg in
theorem rest_ofH {prog : Program} {w : World} {A : Around} {s : Shared} {h₀ : Heap} {L : Addr} {m : Str → Option Value} {env : Env} {elt : PySem.Expr} {x : Str} {scope : Scope} {cl : List (Str × Addr)} {S : List (Addr × Obj) → Prop} {P R : Nat → Value → Prop} {Fin : List Value → List (Addr × Obj) → Prop} {n : Nat} {news : List (Addr × Obj)} (hS : S news)
    (step : ∀ i, i < n → ∀ v I oI C oC D ys m₂ h tk (E' : Value → Shared → Prop), P i v → NsObj oC m₂ → m₂ x = some v → Fr h₀ L h m → News h₀ L h ((I, oI) :: (C, oC) :: (D, lst ys) :: news) →
      wpAny (model prog w) A (eval elt (compEnvC scope cl C env)) (fun y s' => (∃ h' tk', s' = { s with heap := h', toks := tk' } ∧ Fr h₀ L h' m ∧ News h₀ L h' ((I, oI) :: (C, oC) :: (D, lst ys) :: news)) ∧ R i y) E' { s with heap := h, toks := tk })
    (fin : ∀ ys, Ys R (List.range n) ys → Fin ys news) : CompRest prog w A h₀ L m env elt x scope cl s S P Fin n 0 [] news := by
  have main : ∀ k i ys, i + k = n → Ys R (List.range i) ys → CompRest prog w A h₀ L m env elt x scope cl s S P Fin k i ys news := by
    intro k
    induction k with
    | zero =>
      intro i ys e h
      rw [Nat.add_zero] at e
      subst e
      exact CompRest.zero (fin ys h)
    | succ k ih =>
      intro i ys e hy
      refine CompRest.succ fun v I oI C oC D m₂ h tk E' hP hC hx F N off ne => wpAny_mono (step i (by omega) v I oI C oC D ys m₂ h tk E' hP hC hx F N) (fun y s' hq => ?_) fun _ _ z => z
      obtain ⟨⟨h', tk', rfl, F', N'⟩, hR⟩ := hq
      exact CompEnd.intro F' N' news (fun p hp => hp) off hS (ih (i + 1) (ys ++ [y]) (by omega) (by rw [List.range_succ]; exact hy.snoc hR))
  exact main n 0 [] (Nat.zero_add _) .nil
def looseS (r : Str) : Str := Str.ofString ".\"\"" ++ Txt.slice r (some 1) none
def elB (one j : Nat) : Bool := Builtin.bitAnd (one : Int) (Builtin.bitNot (j : Int)) == 0
def headS (k i : Nat) : Str := (if bitI (k : Int) i ≠ 0 then Str.ofString "." else Str.ofString "..") ++ Txt.item (Str.ofString "abcd") (i : Int) ++ Str.ofString "\r\n"
theorem headS_pos {k i : Nat} (h : bitI (k : Int) i ≠ 0) : Str.ofString "." ++ Txt.item (Str.ofString "abcd") (i : Int) ++ Str.ofString "\r\n" = headS k i := by unfold headS; rw [if_pos h]
theorem headS_neg {k i : Nat} (h : bitI (k : Int) i = 0) : Str.ofString ".." ++ Txt.item (Str.ofString "abcd") (i : Int) ++ Str.ofString "\r\n" = headS k i := by unfold headS; rw [if_neg (fun e => e h)]
def fixS (i : Nat) : Str := Str.ofString ".." ++ ⟨#[97 + i]⟩ ++ Str.ofString "\r\n"
theorem fr_name {g h : Heap} {L : Addr} {m : Str → Option Value} (F : Fr g L h m) : ∃ m', m' = m ∧ Fr g L h m' := ⟨m, rfl, F⟩
def JM (mw : Str → Option Value) (_ : Nat) (m₁ : Str → Option Value) : Prop := ∃ ov : Option Value, m₁ = fun y => if y = Str.ofString "marks" then ov else mw y
theorem JM.start (mw : Str → Option Value) : JM mw 0 mw := ⟨mw (Str.ofString "marks"), funext fun y => by
  by_cases h : y = Str.ofString "marks"
  · rw [if_pos h, h]
  · rw [if_neg h]⟩
theorem JM.next {mw : Str → Option Value} {i : Nat} {v ov : Option Value} : JM mw i (fun y => if y = Str.ofString "marks" then v else if y = Str.ofString "marks" then ov else mw y) := ⟨v, funext fun y => by
  by_cases h : y = Str.ofString "marks"
  · rw [if_pos h, if_pos h]
  · rw [if_neg h, if_neg h, if_neg h]⟩
structure PF (r0 r1 r2 r3 T : Str) (one two less n1 n2 nb tn tw xo ap : Nat) (wn : Str) : Prop where
  c1 : Cnt r0 r1 r2 r3 T one n1
  c2 : Cnt r0 r1 r2 r3 T two n2
  enb : ((n1 : Int) + 1).fmod 16 = (nb : Int)
  etn : Builtin.bitXor (nb : Int) ((nb : Int).fdiv (2 ^ 1)) = (tn : Int)
  c3 : Cnt r0 r1 r2 r3 T tn nb
  lm1 : (mailS r0 r1 r2 r3 T one).length ≤ 40
  lm2 : (mailS r0 r1 r2 r3 T two).length ≤ 40
  lm3 : (mailS r0 r1 r2 r3 T tn).length ≤ 40
  d1 : dist (ls (mailS r0 r1 r2 r3 T one)) (ls (mailS r0 r1 r2 r3 T tn)) = 2
  o0 : (looseS r0).length ≤ 20
  o1 : (looseS r1).length ≤ 20
  o2 : (looseS r2).length ≤ 20
  o3 : (looseS r3).length ≤ 20
  s3a : (Str.ofString " " ++ mailS (looseS r0) (looseS r1) (looseS r2) (looseS r3) T one ++ Str.ofString " ").cps.all (· < 128) = true
  s3 : stripS (Str.ofString " " ++ mailS (looseS r0) (looseS r1) (looseS r2) (looseS r3) T one ++ Str.ofString " ") = Str.ofString " " ++ leftS r0 r1 r2 r3 T n1 ++ Str.ofString " "
  q1l : (sub2 (mailS r0 r1 r2 r3 T one)).length ≤ 1000
  q1 : sub1 (sub2 (mailS r0 r1 r2 r3 T one)) = mailS (headS one 0) (headS one 1) (headS one 2) (headS one 3) T one
  hl0 : (headS one 0).length ≤ 20
  hl1 : (headS one 1).length ≤ 20
  hl2 : (headS one 2).length ≤ 20
  hl3 : (headS one 3).length ≤ 20
  s4a : (mailS (headS one 0) (headS one 1) (headS one 2) (headS one 3) T one).cps.all (· < 128) = true
  s4 : stripS (mailS (headS one 0) (headS one 1) (headS one 2) (headS one 3) T one) = leftS (headS one 0) (headS one 1) (headS one 2) (headS one 3) T n1
  q3l : (sub2 (leftS r0 r1 r2 r3 T n1)).length ≤ 1000
  q3 : sub1 (sub2 (leftS r0 r1 r2 r3 T n1)) = leftS (fixS 0) (fixS 1) (fixS 2) (fixS 3) T n1
  etw : (manyS (one : Int)).fdiv 2 * 2 = (tw : Int)
  lm4 : (leftS (headS one 0) (headS one 1) (headS one 2) (headS one 3) T n1).length ≤ 40
  lm5 : (leftS (fixS 0) (fixS 1) (fixS 2) (fixS 3) T n1).length ≤ 40
  d2 : dist (ls (leftS (headS one 0) (headS one 1) (headS one 2) (headS one 3) T n1)) (ls (leftS (fixS 0) (fixS 1) (fixS 2) (fixS 3) T n1)) = tw
  q4l : (sub2 (mailS (headS one 0) (headS one 1) (headS one 2) (headS one 3) T one)).length ≤ 1000
  q4 : sub1 (sub2 (mailS (headS one 0) (headS one 1) (headS one 2) (headS one 3) T one)) = wn
  fx0 : (fixS 0).length ≤ 20
  fx1 : (fixS 1).length ≤ 20
  fx2 : (fixS 2).length ≤ 20
  fx3 : (fixS 3).length ≤ 20
  q5l : ∀ j : Nat, j < 16 → (mailS r0 r1 r2 r3 T j).length ≤ 1000 ∧ (sub2 (mailS r0 r1 r2 r3 T j)).length ≤ 1000
  q5 : ∀ j : Nat, j < 16 → sub1 (sub2 (mailS r0 r1 r2 r3 T j)) = mailS (headS j 0) (headS j 1) (headS j 2) (headS j 3) T j
  el : ∀ j : Nat, j < 16 → EllOK wn (mailS (headS j 0) (headS j 1) (headS j 2) (headS j 3) T j) (elB one j)
  el2 : EllOK wn (mailS (headS one 0) (headS one 1) (headS one 2) (headS one 3) T one ++ Str.ofString ".") false
  el3 : EllOK wn (Str.ofString "." ++ mailS (headS one 0) (headS one 1) (headS one 2) (headS one 3) T one) (decide ((one : Int) < 8))
  exo : Builtin.bitXor (one : Int) (two : Int) = (xo : Int)
  xo1 : xo < 16
  eap : 2 * manyS (xo : Int) = (ap : Int)
  d3 : dist (ls (mailS r0 r1 r2 r3 T one)) (ls (mailS r0 r1 r2 r3 T two)) = ap
end Mine

/-! PUR1 -/
namespace Mine
/-- strip on lists: the escape mark, what is kept, what is held behind an open mark -/
def rn : List Nat → Bool → List Nat → Option (List Nat) → List Nat
  | [], _, K, q => K ++ q.getD []
  | c :: r, true, K, none => rn r false (K ++ [c]) none
  | c :: r, true, K, some p => rn r false K (some (p ++ [c]))
  | c :: r, false, K, none => if c = 92 then rn r true (K ++ [c]) none else if c = 34 then rn r false K (some [c]) else rn r false (K ++ [c]) none
  | c :: r, false, K, some p => if c = 92 then rn r true K (some (p ++ [c])) else if c = 34 then rn r false K none else rn r false K (some (p ++ [c]))
theorem rn_free : ∀ (r : List Nat) (e : Bool) (K : List Nat), 34 ∉ r → rn r e K none = K ++ r
  | [], _, K, _ => by simp [rn]
  | c :: r, true, K, h => by
    rw [rn, rn_free r false _ (fun z => h (.tail _ z)), List.append_assoc]
    rfl
  | c :: r, false, K, h => by
    rw [rn]
    by_cases h1 : c = 92
    · rw [if_pos h1, rn_free r true _ (fun z => h (.tail _ z)), List.append_assoc]
      rfl
    · rw [if_neg h1, if_neg (fun (e : c = 34) => h (by rw [e]; exact List.mem_cons_self)), rn_free r false _ (fun z => h (.tail _ z)), List.append_assoc]
      rfl
def flatS (l : List Str) : List Nat := (l.map fun y => y.cps.toList).flatten
theorem join_ls (l : List Str) : (Txt.join ⟨#[]⟩ l).cps.toList = flatS l := by
  show (PySem.Builtin.Str.glued ⟨#[]⟩ l).cps.toList = _
  rw [StrLaws.glued_eq_join]
  unfold flatS
  induction l with
  | nil => rfl
  | cons x l ih =>
    cases l with
    | nil => simp [Str.join]
    | cons y l =>
      show ((x ++ ⟨#[]⟩ ++ Str.join ⟨#[]⟩ (y :: l)).cps.toList) = _
      rw [Str.cps_append, Str.cps_append, Array.toList_append, Array.toList_append, ih]
      simp
theorem cut_ls {x : Str} {a b : Nat} (h1 : a ≤ b) (h2 : b ≤ x.length) : (cut x a b).cps.toList = (x.cps.toList.drop a).take (b - a) := by
  unfold cut
  rw [beq_iff_eq.mp (slice_closesL (x := x) (i := (a : Int)) (j := (b : Int)) (by omega) (by omega) (by omega))]
  show List.take _ _ = _
  rw [Int.toNat_natCast, show ((b : Int) - (a : Int)).toNat = b - a by omega]
theorem flatS_snoc (l : List Str) (y : Str) : flatS (l ++ [y]) = flatS l ++ y.cps.toList := by
  unfold flatS
  simp
theorem tk_ext {cs r : List Nat} {a i c : Nat} (h : cs.drop i = c :: r) (ha : a ≤ i) : (cs.drop a).take (i + 1 - a) = (cs.drop a).take (i - a) ++ [c] := by
  have e : cs.drop a = (cs.drop a).take (i - a) ++ (c :: r) := by
    have := List.take_append_drop (i - a) (cs.drop a)
    rw [List.drop_drop, show a + (i - a) = i by omega, h] at this
    exact this.symm
  have hl : i < cs.length := by
    false_or_by_contra
    rename_i hc
    rw [List.drop_eq_nil_of_le (by omega)] at h
    cases h
  have hn : ((cs.drop a).take (i - a)).length = i - a := by
    rw [List.length_take, List.length_drop]
    omega
  conv => lhs; rw [e]
  rw [List.take_append, hn, show i + 1 - a - (i - a) = 1 by omega, List.take_of_length_le (by omega)]
  rfl
theorem tk_join {cs : List Nat} {a o i : Nat} (h1 : a ≤ o) (h2 : o ≤ i) : (cs.drop a).take (o - a) ++ (cs.drop o).take (i - o) = (cs.drop a).take (i - a) := by
  have e := List.take_append_drop (o - a) ((cs.drop a).take (i - a))
  rw [List.take_take, Nat.min_eq_left (by omega), List.drop_take, List.drop_drop, show a + (o - a) = o by omega, show i - a - (o - a) = i - o by omega] at e
  exact e
/-- the state's reading -/
def RnSt (cs : List Nat) (i : Nat) (z : SSt) (K : List Nat) (q : Option (List Nat)) : Prop :=
  z.1 ≤ i ∧ match z.2.1 with
    | none => K = flatS z.2.2 ++ (cs.drop z.1).take (i - z.1) ∧ q = none
    | some o => z.1 ≤ o ∧ o ≤ i ∧ K = flatS z.2.2 ++ (cs.drop z.1).take (o - z.1) ∧ q = some ((cs.drop o).take (i - o))
theorem RnSt.pass {cs r : List Nat} {i c : Nat} {z : SSt} {K : List Nat} {q : Option (List Nat)} (h : RnSt cs i z K q) (hd : cs.drop i = c :: r) : RnSt cs (i + 1) z (match q with | none => K ++ [c] | some _ => K) (q.map (· ++ [c])) := by
  obtain ⟨s, op, rs⟩ := z
  obtain ⟨h0, h⟩ := h
  refine ⟨Nat.le_succ_of_le h0, ?_⟩
  cases op with
  | none =>
    obtain ⟨h1, rfl⟩ := h
    refine ⟨?_, rfl⟩
    show K ++ [c] = _
    rw [tk_ext hd h0, ← List.append_assoc]
    exact congrArg (· ++ [c]) h1
  | some o =>
    obtain ⟨h1, h2, h3, rfl⟩ := h
    refine ⟨h1, Nat.le_succ_of_le h2, h3, ?_⟩
    show some _ = some _
    rw [tk_ext hd h2]
theorem strip_main (x : Str) : ∀ (r : List Nat) (e : Bool) (i : Nat) (z : SSt) (K : List Nat) (q : Option (List Nat)), x.cps.toList.drop i = r → i ≤ x.length → RnSt x.cps.toList i z K q →
    flatS ((yl e i r).foldl (stS x) z).2.2 ++ x.cps.toList.drop ((yl e i r).foldl (stS x) z).1 = rn r e K q := by
  intro r
  induction r with
  | nil =>
    intro e i z K q hd hi h
    have hlen : x.cps.toList.length = x.length := rfl
    have hz : (yl e i []).foldl (stS x) z = z := by
      cases e with
      | false => rfl
      | true => show stS x z (i - 1, [92]) = z; unfold stS; rw [if_neg (by simp)]
    rw [hz, rn]
    have hil : x.cps.toList.length ≤ i := List.drop_eq_nil_iff.mp hd
    obtain ⟨s, op, rs⟩ := z
    obtain ⟨h0, h⟩ := h
    cases op with
    | none =>
      obtain ⟨h1, rfl⟩ := h
      show flatS rs ++ x.cps.toList.drop s = K ++ []
      rw [List.append_nil, h1]
      show _ = flatS rs ++ (x.cps.toList.drop s).take (i - s)
      rw [List.take_of_length_le (by rw [List.length_drop]; omega)]
    | some o =>
      obtain ⟨h1, h2, h3, rfl⟩ := h
      show flatS rs ++ x.cps.toList.drop s = K ++ (x.cps.toList.drop o).take (i - o)
      rw [h3]
      show _ = flatS rs ++ (x.cps.toList.drop s).take (o - s) ++ _
      rw [List.append_assoc, tk_join h1 h2, List.take_of_length_le (by rw [List.length_drop]; omega)]
  | cons c r ih =>
    intro e i z K q hd hi h
    have hlen : x.cps.toList.length = x.length := rfl
    have hil : i < x.length := by
      false_or_by_contra
      rename_i hc
      rw [List.drop_eq_nil_of_le (by omega)] at hd
      cases hd
    have hd' : x.cps.toList.drop (i + 1) = r := by
      rw [show i + 1 = i + 1 from rfl, ← List.drop_drop, hd]
      rfl
    have hp := h.pass hd
    cases e with
    | true =>
      have hz : (yl true i (c :: r)).foldl (stS x) z = (yl false (i + 1) r).foldl (stS x) z := by
        show (yl false (i + 1) r).foldl (stS x) (stS x z (i, [92, c])) = _
        unfold stS
        rw [if_neg (by simp)]
      rw [hz, ih false (i + 1) z _ _ hd' (by omega) hp]
      cases q with
      | none => rfl
      | some p => rfl
    | false =>
      by_cases h1 : c = 92
      · have hz : (yl false i (c :: r)).foldl (stS x) z = (yl true (i + 1) r).foldl (stS x) z := by
          rw [yl, if_pos h1]
        rw [hz, ih true (i + 1) z _ _ hd' (by omega) hp]
        cases q with
        | none => rw [rn, if_pos h1]; rfl
        | some p => rw [rn, if_pos h1]; rfl
      · have hz : (yl false i (c :: r)).foldl (stS x) z = (yl false (i + 1) r).foldl (stS x) (stS x z (i, [c])) := by
          rw [yl, if_neg h1]; rfl
        rw [hz]
        by_cases h2 : c = 34
        · subst h2
          obtain ⟨s, op, rs⟩ := z
          obtain ⟨h0, h⟩ := h
          cases op with
          | none =>
            obtain ⟨h3, rfl⟩ := h
            rw [rn, if_neg h1, if_pos rfl]
            refine ih false (i + 1) _ K (some [34]) hd' (by omega) ⟨?_, ?_⟩
            · show s ≤ i + 1
              exact Nat.le_succ_of_le h0
            · show s ≤ i ∧ i ≤ i + 1 ∧ K = flatS rs ++ (x.cps.toList.drop s).take (i - s) ∧ some [34] = some ((x.cps.toList.drop i).take (i + 1 - i))
              refine ⟨h0, Nat.le_succ _, h3, ?_⟩
              rw [hd, show i + 1 - i = 1 by omega]
              rfl
          | some o =>
            obtain ⟨h3, h4, h5, rfl⟩ := h
            rw [rn, if_neg h1, if_pos rfl]
            refine ih false (i + 1) _ K none hd' (by omega) ⟨?_, ?_⟩
            · show i + 1 ≤ i + 1
              exact Nat.le_refl _
            · show K = flatS (if s = o then rs else rs ++ [cut x s o]) ++ (x.cps.toList.drop (i + 1)).take (i + 1 - (i + 1)) ∧ (none : Option (List Nat)) = none
              refine ⟨?_, rfl⟩
              rw [Nat.sub_self, List.take_zero, List.append_nil, h5]
              show flatS rs ++ (x.cps.toList.drop s).take (o - s) = _
              by_cases h6 : s = o
              · rw [if_pos h6, h6, Nat.sub_self, List.take_zero, List.append_nil]
              · rw [if_neg h6, flatS_snoc, cut_ls h3 (by omega)]
        · have hs : stS x z (i, [c]) = z := by
            unfold stS
            rw [if_neg (by simpa using h2)]
          rw [hs, ih false (i + 1) z _ _ hd' (by omega) hp]
          cases q with
          | none => rw [rn, if_neg h1, if_neg h2]; rfl
          | some p => rw [rn, if_neg h1, if_neg h2]; rfl
theorem strip_ls (x : Str) : (stripS x).cps.toList = rn x.cps.toList false [] none := by
  unfold stripS
  have hq : Str.ofString "\"" = ⟨#[34]⟩ := rfl
  by_cases h : (Builtin.Str.occurrences x (Str.ofString "\"") 0 x.length 1).isEmpty = true
  · rw [if_pos h]
    have hf := StrLaws.found_one x 34
    rw [← hq, h] at hf
    rw [rn_free _ _ _ (fun hm => by rw [decide_eq_true hm] at hf; exact absurd hf (by decide))]
    rfl
  · rw [if_neg h]
    have main := strip_main x x.cps.toList false 0 (0, none, []) [] none rfl (Nat.zero_le _) ⟨Nat.le_refl _, by simp [flatS]⟩
    have hsf : sFold x (yl false 0 x.cps.toList).length = (yl false 0 x.cps.toList).foldl (stS x) (0, none, []) := by
      unfold sFold
      rw [List.take_length]
    rw [hsf]
    rw [← main]
    have hle : ((yl false 0 x.cps.toList).foldl (stS x) (0, none, [])).1 ≤ x.length := by rw [← hsf]; exact (sb x _).st
    generalize (yl false 0 x.cps.toList).foldl (stS x) (0, none, []) = z at hle
    obtain ⟨s, op, rs⟩ := z
    show (Txt.join ⟨#[]⟩ (rs ++ (if s < x.length then [Txt.slice x (some (s : Int)) none] else []))).cps.toList = flatS rs ++ x.cps.toList.drop s
    rw [join_ls]
    by_cases h2 : s < x.length
    · rw [if_pos h2, flatS_snoc, sl_from hle]
    · rw [if_neg h2, List.append_nil, List.drop_eq_nil_of_le (by show x.length ≤ s; omega), List.append_nil]
end Mine

/-! PUR2 -/
namespace Mine
def nl : Bool → List Nat → List Nat
  | _, [] => []
  | b, c :: r => if c = 13 then 13 :: 10 :: nl true r else if c = 10 then (if b = true then nl false r else 13 :: 10 :: nl false r) else c :: nl false r
def dt : Bool → List Nat → List Nat
  | _, [] => []
  | b, c :: r => if b = true ∧ c = 46 then 46 :: 46 :: dt false r else c :: dt (c == 10) r
theorem drop_cons {cs : List Nat} {s : Nat} (h : s < cs.length) : cs.drop s = cs.getD s 0 :: cs.drop (s + 1) := by
  rw [List.drop_eq_getElem_cons h]
  simp [List.getD, h]
theorem getD_ls (t : Array Nat) (s : Nat) : t.getD s 0 = t.toList.getD s 0 := by
  simp [Array.getD_eq_getD_getElem?, List.getD]
theorem tk_cons {cs : List Nat} {s p : Nat} (h : s < cs.length) (hp : s + 1 ≤ p) : (cs.drop s).take (p - s) = cs.getD s 0 :: (cs.drop (s + 1)).take (p - (s + 1)) := by
  rw [drop_cons h, show p - s = (p - (s + 1)) + 1 by omega, List.take_succ_cons]
theorem fnd2_nl (t : Array Nat) : ∀ k s, s + k = t.size → match fnd2 t s k with
    | none => nl false (t.toList.drop s) = t.toList.drop s
    | some p => s ≤ p ∧ p < t.size ∧ nl false (t.toList.drop s) = (t.toList.drop s).take (p - s) ++ nl false (t.toList.drop p) ∧ (t.toList.getD p 0 = 10 ∨ t.toList.getD p 0 = 13)
  | 0, s, h => by
    show nl false (t.toList.drop s) = t.toList.drop s
    rw [List.drop_eq_nil_of_le (by rw [Array.length_toList]; omega)]
    rfl
  | k + 1, s, h => by
    have hs : s < t.toList.length := by rw [Array.length_toList]; omega
    rw [fnd2, getD_ls]
    by_cases hc : t.toList.getD s 0 = 10 ∨ t.toList.getD s 0 = 13
    · rw [if_pos hc]
      refine ⟨Nat.le_refl _, by omega, ?_, hc⟩
      rw [Nat.sub_self, List.take_zero, List.nil_append]
    · rw [if_neg hc]
      have ih := fnd2_nl t k (s + 1) (by omega)
      have e : nl false (t.toList.drop s) = t.toList.getD s 0 :: nl false (t.toList.drop (s + 1)) := by
        rw [drop_cons hs, nl, if_neg (fun z => hc (.inr z)), if_neg (fun z => hc (.inl z))]
      cases hf : fnd2 t (s + 1) k with
      | none =>
        rw [hf] at ih
        show nl false (t.toList.drop s) = t.toList.drop s
        have ih : nl false (t.toList.drop (s + 1)) = t.toList.drop (s + 1) := ih
        rw [e, ih, ← drop_cons hs]
      | some p =>
        rw [hf] at ih
        obtain ⟨h1, h2, h3, h4⟩ := ih
        refine ⟨by omega, h2, ?_, h4⟩
        rw [e, h3, tk_cons hs h1]
        rfl
theorem nl_head {r : List Nat} (h : r.getD 0 0 ≠ 10) : nl true r = nl false r := by
  cases r with
  | nil => rfl
  | cons c r =>
    have hc : c ≠ 10 := h
    rw [nl, nl, if_neg hc, if_neg hc]
theorem nl_at (t : Array Nat) {p : Nat} (hp : p < t.size) (hc : t.toList.getD p 0 = 10 ∨ t.toList.getD p 0 = 13) : nl false (t.toList.drop p) = 13 :: 10 :: nl false (t.toList.drop (p + len2 t p)) := by
  have hs : p < t.toList.length := by rw [Array.length_toList]; omega
  unfold len2
  rw [drop_cons hs, getD_ls, getD_ls]
  rcases hc with hc | hc
  · rw [hc, nl, if_neg (by decide), if_pos rfl, if_neg (by decide), if_neg (fun z => absurd z.1 (by decide))]
  · rw [hc, nl, if_pos rfl]
    by_cases h : p + 1 < t.size ∧ t.toList.getD (p + 1) 0 = 10
    · have hs2 : p + 1 < t.toList.length := by rw [Array.length_toList]; exact h.1
      rw [if_pos ⟨rfl, h⟩, drop_cons hs2, h.2, nl, if_neg (by decide), if_pos rfl, if_pos rfl]
    · rw [if_neg (fun z => h z.2)]
      rw [nl_head]
      intro z
      apply h
      by_cases h3 : p + 1 < t.size
      · refine ⟨h3, ?_⟩
        have hs2 : p + 1 < t.toList.length := by rw [Array.length_toList]; exact h3
        rw [drop_cons hs2] at z
        exact z
      · rw [List.drop_eq_nil_of_le (by rw [Array.length_toList]; omega)] at z
        exact absurd z (by decide)
theorem extract_ls (t : Array Nat) (a b : Nat) : (t.extract a b).toList = (t.toList.drop a).take (b - a) := by
  rw [Array.toList_extract, List.extract_eq_take_drop]
theorem flatS_app (a b : List Str) : flatS (a ++ b) = flatS a ++ flatS b := by
  unfold flatS
  simp
theorem flatS_one (y : Str) : flatS [y] = y.cps.toList := by
  unfold flatS
  simp
theorem piece_ls (x : Str) {d p : Nat} (h : d ≤ p) : flatS (if d < p then [⟨x.cps.extract d p⟩] else []) = (x.cps.toList.drop d).take (p - d) := by
  by_cases h1 : d < p
  · rw [if_pos h1, flatS_one]
    exact extract_ls _ _ _
  · rw [if_neg h1, show p - d = 0 by omega, List.take_zero]
    rfl
theorem sub2_main (x : Str) : ∀ (k d : Nat), d ≤ x.cps.size → x.cps.size - d < k → flatS (subP (nx2 x.cps) x (Str.ofString "\r\n") k d) = nl false (x.cps.toList.drop d) := by
  intro k
  induction k with
  | zero => intro d _ h; omega
  | succ k ih =>
    intro d hd hk
    have hf := fnd2_nl x.cps (x.cps.size - d) d (by omega)
    rw [subP]
    unfold nx2
    cases hc : fnd2 x.cps d (x.cps.size - d) with
    | none =>
      rw [hc] at hf
      have hf : nl false (x.cps.toList.drop d) = x.cps.toList.drop d := hf
      show flatS (if d < x.cps.size then [⟨x.cps.extract d x.cps.size⟩] else []) = _
      rw [piece_ls x hd, hf, List.take_of_length_le (by rw [List.length_drop, Array.length_toList]; omega)]
    | some p =>
      rw [hc] at hf
      obtain ⟨h1, h2, h3, h4⟩ := hf
      show flatS ((if d < p then [⟨x.cps.extract d p⟩] else []) ++ Str.ofString "\r\n" :: subP (nx2 x.cps) x (Str.ofString "\r\n") k (p + len2 x.cps p)) = _
      have hl : len2 x.cps p = 1 ∨ len2 x.cps p = 2 ∧ p + 1 < x.cps.size := by
        unfold len2
        by_cases z : x.cps.getD p 0 = 13 ∧ p + 1 < x.cps.size ∧ x.cps.getD (p + 1) 0 = 10
        · rw [if_pos z]; exact .inr ⟨rfl, z.2.1⟩
        · rw [if_neg z]; exact .inl rfl
      rw [flatS_app, piece_ls x h1, h3, nl_at x.cps h2 h4]
      congr 1
      show flatS ([Str.ofString "\r\n"] ++ _) = _
      rw [flatS_app, flatS_one, ih _ (by omega) (by omega)]
      rfl
theorem sub2_ls (x : Str) : (sub2 x).cps.toList = nl false x.cps.toList := by
  unfold sub2
  rw [join_ls, sub2_main x _ 0 (Nat.zero_le _) (by omega)]
  rfl
def bol (t : Array Nat) (s : Nat) : Bool := decide (s = 0 ∨ t.toList.getD (s - 1) 0 = 10)
theorem bol_succ (t : Array Nat) (s : Nat) : bol t (s + 1) = (t.toList.getD s 0 == 10) := by
  unfold bol
  rw [Nat.add_sub_cancel]
  by_cases h : t.toList.getD s 0 = 10
  · rw [h]; rfl
  · rw [decide_eq_false (fun z => z.elim (by omega) h), beq_eq_false_iff_ne.mpr h]
theorem fnd1_dt (t : Array Nat) : ∀ k s, s + k = t.size → match fnd1 t s k with
    | none => dt (bol t s) (t.toList.drop s) = t.toList.drop s
    | some p => s ≤ p ∧ p < t.size ∧ dt (bol t s) (t.toList.drop s) = (t.toList.drop s).take (p - s) ++ dt (bol t p) (t.toList.drop p) ∧ bol t p = true ∧ t.toList.getD p 0 = 46
  | 0, s, h => by
    show dt _ (t.toList.drop s) = t.toList.drop s
    rw [List.drop_eq_nil_of_le (by rw [Array.length_toList]; omega)]
    rfl
  | k + 1, s, h => by
    have hs : s < t.toList.length := by rw [Array.length_toList]; omega
    rw [fnd1, getD_ls, getD_ls]
    by_cases hc : (s = 0 ∨ t.toList.getD (s - 1) 0 = 10) ∧ t.toList.getD s 0 = 46
    · rw [if_pos hc]
      refine ⟨Nat.le_refl _, by omega, ?_, decide_eq_true hc.1, hc.2⟩
      rw [Nat.sub_self, List.take_zero, List.nil_append]
    · rw [if_neg hc]
      have ih := fnd1_dt t k (s + 1) (by omega)
      have e : dt (bol t s) (t.toList.drop s) = t.toList.getD s 0 :: dt (bol t (s + 1)) (t.toList.drop (s + 1)) := by
        rw [drop_cons hs, dt, if_neg (fun z => hc ⟨of_decide_eq_true z.1, z.2⟩), bol_succ]
      cases hf : fnd1 t (s + 1) k with
      | none =>
        rw [hf] at ih
        have ih : dt (bol t (s + 1)) (t.toList.drop (s + 1)) = t.toList.drop (s + 1) := ih
        show dt _ (t.toList.drop s) = t.toList.drop s
        rw [e, ih, ← drop_cons hs]
      | some p =>
        rw [hf] at ih
        obtain ⟨h1, h2, h3, h4⟩ := ih
        refine ⟨by omega, h2, ?_, h4⟩
        rw [e, h3, tk_cons hs h1]
        rfl
theorem sub1_main (x : Str) : ∀ (k d : Nat), d ≤ x.cps.size → x.cps.size - d < k → flatS (subP (nx1 x.cps) x (Str.ofString "..") k d) = dt (bol x.cps d) (x.cps.toList.drop d) := by
  intro k
  induction k with
  | zero => intro d _ h; omega
  | succ k ih =>
    intro d hd hk
    have hf := fnd1_dt x.cps (x.cps.size - d) d (by omega)
    rw [subP]
    unfold nx1
    cases hc : fnd1 x.cps d (x.cps.size - d) with
    | none =>
      rw [hc] at hf
      have hf : dt (bol x.cps d) (x.cps.toList.drop d) = x.cps.toList.drop d := hf
      show flatS (if d < x.cps.size then [⟨x.cps.extract d x.cps.size⟩] else []) = _
      rw [piece_ls x hd, hf, List.take_of_length_le (by rw [List.length_drop, Array.length_toList]; omega)]
    | some p =>
      rw [hc] at hf
      obtain ⟨h1, h2, h3, h4, h5⟩ := hf
      show flatS ((if d < p then [⟨x.cps.extract d p⟩] else []) ++ Str.ofString ".." :: subP (nx1 x.cps) x (Str.ofString "..") k (p + 1)) = _
      have hs : p < x.cps.toList.length := by rw [Array.length_toList]; omega
      have e : dt (bol x.cps p) (x.cps.toList.drop p) = 46 :: 46 :: dt (bol x.cps (p + 1)) (x.cps.toList.drop (p + 1)) := by
        rw [drop_cons hs, dt, if_pos ⟨h4, h5⟩, bol_succ, h5]
        rfl
      rw [flatS_app, piece_ls x h1, h3, e]
      congr 1
      show flatS ([Str.ofString ".."] ++ _) = _
      rw [flatS_app, flatS_one, ih _ (by omega) (by omega)]
      rfl
theorem sub1_ls (x : Str) : (sub1 x).cps.toList = dt true x.cps.toList := by
  unfold sub1
  rw [join_ls, sub1_main x _ 0 (Nat.zero_le _) (by omega)]
  rfl
theorem quote_ls (x : Str) : (sub1 (sub2 x)).cps.toList = dt true (nl false x.cps.toList) := by rw [sub1_ls, sub2_ls]
end Mine

/-! PUR3 -/
namespace Mine
def letL : Nat → Nat | 0 => 97 | 1 => 98 | 2 => 99 | _ => 100
def endL : Nat → List Nat | 0 => [10] | 1 => [13] | _ => [13, 10]
def rowL (i e : Nat) : List Nat := 46 :: letL i :: endL e
def tailL : Nat → List Nat | 0 => [92, 92, 34, 122, 46] | 1 => [92, 34, 34, 122, 46] | _ => [92, 92, 92, 34, 34, 122, 46]
def qL (k i : Nat) : List Nat := if k.testBit i then [34] else []
def mL (r0 r1 r2 r3 t : List Nat) (k : Nat) : List Nat := qL k 3 ++ (r3 ++ (qL k 2 ++ (r2 ++ (qL k 1 ++ (r1 ++ (qL k 0 ++ (r0 ++ t)))))))
def kL (n i : Nat) (r : List Nat) : List Nat := if n.testBit i then [] else r
def lL (r0 r1 r2 r3 t : List Nat) (n : Nat) : List Nat := kL n 3 r3 ++ (kL n 2 r2 ++ (kL n 1 r1 ++ (kL n 0 r0 ++ (if n.testBit 0 then [122, 46] else t))))
def headL (k i : Nat) : List Nat := (if k.testBit i then [46] else [46, 46]) ++ [letL i, 13, 10]
def fixL (i : Nat) : List Nat := [46, 46, letL i, 13, 10]
def looseL (r : List Nat) : List Nat := 46 :: 34 :: 34 :: r.drop 1
def gr (k : Nat) : Nat := k ^^^ (k / 2) ^^^ (k / 4) ^^^ (k / 8)
def pop4 (k : Nat) : Nat := (if k.testBit 0 then 1 else 0) + (if k.testBit 1 then 1 else 0) + (if k.testBit 2 then 1 else 0) + (if k.testBit 3 then 1 else 0)
def stL (l : List Nat) : List Nat := rn l false [] none
def quL (l : List Nat) : List Nat := dt true (nl false l)
def nuL (l : List Nat) (n : Nat) : Bool := (n.testBit 0 == !l.contains 97) && (n.testBit 1 == !l.contains 98) && (n.testBit 2 == !l.contains 99) && (n.testBit 3 == !l.contains 100)
def chk (e0 e1 e2 e3 tl k : Nat) : Bool :=
  let r0 := rowL 0 e0; let r1 := rowL 1 e1; let r2 := rowL 2 e2; let r3 := rowL 3 e3; let t := tailL tl
  let m := mL r0 r1 r2 r3 t k; let l := lL r0 r1 r2 r3 t (gr k)
  stL m == l && stL l == l && nuL l (gr k) && quL m == mL (headL k 0) (headL k 1) (headL k 2) (headL k 3) t k && quL l == lL (fixL 0) (fixL 1) (fixL 2) (fixL 3) t (gr k) &&
  stL ([32] ++ (mL (looseL r0) (looseL r1) (looseL r2) (looseL r3) t k ++ [32])) == [32] ++ (l ++ [32])
theorem chk_a_a : ∀ e0 : Nat, e0 < 3 → ∀ e1 : Nat, e1 < 3 → ∀ e2 : Nat, e2 < 3 → ∀ e3 : Nat, e3 < 3 → chk e0 e1 e2 e3 0 0 = true := by decide +kernel
theorem chk_a_b : ∀ e0 : Nat, e0 < 3 → ∀ e1 : Nat, e1 < 3 → ∀ e2 : Nat, e2 < 3 → ∀ e3 : Nat, e3 < 3 → chk e0 e1 e2 e3 0 1 = true := by decide +kernel
theorem chk_a_c : ∀ e0 : Nat, e0 < 3 → ∀ e1 : Nat, e1 < 3 → ∀ e2 : Nat, e2 < 3 → ∀ e3 : Nat, e3 < 3 → chk e0 e1 e2 e3 0 2 = true := by decide +kernel
theorem chk_a_d : ∀ e0 : Nat, e0 < 3 → ∀ e1 : Nat, e1 < 3 → ∀ e2 : Nat, e2 < 3 → ∀ e3 : Nat, e3 < 3 → chk e0 e1 e2 e3 0 3 = true := by decide +kernel
theorem chk_a_e : ∀ e0 : Nat, e0 < 3 → ∀ e1 : Nat, e1 < 3 → ∀ e2 : Nat, e2 < 3 → ∀ e3 : Nat, e3 < 3 → chk e0 e1 e2 e3 0 4 = true := by decide +kernel
theorem chk_a_f : ∀ e0 : Nat, e0 < 3 → ∀ e1 : Nat, e1 < 3 → ∀ e2 : Nat, e2 < 3 → ∀ e3 : Nat, e3 < 3 → chk e0 e1 e2 e3 0 5 = true := by decide +kernel
theorem chk_a_g : ∀ e0 : Nat, e0 < 3 → ∀ e1 : Nat, e1 < 3 → ∀ e2 : Nat, e2 < 3 → ∀ e3 : Nat, e3 < 3 → chk e0 e1 e2 e3 0 6 = true := by decide +kernel
theorem chk_a_h : ∀ e0 : Nat, e0 < 3 → ∀ e1 : Nat, e1 < 3 → ∀ e2 : Nat, e2 < 3 → ∀ e3 : Nat, e3 < 3 → chk e0 e1 e2 e3 0 7 = true := by decide +kernel
theorem chk_a_i : ∀ e0 : Nat, e0 < 3 → ∀ e1 : Nat, e1 < 3 → ∀ e2 : Nat, e2 < 3 → ∀ e3 : Nat, e3 < 3 → chk e0 e1 e2 e3 0 8 = true := by decide +kernel
theorem chk_a_j : ∀ e0 : Nat, e0 < 3 → ∀ e1 : Nat, e1 < 3 → ∀ e2 : Nat, e2 < 3 → ∀ e3 : Nat, e3 < 3 → chk e0 e1 e2 e3 0 9 = true := by decide +kernel
theorem chk_a_k : ∀ e0 : Nat, e0 < 3 → ∀ e1 : Nat, e1 < 3 → ∀ e2 : Nat, e2 < 3 → ∀ e3 : Nat, e3 < 3 → chk e0 e1 e2 e3 0 10 = true := by decide +kernel
theorem chk_a_l : ∀ e0 : Nat, e0 < 3 → ∀ e1 : Nat, e1 < 3 → ∀ e2 : Nat, e2 < 3 → ∀ e3 : Nat, e3 < 3 → chk e0 e1 e2 e3 0 11 = true := by decide +kernel
theorem chk_a_m : ∀ e0 : Nat, e0 < 3 → ∀ e1 : Nat, e1 < 3 → ∀ e2 : Nat, e2 < 3 → ∀ e3 : Nat, e3 < 3 → chk e0 e1 e2 e3 0 12 = true := by decide +kernel
theorem chk_a_n : ∀ e0 : Nat, e0 < 3 → ∀ e1 : Nat, e1 < 3 → ∀ e2 : Nat, e2 < 3 → ∀ e3 : Nat, e3 < 3 → chk e0 e1 e2 e3 0 13 = true := by decide +kernel
theorem chk_a_o : ∀ e0 : Nat, e0 < 3 → ∀ e1 : Nat, e1 < 3 → ∀ e2 : Nat, e2 < 3 → ∀ e3 : Nat, e3 < 3 → chk e0 e1 e2 e3 0 14 = true := by decide +kernel
theorem chk_a_p : ∀ e0 : Nat, e0 < 3 → ∀ e1 : Nat, e1 < 3 → ∀ e2 : Nat, e2 < 3 → ∀ e3 : Nat, e3 < 3 → chk e0 e1 e2 e3 0 15 = true := by decide +kernel
theorem chk_b_a : ∀ e0 : Nat, e0 < 3 → ∀ e1 : Nat, e1 < 3 → ∀ e2 : Nat, e2 < 3 → ∀ e3 : Nat, e3 < 3 → chk e0 e1 e2 e3 1 0 = true := by decide +kernel
theorem chk_b_b : ∀ e0 : Nat, e0 < 3 → ∀ e1 : Nat, e1 < 3 → ∀ e2 : Nat, e2 < 3 → ∀ e3 : Nat, e3 < 3 → chk e0 e1 e2 e3 1 1 = true := by decide +kernel
theorem chk_b_c : ∀ e0 : Nat, e0 < 3 → ∀ e1 : Nat, e1 < 3 → ∀ e2 : Nat, e2 < 3 → ∀ e3 : Nat, e3 < 3 → chk e0 e1 e2 e3 1 2 = true := by decide +kernel
theorem chk_b_d : ∀ e0 : Nat, e0 < 3 → ∀ e1 : Nat, e1 < 3 → ∀ e2 : Nat, e2 < 3 → ∀ e3 : Nat, e3 < 3 → chk e0 e1 e2 e3 1 3 = true := by decide +kernel
theorem chk_b_e : ∀ e0 : Nat, e0 < 3 → ∀ e1 : Nat, e1 < 3 → ∀ e2 : Nat, e2 < 3 → ∀ e3 : Nat, e3 < 3 → chk e0 e1 e2 e3 1 4 = true := by decide +kernel
theorem chk_b_f : ∀ e0 : Nat, e0 < 3 → ∀ e1 : Nat, e1 < 3 → ∀ e2 : Nat, e2 < 3 → ∀ e3 : Nat, e3 < 3 → chk e0 e1 e2 e3 1 5 = true := by decide +kernel
theorem chk_b_g : ∀ e0 : Nat, e0 < 3 → ∀ e1 : Nat, e1 < 3 → ∀ e2 : Nat, e2 < 3 → ∀ e3 : Nat, e3 < 3 → chk e0 e1 e2 e3 1 6 = true := by decide +kernel
theorem chk_b_h : ∀ e0 : Nat, e0 < 3 → ∀ e1 : Nat, e1 < 3 → ∀ e2 : Nat, e2 < 3 → ∀ e3 : Nat, e3 < 3 → chk e0 e1 e2 e3 1 7 = true := by decide +kernel
theorem chk_b_i : ∀ e0 : Nat, e0 < 3 → ∀ e1 : Nat, e1 < 3 → ∀ e2 : Nat, e2 < 3 → ∀ e3 : Nat, e3 < 3 → chk e0 e1 e2 e3 1 8 = true := by decide +kernel
theorem chk_b_j : ∀ e0 : Nat, e0 < 3 → ∀ e1 : Nat, e1 < 3 → ∀ e2 : Nat, e2 < 3 → ∀ e3 : Nat, e3 < 3 → chk e0 e1 e2 e3 1 9 = true := by decide +kernel
theorem chk_b_k : ∀ e0 : Nat, e0 < 3 → ∀ e1 : Nat, e1 < 3 → ∀ e2 : Nat, e2 < 3 → ∀ e3 : Nat, e3 < 3 → chk e0 e1 e2 e3 1 10 = true := by decide +kernel
theorem chk_b_l : ∀ e0 : Nat, e0 < 3 → ∀ e1 : Nat, e1 < 3 → ∀ e2 : Nat, e2 < 3 → ∀ e3 : Nat, e3 < 3 → chk e0 e1 e2 e3 1 11 = true := by decide +kernel
theorem chk_b_m : ∀ e0 : Nat, e0 < 3 → ∀ e1 : Nat, e1 < 3 → ∀ e2 : Nat, e2 < 3 → ∀ e3 : Nat, e3 < 3 → chk e0 e1 e2 e3 1 12 = true := by decide +kernel
theorem chk_b_n : ∀ e0 : Nat, e0 < 3 → ∀ e1 : Nat, e1 < 3 → ∀ e2 : Nat, e2 < 3 → ∀ e3 : Nat, e3 < 3 → chk e0 e1 e2 e3 1 13 = true := by decide +kernel
theorem chk_b_o : ∀ e0 : Nat, e0 < 3 → ∀ e1 : Nat, e1 < 3 → ∀ e2 : Nat, e2 < 3 → ∀ e3 : Nat, e3 < 3 → chk e0 e1 e2 e3 1 14 = true := by decide +kernel
theorem chk_b_p : ∀ e0 : Nat, e0 < 3 → ∀ e1 : Nat, e1 < 3 → ∀ e2 : Nat, e2 < 3 → ∀ e3 : Nat, e3 < 3 → chk e0 e1 e2 e3 1 15 = true := by decide +kernel
theorem chk_c_a : ∀ e0 : Nat, e0 < 3 → ∀ e1 : Nat, e1 < 3 → ∀ e2 : Nat, e2 < 3 → ∀ e3 : Nat, e3 < 3 → chk e0 e1 e2 e3 2 0 = true := by decide +kernel
theorem chk_c_b : ∀ e0 : Nat, e0 < 3 → ∀ e1 : Nat, e1 < 3 → ∀ e2 : Nat, e2 < 3 → ∀ e3 : Nat, e3 < 3 → chk e0 e1 e2 e3 2 1 = true := by decide +kernel
theorem chk_c_c : ∀ e0 : Nat, e0 < 3 → ∀ e1 : Nat, e1 < 3 → ∀ e2 : Nat, e2 < 3 → ∀ e3 : Nat, e3 < 3 → chk e0 e1 e2 e3 2 2 = true := by decide +kernel
theorem chk_c_d : ∀ e0 : Nat, e0 < 3 → ∀ e1 : Nat, e1 < 3 → ∀ e2 : Nat, e2 < 3 → ∀ e3 : Nat, e3 < 3 → chk e0 e1 e2 e3 2 3 = true := by decide +kernel
theorem chk_c_e : ∀ e0 : Nat, e0 < 3 → ∀ e1 : Nat, e1 < 3 → ∀ e2 : Nat, e2 < 3 → ∀ e3 : Nat, e3 < 3 → chk e0 e1 e2 e3 2 4 = true := by decide +kernel
theorem chk_c_f : ∀ e0 : Nat, e0 < 3 → ∀ e1 : Nat, e1 < 3 → ∀ e2 : Nat, e2 < 3 → ∀ e3 : Nat, e3 < 3 → chk e0 e1 e2 e3 2 5 = true := by decide +kernel
theorem chk_c_g : ∀ e0 : Nat, e0 < 3 → ∀ e1 : Nat, e1 < 3 → ∀ e2 : Nat, e2 < 3 → ∀ e3 : Nat, e3 < 3 → chk e0 e1 e2 e3 2 6 = true := by decide +kernel
theorem chk_c_h : ∀ e0 : Nat, e0 < 3 → ∀ e1 : Nat, e1 < 3 → ∀ e2 : Nat, e2 < 3 → ∀ e3 : Nat, e3 < 3 → chk e0 e1 e2 e3 2 7 = true := by decide +kernel
theorem chk_c_i : ∀ e0 : Nat, e0 < 3 → ∀ e1 : Nat, e1 < 3 → ∀ e2 : Nat, e2 < 3 → ∀ e3 : Nat, e3 < 3 → chk e0 e1 e2 e3 2 8 = true := by decide +kernel
theorem chk_c_j : ∀ e0 : Nat, e0 < 3 → ∀ e1 : Nat, e1 < 3 → ∀ e2 : Nat, e2 < 3 → ∀ e3 : Nat, e3 < 3 → chk e0 e1 e2 e3 2 9 = true := by decide +kernel
theorem chk_c_k : ∀ e0 : Nat, e0 < 3 → ∀ e1 : Nat, e1 < 3 → ∀ e2 : Nat, e2 < 3 → ∀ e3 : Nat, e3 < 3 → chk e0 e1 e2 e3 2 10 = true := by decide +kernel
theorem chk_c_l : ∀ e0 : Nat, e0 < 3 → ∀ e1 : Nat, e1 < 3 → ∀ e2 : Nat, e2 < 3 → ∀ e3 : Nat, e3 < 3 → chk e0 e1 e2 e3 2 11 = true := by decide +kernel
theorem chk_c_m : ∀ e0 : Nat, e0 < 3 → ∀ e1 : Nat, e1 < 3 → ∀ e2 : Nat, e2 < 3 → ∀ e3 : Nat, e3 < 3 → chk e0 e1 e2 e3 2 12 = true := by decide +kernel
theorem chk_c_n : ∀ e0 : Nat, e0 < 3 → ∀ e1 : Nat, e1 < 3 → ∀ e2 : Nat, e2 < 3 → ∀ e3 : Nat, e3 < 3 → chk e0 e1 e2 e3 2 13 = true := by decide +kernel
theorem chk_c_o : ∀ e0 : Nat, e0 < 3 → ∀ e1 : Nat, e1 < 3 → ∀ e2 : Nat, e2 < 3 → ∀ e3 : Nat, e3 < 3 → chk e0 e1 e2 e3 2 14 = true := by decide +kernel
theorem chk_c_p : ∀ e0 : Nat, e0 < 3 → ∀ e1 : Nat, e1 < 3 → ∀ e2 : Nat, e2 < 3 → ∀ e3 : Nat, e3 < 3 → chk e0 e1 e2 e3 2 15 = true := by decide +kernel
theorem chk_all : ∀ e0 : Nat, e0 < 3 → ∀ e1 : Nat, e1 < 3 → ∀ e2 : Nat, e2 < 3 → ∀ e3 : Nat, e3 < 3 → ∀ tl : Nat, tl < 3 → ∀ k : Nat, k < 16 → chk e0 e1 e2 e3 tl k = true := by
  intro e0 h0 e1 h1 e2 h2 e3 h3 tl ht k hk
  obtain rfl | rfl | rfl : tl = 0 ∨ tl = 1 ∨ tl = 2 := by omega
  · obtain rfl | rfl | rfl | rfl | rfl | rfl | rfl | rfl | rfl | rfl | rfl | rfl | rfl | rfl | rfl | rfl : k = 0 ∨ k = 1 ∨ k = 2 ∨ k = 3 ∨ k = 4 ∨ k = 5 ∨ k = 6 ∨ k = 7 ∨ k = 8 ∨ k = 9 ∨ k = 10 ∨ k = 11 ∨ k = 12 ∨ k = 13 ∨ k = 14 ∨ k = 15 := by omega
    · exact chk_a_a e0 h0 e1 h1 e2 h2 e3 h3
    · exact chk_a_b e0 h0 e1 h1 e2 h2 e3 h3
    · exact chk_a_c e0 h0 e1 h1 e2 h2 e3 h3
    · exact chk_a_d e0 h0 e1 h1 e2 h2 e3 h3
    · exact chk_a_e e0 h0 e1 h1 e2 h2 e3 h3
    · exact chk_a_f e0 h0 e1 h1 e2 h2 e3 h3
    · exact chk_a_g e0 h0 e1 h1 e2 h2 e3 h3
    · exact chk_a_h e0 h0 e1 h1 e2 h2 e3 h3
    · exact chk_a_i e0 h0 e1 h1 e2 h2 e3 h3
    · exact chk_a_j e0 h0 e1 h1 e2 h2 e3 h3
    · exact chk_a_k e0 h0 e1 h1 e2 h2 e3 h3
    · exact chk_a_l e0 h0 e1 h1 e2 h2 e3 h3
    · exact chk_a_m e0 h0 e1 h1 e2 h2 e3 h3
    · exact chk_a_n e0 h0 e1 h1 e2 h2 e3 h3
    · exact chk_a_o e0 h0 e1 h1 e2 h2 e3 h3
    · exact chk_a_p e0 h0 e1 h1 e2 h2 e3 h3
  · obtain rfl | rfl | rfl | rfl | rfl | rfl | rfl | rfl | rfl | rfl | rfl | rfl | rfl | rfl | rfl | rfl : k = 0 ∨ k = 1 ∨ k = 2 ∨ k = 3 ∨ k = 4 ∨ k = 5 ∨ k = 6 ∨ k = 7 ∨ k = 8 ∨ k = 9 ∨ k = 10 ∨ k = 11 ∨ k = 12 ∨ k = 13 ∨ k = 14 ∨ k = 15 := by omega
    · exact chk_b_a e0 h0 e1 h1 e2 h2 e3 h3
    · exact chk_b_b e0 h0 e1 h1 e2 h2 e3 h3
    · exact chk_b_c e0 h0 e1 h1 e2 h2 e3 h3
    · exact chk_b_d e0 h0 e1 h1 e2 h2 e3 h3
    · exact chk_b_e e0 h0 e1 h1 e2 h2 e3 h3
    · exact chk_b_f e0 h0 e1 h1 e2 h2 e3 h3
    · exact chk_b_g e0 h0 e1 h1 e2 h2 e3 h3
    · exact chk_b_h e0 h0 e1 h1 e2 h2 e3 h3
    · exact chk_b_i e0 h0 e1 h1 e2 h2 e3 h3
    · exact chk_b_j e0 h0 e1 h1 e2 h2 e3 h3
    · exact chk_b_k e0 h0 e1 h1 e2 h2 e3 h3
    · exact chk_b_l e0 h0 e1 h1 e2 h2 e3 h3
    · exact chk_b_m e0 h0 e1 h1 e2 h2 e3 h3
    · exact chk_b_n e0 h0 e1 h1 e2 h2 e3 h3
    · exact chk_b_o e0 h0 e1 h1 e2 h2 e3 h3
    · exact chk_b_p e0 h0 e1 h1 e2 h2 e3 h3
  · obtain rfl | rfl | rfl | rfl | rfl | rfl | rfl | rfl | rfl | rfl | rfl | rfl | rfl | rfl | rfl | rfl : k = 0 ∨ k = 1 ∨ k = 2 ∨ k = 3 ∨ k = 4 ∨ k = 5 ∨ k = 6 ∨ k = 7 ∨ k = 8 ∨ k = 9 ∨ k = 10 ∨ k = 11 ∨ k = 12 ∨ k = 13 ∨ k = 14 ∨ k = 15 := by omega
    · exact chk_c_a e0 h0 e1 h1 e2 h2 e3 h3
    · exact chk_c_b e0 h0 e1 h1 e2 h2 e3 h3
    · exact chk_c_c e0 h0 e1 h1 e2 h2 e3 h3
    · exact chk_c_d e0 h0 e1 h1 e2 h2 e3 h3
    · exact chk_c_e e0 h0 e1 h1 e2 h2 e3 h3
    · exact chk_c_f e0 h0 e1 h1 e2 h2 e3 h3
    · exact chk_c_g e0 h0 e1 h1 e2 h2 e3 h3
    · exact chk_c_h e0 h0 e1 h1 e2 h2 e3 h3
    · exact chk_c_i e0 h0 e1 h1 e2 h2 e3 h3
    · exact chk_c_j e0 h0 e1 h1 e2 h2 e3 h3
    · exact chk_c_k e0 h0 e1 h1 e2 h2 e3 h3
    · exact chk_c_l e0 h0 e1 h1 e2 h2 e3 h3
    · exact chk_c_m e0 h0 e1 h1 e2 h2 e3 h3
    · exact chk_c_n e0 h0 e1 h1 e2 h2 e3 h3
    · exact chk_c_o e0 h0 e1 h1 e2 h2 e3 h3
    · exact chk_c_p e0 h0 e1 h1 e2 h2 e3 h3
end Mine

/-! PUR4 -/
namespace Mine
theorem ls_inj {x y : Str} (h : x.cps.toList = y.cps.toList) : x = y := by
  obtain ⟨⟨x⟩⟩ := x
  obtain ⟨⟨y⟩⟩ := y
  have h : x = y := h
  rw [h]
theorem cat_ls (x y : Str) : (x ++ y).cps.toList = x.cps.toList ++ y.cps.toList := by
  rw [Str.cps_append, Array.toList_append]
theorem bit_dec : ∀ k : Nat, k < 16 → ∀ i : Nat, i < 4 → (bitI (k : Int) i != 0) = k.testBit i := by decide +kernel
theorem low_dec : ∀ k : Nat, k < 16 → (Builtin.bitAnd (k : Int) 1 != 0) = k.testBit 0 := by decide +kernel
theorem bit_iff {k i : Nat} (hk : k < 16) (hi : i < 4) : (bitI (k : Int) i ≠ 0) ↔ k.testBit i = true := by
  rw [← bit_dec k hk i hi]
  exact bne_iff_ne.symm
theorem mailI_ls {r0 r1 r2 r3 : Str} {k i : Nat} (hk : k < 16) (hi : i < 4) : (mailI r0 r1 r2 r3 (k : Int) i).cps.toList = qL k (3 - i) ++ (rowAt r0 r1 r2 r3 i).cps.toList := by
  unfold mailI qL
  rw [cat_ls]
  by_cases h : bitI (k : Int) (3 - i) ≠ 0
  · rw [if_pos h, if_pos ((bit_iff hk (by omega)).mp h)]
    rfl
  · rw [if_neg h, if_neg (fun z => h ((bit_iff hk (by omega)).mpr z))]
    rfl
theorem mailS_ls {r0 r1 r2 r3 t : Str} {k : Nat} (hk : k < 16) : (mailS r0 r1 r2 r3 t (k : Int)).cps.toList = mL r0.cps.toList r1.cps.toList r2.cps.toList r3.cps.toList t.cps.toList k := by
  unfold mailS
  rw [cat_ls]
  show (Txt.join ⟨#[]⟩ [mailI r0 r1 r2 r3 k 0, mailI r0 r1 r2 r3 k 1, mailI r0 r1 r2 r3 k 2, mailI r0 r1 r2 r3 k 3]).cps.toList ++ _ = _
  rw [join_ls]
  unfold flatS mL
  simp only [List.map_cons, List.map_nil, List.flatten_cons, List.flatten_nil, List.append_nil]
  rw [mailI_ls hk (by omega), mailI_ls hk (by omega), mailI_ls hk (by omega), mailI_ls hk (by omega)]
  simp only [List.append_assoc]
  rfl
theorem leftB_ls {k i : Nat} (hk : k < 16) (hi : i < 4) : leftB (k : Int) i = !k.testBit (3 - i) := by
  unfold leftB
  rw [bit_dec k hk (3 - i) (by omega)]
theorem leftS_ls {r0 r1 r2 r3 t : Str} {n : Nat} (hn : n < 16) : (leftS r0 r1 r2 r3 t (n : Int)).cps.toList = lL r0.cps.toList r1.cps.toList r2.cps.toList r3.cps.toList t.cps.toList n := by
  unfold leftS
  rw [cat_ls]
  show (Txt.join ⟨#[]⟩ ((List.filter (leftB n) [0, 1, 2, 3]).map (rowAt r0 r1 r2 r3))).cps.toList ++ _ = _
  rw [join_ls]
  have e0 := leftB_ls hn (by decide : 0 < 4)
  have e1 := leftB_ls hn (by decide : 1 < 4)
  have e2 := leftB_ls hn (by decide : 2 < 4)
  have e3 := leftB_ls hn (by decide : 3 < 4)
  have et : (if Builtin.bitAnd (n : Int) 1 ≠ 0 then Str.ofString "z." else t).cps.toList = (if n.testBit 0 then [122, 46] else t.cps.toList) := by
    have := low_dec n hn
    by_cases h : Builtin.bitAnd (n : Int) 1 ≠ 0
    · rw [if_pos h, if_pos (by rw [← this]; exact bne_iff_ne.mpr h)]
      rfl
    · rw [if_neg h, if_neg (by rw [← this]; exact fun z => h (bne_iff_ne.mp z))]
  rw [et]
  unfold lL kL flatS
  simp only [List.filter_cons, List.filter_nil, e0, e1, e2, e3]
  cases n.testBit 3 <;> cases n.testBit 2 <;> cases n.testBit 1 <;> cases n.testBit 0 <;> simp [rowAt]
theorem rowS_ls : ∀ i : Nat, i < 4 → ∀ e : Nat, e < 3 → (rowS i e).cps.toList = rowL i e := by decide +kernel
theorem T_ls : ∀ tl : Nat, tl < 3 → (tb tl ++ Str.ofString "\"z.").cps.toList = tailL tl := by decide +kernel
theorem headS_ls : ∀ k : Nat, k < 16 → ∀ i : Nat, i < 4 → (headS k i).cps.toList = headL k i := by decide +kernel
theorem fixS_ls : ∀ i : Nat, i < 4 → (fixS i).cps.toList = fixL i := by decide +kernel
theorem looseS_ls {r : Str} (h : 1 ≤ r.length) : (looseS r).cps.toList = looseL r.cps.toList := by
  unfold looseS looseL
  rw [cat_ls, show (1 : Int) = ((1 : Nat) : Int) from rfl, sl_from h]
  rfl
theorem abcd_at : ∀ i : Nat, i < 4 → Txt.item (Str.ofString "abcd") (i : Int) = ⟨#[97 + i]⟩ := by decide +kernel
theorem letB_ls (x : Str) {i : Nat} (hi : i < 4) : letB x i = !x.cps.toList.contains (97 + i) := by
  unfold letB
  rw [abcd_at i hi, StrLaws.found_one]
  rw [List.contains_eq_mem]
theorem num_dec : ∀ n : Nat, n < 16 → (((List.range 4).filter fun i => n.testBit i).map fun i => (1 : Int) * 2 ^ i).sum = (n : Int) := by decide +kernel
theorem numS_ls {x : Str} {n : Nat} (hn : n < 16) (h : nuL x.cps.toList n = true) : numS x = (n : Int) := by
  unfold nuL at h
  simp only [Bool.and_eq_true, beq_iff_eq] at h
  obtain ⟨⟨⟨h0, h1⟩, h2⟩, h3⟩ := h
  rw [← num_dec n hn]
  unfold numS
  have : (List.range 4).filter (letB x) = (List.range 4).filter fun i => n.testBit i := by
    apply List.filter_congr
    intro i hi
    have hi := List.mem_range.mp hi
    rw [letB_ls x hi]
    obtain rfl | rfl | rfl | rfl : i = 0 ∨ i = 1 ∨ i = 2 ∨ i = 3 := by omega
    · exact h0.symm
    · exact h1.symm
    · exact h2.symm
    · exact h3.symm
  rw [this]
end Mine

/-! PUR6 -/
namespace Mine
def alph : List Nat := [10, 13, 34, 46, 92, 97, 98, 99, 100, 122]
theorem low_alph : ∀ x ∈ alph, ∀ y ∈ alph, x = y ∨ Txt.lower ⟨#[x]⟩ ≠ Txt.lower ⟨#[y]⟩ := by decide +kernel
theorem sc_alph {x y : Nat} (hx : x ∈ alph) (hy : y ∈ alph) : scN x y = if x = y then 0 else 2 := by
  unfold scN
  by_cases h : x = y
  · rw [if_pos h, if_pos h]
  · rw [if_neg h, if_neg h, if_neg ((low_alph x hx y hy).resolve_left h)]
def row0L : List Nat → List Nat
  | [] => [0]
  | _ :: b => (2 * (b.length + 1)) :: row0L b
def rowS' (x : Nat) : List Nat → List Nat → List Nat
  | [], p :: _ => [p + 2]
  | y :: b, p :: ps => (fun r => (min (min (p + 2) (r.headD 0 + 2)) (ps.headD 0 + (if x = y then 0 else 2))) :: r) (rowS' x b ps)
  | _, [] => []
def rowsD : List Nat → List Nat → List Nat
  | [], b => row0L b
  | x :: a, b => rowS' x b (rowsD a b)
noncomputable def RD (a : List Nat) : List Nat → List Nat
  | [] => [dist a []]
  | y :: b => dist a (y :: b) :: RD a b
theorem RD_head (a b : List Nat) : (RD a b).headD 0 = dist a b := by
  cases b <;> rfl
theorem rowS'_RD (x : Nat) (a : List Nat) (hx : x ∈ alph) : ∀ b : List Nat, (∀ y ∈ b, y ∈ alph) → rowS' x b (RD a b) = RD (x :: a) b
  | [], _ => by
    show [dist a [] + 2] = [dist (x :: a) []]
    rw [dist_nil_r, dist_nil_r]
    rfl
  | y :: b, h => by
    have ih := rowS'_RD x a hx b fun z hz => h z (.tail _ hz)
    show (fun r => (min (min (dist a (y :: b) + 2) (r.headD 0 + 2)) ((RD a b).headD 0 + (if x = y then 0 else 2))) :: r) (rowS' x b (RD a b)) = dist (x :: a) (y :: b) :: RD (x :: a) b
    rw [ih]
    show (min (min (dist a (y :: b) + 2) ((RD (x :: a) b).headD 0 + 2)) ((RD a b).headD 0 + (if x = y then 0 else 2))) :: RD (x :: a) b = _
    rw [RD_head, RD_head, dist_cc, sc_alph hx (h y List.mem_cons_self)]
theorem rowsD_RD : ∀ (a b : List Nat), (∀ x ∈ a, x ∈ alph) → (∀ y ∈ b, y ∈ alph) → rowsD a b = RD a b
  | [], b, _, _ => by
    induction b with
    | nil => rfl
    | cons y b ih =>
      show (2 * (b.length + 1)) :: row0L b = dist [] (y :: b) :: RD [] b
      have ih' : row0L b = RD [] b := by
        apply ih
        intro z hz
        rename_i h
        exact h z (.tail _ hz)
      rw [ih']
      rfl
  | x :: a, b, ha, hb => by
    show rowS' x b (rowsD a b) = _
    rw [rowsD_RD a b (fun z hz => ha z (.tail _ hz)) hb, rowS'_RD x a (ha x List.mem_cons_self) b hb]
theorem dist_dp {a b : List Nat} (ha : ∀ x ∈ a, x ∈ alph) (hb : ∀ y ∈ b, y ∈ alph) : dist a b = (rowsD a b).headD 0 := by
  rw [rowsD_RD a b ha hb, RD_head]
def inA (l : List Nat) : Bool := l.all fun x => alph.contains x
theorem inA_mem {l : List Nat} (h : inA l = true) : ∀ x ∈ l, x ∈ alph := by
  intro x hx
  have := List.all_eq_true.mp h x hx
  exact List.contains_iff_mem.mp this
theorem Al.filt {a b : List Nat} {n : Nat} (h : Al a b n) (p : Nat → Bool) : (∀ x ∈ a, x ∈ alph) → (∀ y ∈ b, y ∈ alph) → ∃ n', n' ≤ n ∧ Al (a.filter p) (b.filter p) n' := by
  induction h with
  | nil => exact fun _ _ => ⟨0, Nat.le_refl _, .nil⟩
  | del x _ ih =>
    intro ha hb
    obtain ⟨n', h1, h2⟩ := ih (fun z hz => ha z (.tail _ hz)) hb
    by_cases hp : p x = true
    · rw [List.filter_cons_of_pos hp]
      exact ⟨n' + 2, by omega, .del x h2⟩
    · rw [List.filter_cons_of_neg hp]
      exact ⟨n', by omega, h2⟩
  | ins y _ ih =>
    intro ha hb
    obtain ⟨n', h1, h2⟩ := ih ha (fun z hz => hb z (.tail _ hz))
    by_cases hp : p y = true
    · rw [List.filter_cons_of_pos hp]
      exact ⟨n' + 2, by omega, .ins y h2⟩
    · rw [List.filter_cons_of_neg hp]
      exact ⟨n', by omega, h2⟩
  | sub x y _ ih =>
    intro ha hb
    obtain ⟨n', h1, h2⟩ := ih (fun z hz => ha z (.tail _ hz)) (fun z hz => hb z (.tail _ hz))
    have hs := sc_alph (ha x List.mem_cons_self) (hb y List.mem_cons_self)
    by_cases hp : p x = true
    · by_cases hq : p y = true
      · rw [List.filter_cons_of_pos hp, List.filter_cons_of_pos hq]
        exact ⟨_, by omega, .sub x y h2⟩
      · rw [List.filter_cons_of_pos hp, List.filter_cons_of_neg hq]
        rw [if_neg (fun (e : _ = _) => hq (by rw [← e]; exact hp))] at hs
        exact ⟨n' + 2, by omega, .del x h2⟩
    · by_cases hq : p y = true
      · rw [List.filter_cons_of_neg hp, List.filter_cons_of_pos hq]
        rw [if_neg (fun (e : _ = _) => hp (by rw [e]; exact hq))] at hs
        exact ⟨n' + 2, by omega, .ins y h2⟩
      · rw [List.filter_cons_of_neg hp, List.filter_cons_of_neg hq]
        exact ⟨n', by omega, h2⟩
theorem dist_filt {a b : List Nat} (p : Nat → Bool) (ha : ∀ x ∈ a, x ∈ alph) (hb : ∀ y ∈ b, y ∈ alph) : dist (a.filter p) (b.filter p) ≤ dist a b := by
  obtain ⟨n', h1, h2⟩ := (dist_al a b).filt p ha hb
  exact Nat.le_trans h2.le h1
theorem al_refl : ∀ l : List Nat, Al l l 0
  | [] => .nil
  | x :: l => by
    have := Al.sub x x (al_refl l)
    rw [scN_self] at this
    exact this
def qd (a b i : Nat) : Nat := if a.testBit i = b.testBit i then 0 else 2
theorem al_q (a b i : Nat) : Al (qL a i) (qL b i) (qd a b i) := by
  unfold qL qd
  cases a.testBit i <;> cases b.testBit i
  · exact .nil
  · exact .ins 34 .nil
  · exact .del 34 .nil
  · exact al_refl _
theorem qd_sum : ∀ a : Nat, a < 16 → ∀ b : Nat, b < 16 → qd a b 3 + (0 + (qd a b 2 + (0 + (qd a b 1 + (0 + (qd a b 0 + (0 + 0))))))) = 2 * pop4 (a ^^^ b) := by decide +kernel
theorem mail_le {r0 r1 r2 r3 t : List Nat} {a b : Nat} (ha : a < 16) (hb : b < 16) : dist (mL r0 r1 r2 r3 t a) (mL r0 r1 r2 r3 t b) ≤ 2 * pop4 (a ^^^ b) := by
  rw [← qd_sum a ha b hb]
  unfold mL
  exact ((al_q a b 3).append ((al_refl r3).append ((al_q a b 2).append ((al_refl r2).append ((al_q a b 1).append ((al_refl r1).append ((al_q a b 0).append ((al_refl r0).append (al_refl t))))))))).le
def pE (c : Nat) : Bool := c != 46 && c != 10 && c != 13
def sL (a : Nat) : List Nat := qL a 3 ++ (100 :: (qL a 2 ++ (99 :: (qL a 1 ++ (98 :: (qL a 0 ++ [97]))))))
def filtOK (e0 e1 e2 e3 tl k : Nat) : Bool := (fun m => inA m && (m.filter pE == sL k ++ (tailL tl).filter pE)) (mL (rowL 0 e0) (rowL 1 e1) (rowL 2 e2) (rowL 3 e3) (tailL tl) k)
theorem inA_append (a b : List Nat) : inA (a ++ b) = (inA a && inA b) := List.all_append
theorem q_filt (k i : Nat) : (qL k i).filter pE = qL k i ∧ inA (qL k i) = true := by
  unfold qL
  split
  · decide
  · decide
theorem row_filt : ∀ i : Nat, i < 4 → ∀ e : Nat, e < 3 → (rowL i e).filter pE = [letL i] ∧ inA (rowL i e) = true := by decide +kernel
theorem tail_in : ∀ tl : Nat, tl < 3 → inA (tailL tl) = true := by decide +kernel
theorem filt_all (e0 : Nat) (h0 : e0 < 3) (e1 : Nat) (h1 : e1 < 3) (e2 : Nat) (h2 : e2 < 3) (e3 : Nat) (h3 : e3 < 3) (tl : Nat) (ht : tl < 3) (k : Nat) (_ : k < 16) : filtOK e0 e1 e2 e3 tl k = true := by
  obtain ⟨f0, i0⟩ := row_filt 0 (by decide) e0 h0
  obtain ⟨f1, i1⟩ := row_filt 1 (by decide) e1 h1
  obtain ⟨f2, i2⟩ := row_filt 2 (by decide) e2 h2
  obtain ⟨f3, i3⟩ := row_filt 3 (by decide) e3 h3
  unfold filtOK
  dsimp only
  rw [Bool.and_eq_true, beq_iff_eq]
  constructor
  · simp only [mL, inA_append, (q_filt k _).2, i0, i1, i2, i3, tail_in tl ht, Bool.and_self]
  · simp only [mL, sL, List.filter_append, (q_filt k _).1, f0, f1, f2, f3, letL, List.append_assoc, List.cons_append, List.nil_append]
theorem sL_in : ∀ a : Nat, a < 16 → inA (sL a) = true := by decide +kernel
theorem sL_dp : ∀ a : Nat, a < 16 → ∀ b : Nat, b < 16 → (rowsD (sL a) (sL b)).headD 0 = 2 * pop4 (a ^^^ b) := by decide +kernel
theorem mail_dist {e0 e1 e2 e3 tl a b : Nat} (h0 : e0 < 3) (h1 : e1 < 3) (h2 : e2 < 3) (h3 : e3 < 3) (ht : tl < 3) (ha : a < 16) (hb : b < 16) :
    dist (mL (rowL 0 e0) (rowL 1 e1) (rowL 2 e2) (rowL 3 e3) (tailL tl) a) (mL (rowL 0 e0) (rowL 1 e1) (rowL 2 e2) (rowL 3 e3) (tailL tl) b) = 2 * pop4 (a ^^^ b) := by
  refine Nat.le_antisymm (mail_le ha hb) ?_
  have fa := filt_all e0 h0 e1 h1 e2 h2 e3 h3 tl ht a ha
  have fb := filt_all e0 h0 e1 h1 e2 h2 e3 h3 tl ht b hb
  unfold filtOK at fa fb
  simp only [Bool.and_eq_true, beq_iff_eq] at fa fb
  have := dist_filt pE (inA_mem fa.1) (inA_mem fb.1)
  rw [fa.2, fb.2, dist_suf, dist_dp (inA_mem (sL_in a ha)) (inA_mem (sL_in b hb)), sL_dp a ha b hb] at this
  exact this
def lhs2 (tl k : Nat) : List Nat := lL (headL k 0) (headL k 1) (headL k 2) (headL k 3) (tailL tl) (gr k)
def rhs2 (tl k : Nat) : List Nat := lL (fixL 0) (fixL 1) (fixL 2) (fixL 3) (tailL tl) (gr k)

theorem dp2 : ∀ tl : Nat, tl < 3 → ∀ k : Nat, k < 16 → (inA (lhs2 tl k) && inA (rhs2 tl k) && ((rowsD (lhs2 tl k) (rhs2 tl k)).headD 0 == pop4 k / 2 * 2)) = true := by decide +kernel
theorem left_dist {tl k : Nat} (ht : tl < 3) (hk : k < 16) : dist (lhs2 tl k) (rhs2 tl k) = pop4 k / 2 * 2 := by
  have := dp2 tl ht k hk
  simp only [Bool.and_eq_true, beq_iff_eq] at this
  rw [dist_dp (inA_mem this.1.1) (inA_mem this.1.2), this.2]
end Mine

/-! PURF -/
namespace Mine
open PySem.Builtin.Str (occurrences subAt) in
/-- the first place where p holds -/
def firstP (p : Nat → Bool) : Nat → Nat → Option Nat
  | _, 0 => none
  | i, n + 1 => if p i then some i else firstP p (i + 1) n
def occStep (p : Nat → Bool) (w : Nat) (st : Array Nat × Nat) (i : Nat) : Array Nat × Nat :=
  if st.1.size < 1 && decide (st.2 ≤ i) && p i then (st.1.push i, i + w) else st
theorem occ_stay {p : Nat → Bool} {w k f : Nat} : ∀ (l : List Nat), (l.foldl (occStep p w) (#[k], f)).1 = #[k]
  | [] => rfl
  | i :: r => by
    rw [List.foldl_cons, show occStep p w (#[k], f) i = (#[k], f) from by simp [occStep]]
    exact occ_stay r
theorem occ_first {p : Nat → Bool} {w : Nat} : ∀ (n i f : Nat), f ≤ i → ((List.range' i n).foldl (occStep p w) (#[], f)).1.toList = (firstP p i n).toList
  | 0, _, _, _ => rfl
  | n + 1, i, f, h => by
    rw [List.range'_succ, List.foldl_cons, firstP]
    cases hp : p i with
    | true =>
      rw [show occStep p w (#[], f) i = (#[i], i + w) from by simp [occStep, h, hp], occ_stay]
      rfl
    | false =>
      rw [show occStep p w (#[], f) i = (#[], f) from by simp [occStep, hp]]
      exact occ_first n (i + 1) f (by omega)
theorem occ_fold (x y : Str) (hi : Nat) : ∀ (l : List Nat) (st : Array Nat × Nat), (forIn (m := Id) l st fun i __s =>
      if ((__s.fst = #[] ∧ __s.snd ≤ i) ∧ i + y.length ≤ hi) ∧ Builtin.Str.subAt x y i = true then pure (ForInStep.yield (__s.fst.push i, i + y.length)) else pure (ForInStep.yield (__s.fst, __s.snd))) =
    l.foldl (occStep (fun i => decide (i + y.length ≤ hi) && Builtin.Str.subAt x y i) y.length) st
  | [], _ => rfl
  | i :: r, st => by
    rw [List.forIn_cons, List.foldl_cons, ← occ_fold x y hi r]
    by_cases h : ((st.fst = #[] ∧ st.snd ≤ i) ∧ i + y.length ≤ hi) ∧ Builtin.Str.subAt x y i = true
    · rw [if_pos h, show occStep (fun i => decide (i + y.length ≤ hi) && Builtin.Str.subAt x y i) y.length st i = (st.1.push i, i + y.length) from by simp [occStep, h]]
      rfl
    · rw [if_neg h, show occStep (fun i => decide (i + y.length ≤ hi) && Builtin.Str.subAt x y i) y.length st i = st from by
        unfold occStep
        rw [if_neg]
        intro hc
        apply h
        simpa [Array.size_eq_zero_iff, and_assoc] using hc]
      rfl
theorem occ_one (x y : Str) (lo hi : Nat) : Builtin.Str.occurrences x y lo hi 1 = (firstP (fun i => decide (i + y.length ≤ hi) && Builtin.Str.subAt x y i) lo (hi + 1 - lo)).toList := by
  rw [← occ_first (w := y.length) (hi + 1 - lo) lo lo (Nat.le_refl _), ← occ_fold]
  unfold Builtin.Str.occurrences
  simp [Std.Legacy.Range.forIn_eq_forIn_range', Std.Legacy.Range.size]
  rfl
/-- the same on lists -/
def scanL (y : List Nat) (w hi : Nat) : List Nat → Nat → Nat → Option Nat
  | _, _, 0 => none
  | r, i, n + 1 => if (Nat.ble (i + w) hi && y.isPrefixOf r) = true then some i else scanL y w hi r.tail (i + 1) n
theorem subAt_ls {x y : Str} {i : Nat} (h : i + y.length ≤ x.length) : Builtin.Str.subAt x y i = y.cps.toList.isPrefixOf (x.cps.toList.drop i) := by
  have e : Builtin.Str.subAt x y i = (((x.cps.toList.drop i).take y.cps.toList.length) == y.cps.toList) := by
    unfold Builtin.Str.subAt
    rw [Bool.eq_iff_iff, beq_iff_eq, beq_iff_eq, ← Array.toList_inj, Array.toList_extract, List.extract_eq_take_drop]
    show List.take (i + y.cps.size - i) _ = _ ↔ List.take y.cps.toList.length _ = _
    rw [Nat.add_sub_cancel_left, Array.length_toList]
  rw [e, Bool.eq_iff_iff, beq_iff_eq, List.isPrefixOf_iff_prefix, List.prefix_iff_eq_take]
  exact ⟨fun h => h.symm, fun h => h.symm⟩
theorem first_scan {x y : Str} {hi : Nat} (hh : hi ≤ x.length) : ∀ (n i : Nat), firstP (fun i => decide (i + y.length ≤ hi) && Builtin.Str.subAt x y i) i n = scanL y.cps.toList y.length hi (x.cps.toList.drop i) i n
  | 0, _ => rfl
  | n + 1, i => by
    rw [firstP, scanL, List.tail_drop, ← first_scan hh n (i + 1)]
    by_cases hc : i + y.length ≤ hi
    · rw [decide_eq_true hc, subAt_ls (Nat.le_trans hc hh), Nat.ble_eq_true_of_le hc]
    · rw [decide_eq_false hc, show Nat.ble (i + y.length) hi = false from Bool.eq_false_iff.mpr fun h => hc (Nat.le_of_ble_eq_true h)]
      rfl
def find4L (x y : Str) (i j : Int) : Int := match scanL y.cps.toList y.cps.toList.length (min (fromIndex x.length j) x.length) (x.cps.toList.drop (fromIndex x.length i)) (fromIndex x.length i) (min (fromIndex x.length j) x.length + 1 - fromIndex x.length i) with | some k => (k : Int) | none => -1
theorem find4_ls (x y : Str) (i j : Int) : find4 x y i j = find4L x y i j := by
  unfold find4 find4L
  rw [occ_one, first_scan (Nat.min_le_right _ _), Array.length_toList]
  show (match (scanL _ y.cps.size _ _ _ _).toList with | k :: _ => (k : Int) | [] => -1) = _
  show (match (scanL _ y.cps.size _ _ _ _).toList with | k :: _ => (k : Int) | [] => -1) = (match (scanL _ y.cps.size _ _ _ _) with | some k => (k : Int) | none => -1)
  cases scanL y.cps.toList y.cps.size (min (fromIndex x.length j) x.length) (x.cps.toList.drop (fromIndex x.length i)) (fromIndex x.length i) (min (fromIndex x.length j) x.length + 1 - fromIndex x.length i) with
  | none => rfl
  | some k => rfl
def findsL (b : Str) (en : Int) : List Str → Int → Bool
  | [], _ => true
  | w :: r, st => if find4L b w st en < 0 then false else findsL b en r (find4L b w st en + w.length)
theorem finds_ls (b : Str) (en : Int) : ∀ (l : List Str) (st : Int), findsG b en l st = findsL b en l st
  | [], _ => rfl
  | w :: r, st => by
    rw [findsG, findsL, find4_ls, finds_ls b en r]
def ellPL (b y0 : Str) (mid : List Str) (yl : Str) : Bool := if y0.length = 0 then (if Txt.endswith b yl = true then (if (b.length : Int) - yl.length < 0 then false else findsL b ((b.length : Int) - yl.length) (y0 :: mid) 0) else false) else if Txt.startswith b y0 = true then (if Txt.endswith b yl = true then (if (b.length : Int) - yl.length < (y0.length : Int) then false else findsL b ((b.length : Int) - yl.length) mid (y0.length : Int)) else false) else false
theorem ellP_ls (b y0 : Str) (mid : List Str) (yl : Str) : ellP b y0 mid yl = ellPL b y0 mid yl := by
  unfold ellP ellPL ellE
  rw [finds_ls, finds_ls]
end Mine

/-! PUR7 -/
namespace Mine
def ellV (a b : Str) : Option Bool := if (Builtin.Str.occurrences a dots 0 a.length 1).isEmpty = true then some (a == b) else match Txt.split a dots with
  | [x0, x1] => if x1.length = 0 then none else some (ellPL b x0 [] x1)
  | [x0, x1, x2] => if x2.length = 0 then none else some (ellPL b x0 [x1] x2)
  | [x0, x1, x2, x3] => if x3.length = 0 then none else some (ellPL b x0 [x1, x2] x3)
  | [x0, x1, x2, x3, x4] => if x4.length = 0 then none else some (ellPL b x0 [x1, x2, x3] x4)
  | _ => none
theorem ellV_ok {a b : Str} {V : Bool} (h : ellV a b = some V) (l1 : a.length ≤ 200) (l2 : b.length ≤ 200) : EllOK a b V := by
  refine ⟨l1, l2, ?_⟩
  unfold ellV at h
  by_cases hz : (Builtin.Str.occurrences a dots 0 a.length 1).isEmpty = true
  · rw [if_pos hz] at h
    exact .inl ⟨hz, (Option.some.inj h).symm⟩
  · rw [if_neg hz] at h
    refine .inr ⟨Bool.eq_false_iff.mpr hz, ?_⟩
    match hs : Txt.split a dots with
    | [] => rw [hs] at h; cases h
    | [x0] => rw [hs] at h; cases h
    | [x0, x1] =>
      rw [hs] at h
      have h : (if x1.length = 0 then none else some (ellPL b x0 [] x1)) = some V := h
      by_cases hl : x1.length = 0
      · rw [if_pos hl] at h; cases h
      · rw [if_neg hl] at h
        exact .inl ⟨x0, x1, rfl, hl, (Option.some.inj h).symm.trans (ellP_ls _ _ _ _).symm⟩
    | [x0, x1, x2] =>
      rw [hs] at h
      have h : (if x2.length = 0 then none else some (ellPL b x0 [x1] x2)) = some V := h
      by_cases hl : x2.length = 0
      · rw [if_pos hl] at h; cases h
      · rw [if_neg hl] at h
        exact .inr (.inl ⟨x0, x1, x2, rfl, hl, (Option.some.inj h).symm.trans (ellP_ls _ _ _ _).symm⟩)
    | [x0, x1, x2, x3] =>
      rw [hs] at h
      have h : (if x3.length = 0 then none else some (ellPL b x0 [x1, x2] x3)) = some V := h
      by_cases hl : x3.length = 0
      · rw [if_pos hl] at h; cases h
      · rw [if_neg hl] at h
        exact .inr (.inr (.inl ⟨x0, x1, x2, x3, rfl, hl, (Option.some.inj h).symm.trans (ellP_ls _ _ _ _).symm⟩))
    | [x0, x1, x2, x3, x4] =>
      rw [hs] at h
      have h : (if x4.length = 0 then none else some (ellPL b x0 [x1, x2, x3] x4)) = some V := h
      by_cases hl : x4.length = 0
      · rw [if_pos hl] at h; cases h
      · rw [if_neg hl] at h
        exact .inr (.inr (.inr ⟨x0, x1, x2, x3, x4, rfl, hl, (Option.some.inj h).symm.trans (ellP_ls _ _ _ _).symm⟩))
    | x0 :: x1 :: x2 :: x3 :: x4 :: x5 :: r => rw [hs] at h; cases h
def gL (tl j : Nat) : List Nat := mL (headL j 0) (headL j 1) (headL j 2) (headL j 3) (tailL tl) j
def wS (tl k : Nat) : Str := ⟨(quL (gL tl k)).toArray⟩
def gS (tl j : Nat) : Str := ⟨(gL tl j).toArray⟩
def elOK (tl k j : Nat) : Bool := ellV (wS tl k) (gS tl j) == some (elB k j)
def el2OK (tl k : Nat) : Bool := (ellV (wS tl k) (gS tl k ++ ⟨#[46]⟩) == some false) && (ellV (wS tl k) (⟨#[46]⟩ ++ gS tl k) == some (decide ((k : Int) < 8))) && decide ((quL (gL tl k)).length ≤ 200) && decide ((gL tl k).length ≤ 190)
def elK (tl k : Nat) : Bool := (List.range 16).all (fun j => elOK tl k j) && el2OK tl k
theorem to16 {P : Nat → Prop} (p0 : P 0) (p1 : P 1) (p2 : P 2) (p3 : P 3) (p4 : P 4) (p5 : P 5) (p6 : P 6) (p7 : P 7) (p8 : P 8) (p9 : P 9) (p10 : P 10) (p11 : P 11) (p12 : P 12) (p13 : P 13) (p14 : P 14) (p15 : P 15) {k : Nat} (h : k < 16) : P k := by
  obtain rfl | rfl | rfl | rfl | rfl | rfl | rfl | rfl | rfl | rfl | rfl | rfl | rfl | rfl | rfl | rfl : k = 0 ∨ k = 1 ∨ k = 2 ∨ k = 3 ∨ k = 4 ∨ k = 5 ∨ k = 6 ∨ k = 7 ∨ k = 8 ∨ k = 9 ∨ k = 10 ∨ k = 11 ∨ k = 12 ∨ k = 13 ∨ k = 14 ∨ k = 15 := by omega
  all_goals assumption
theorem el_a_a : elK 0 0 = true := by decide +kernel
theorem el_a_b : elK 0 1 = true := by decide +kernel
theorem el_a_c : elK 0 2 = true := by decide +kernel
theorem el_a_d : elK 0 3 = true := by decide +kernel
theorem el_a_e : elK 0 4 = true := by decide +kernel
theorem el_a_f : elK 0 5 = true := by decide +kernel
theorem el_a_g : elK 0 6 = true := by decide +kernel
theorem el_a_h : elK 0 7 = true := by decide +kernel
theorem el_a_i : elK 0 8 = true := by decide +kernel
theorem el_a_j : elK 0 9 = true := by decide +kernel
theorem el_a_k : elK 0 10 = true := by decide +kernel
theorem el_a_l : elK 0 11 = true := by decide +kernel
theorem el_a_m : elK 0 12 = true := by decide +kernel
theorem el_a_n : elK 0 13 = true := by decide +kernel
theorem el_a_o : elK 0 14 = true := by decide +kernel
theorem el_a_p : elK 0 15 = true := by decide +kernel
theorem el_b_a : elK 1 0 = true := by decide +kernel
theorem el_b_b : elK 1 1 = true := by decide +kernel
theorem el_b_c : elK 1 2 = true := by decide +kernel
theorem el_b_d : elK 1 3 = true := by decide +kernel
theorem el_b_e : elK 1 4 = true := by decide +kernel
theorem el_b_f : elK 1 5 = true := by decide +kernel
theorem el_b_g : elK 1 6 = true := by decide +kernel
theorem el_b_h : elK 1 7 = true := by decide +kernel
theorem el_b_i : elK 1 8 = true := by decide +kernel
theorem el_b_j : elK 1 9 = true := by decide +kernel
theorem el_b_k : elK 1 10 = true := by decide +kernel
theorem el_b_l : elK 1 11 = true := by decide +kernel
theorem el_b_m : elK 1 12 = true := by decide +kernel
theorem el_b_n : elK 1 13 = true := by decide +kernel
theorem el_b_o : elK 1 14 = true := by decide +kernel
theorem el_b_p : elK 1 15 = true := by decide +kernel
theorem el_c_a : elK 2 0 = true := by decide +kernel
theorem el_c_b : elK 2 1 = true := by decide +kernel
theorem el_c_c : elK 2 2 = true := by decide +kernel
theorem el_c_d : elK 2 3 = true := by decide +kernel
theorem el_c_e : elK 2 4 = true := by decide +kernel
theorem el_c_f : elK 2 5 = true := by decide +kernel
theorem el_c_g : elK 2 6 = true := by decide +kernel
theorem el_c_h : elK 2 7 = true := by decide +kernel
theorem el_c_i : elK 2 8 = true := by decide +kernel
theorem el_c_j : elK 2 9 = true := by decide +kernel
theorem el_c_k : elK 2 10 = true := by decide +kernel
theorem el_c_l : elK 2 11 = true := by decide +kernel
theorem el_c_m : elK 2 12 = true := by decide +kernel
theorem el_c_n : elK 2 13 = true := by decide +kernel
theorem el_c_o : elK 2 14 = true := by decide +kernel
theorem el_c_p : elK 2 15 = true := by decide +kernel
theorem elK_all : ∀ tl : Nat, tl < 3 → ∀ k : Nat, k < 16 → elK tl k = true := by
  intro tl ht k hk
  obtain rfl | rfl | rfl : tl = 0 ∨ tl = 1 ∨ tl = 2 := by omega
  · exact to16 (P := fun k => elK 0 k = true) el_a_a el_a_b el_a_c el_a_d el_a_e el_a_f el_a_g el_a_h el_a_i el_a_j el_a_k el_a_l el_a_m el_a_n el_a_o el_a_p hk
  · exact to16 (P := fun k => elK 1 k = true) el_b_a el_b_b el_b_c el_b_d el_b_e el_b_f el_b_g el_b_h el_b_i el_b_j el_b_k el_b_l el_b_m el_b_n el_b_o el_b_p hk
  · exact to16 (P := fun k => elK 2 k = true) el_c_a el_c_b el_c_c el_c_d el_c_e el_c_f el_c_g el_c_h el_c_i el_c_j el_c_k el_c_l el_c_m el_c_n el_c_o el_c_p hk
theorem el_all : ∀ tl : Nat, tl < 3 → ∀ k : Nat, k < 16 → ∀ j : Nat, j < 16 → elOK tl k j = true := by
  intro tl ht k hk j hj
  have h := elK_all tl ht k hk
  unfold elK at h
  rw [Bool.and_eq_true] at h
  exact List.all_eq_true.mp h.1 j (List.mem_range.mpr hj)
theorem el2_all : ∀ tl : Nat, tl < 3 → ∀ k : Nat, k < 16 → el2OK tl k = true := by
  intro tl ht k hk
  have h := elK_all tl ht k hk
  unfold elK at h
  rw [Bool.and_eq_true] at h
  exact h.2
end Mine

/-! PUR5 -/
namespace Mine
theorem chk_at {e0 e1 e2 e3 tl k : Nat} (h0 : e0 < 3) (h1 : e1 < 3) (h2 : e2 < 3) (h3 : e3 < 3) (ht : tl < 3) (hk : k < 16) :
    (fun r0 r1 r2 r3 t => stL (mL r0 r1 r2 r3 t k) = lL r0 r1 r2 r3 t (gr k) ∧ stL (lL r0 r1 r2 r3 t (gr k)) = lL r0 r1 r2 r3 t (gr k) ∧ nuL (lL r0 r1 r2 r3 t (gr k)) (gr k) = true ∧
      quL (mL r0 r1 r2 r3 t k) = mL (headL k 0) (headL k 1) (headL k 2) (headL k 3) t k ∧ quL (lL r0 r1 r2 r3 t (gr k)) = lL (fixL 0) (fixL 1) (fixL 2) (fixL 3) t (gr k) ∧
      stL ([32] ++ (mL (looseL r0) (looseL r1) (looseL r2) (looseL r3) t k ++ [32])) = [32] ++ (lL r0 r1 r2 r3 t (gr k) ++ [32])) (rowL 0 e0) (rowL 1 e1) (rowL 2 e2) (rowL 3 e3) (tailL tl) := by
  have h := chk_all e0 h0 e1 h1 e2 h2 e3 h3 tl ht k hk
  unfold chk at h
  simp only [Bool.and_eq_true, beq_iff_eq] at h
  obtain ⟨⟨⟨⟨⟨a, b⟩, c⟩, d⟩, e⟩, f⟩ := h
  exact ⟨a, b, c, d, e, f⟩
/-- signs and sizes of the texts -/
def okL (n : Nat) (l : List Nat) : Prop := l.length ≤ n ∧ l.all (· < 128) = true
theorem okL.append {n m : Nat} {a b : List Nat} (x : okL n a) (y : okL m b) : okL (n + m) (a ++ b) :=
  ⟨by rw [List.length_append]; exact Nat.add_le_add x.1 y.1, by rw [List.all_append, x.2, y.2]; rfl⟩
theorem okL.q (k i : Nat) : okL 1 (qL k i) := by
  unfold qL
  split
  · exact ⟨by decide, by decide⟩
  · exact ⟨by decide, by decide⟩
theorem okL.k (k i : Nat) {n : Nat} {r : List Nat} (h : okL n r) : okL n (kL k i r) := by
  unfold kL
  split
  · exact ⟨Nat.zero_le _, rfl⟩
  · exact h
theorem row_ok : ∀ i : Nat, i < 4 → ∀ e : Nat, e < 3 → (decide ((rowL i e).length ≤ 4) && (rowL i e).all (· < 128) && decide ((looseL (rowL i e)).length ≤ 6) && (looseL (rowL i e)).all (· < 128)) = true := by decide +kernel
theorem okL.row (i : Nat) (hi : i < 4) (e : Nat) (he : e < 3) : okL 4 (rowL i e) ∧ okL 6 (looseL (rowL i e)) := by
  have h := row_ok i hi e he
  simp only [Bool.and_eq_true, decide_eq_true_eq] at h
  exact ⟨⟨h.1.1.1, h.1.1.2⟩, h.1.2, h.2⟩
theorem tail_ok : ∀ tl : Nat, tl < 3 → (decide ((tailL tl).length ≤ 7) && (tailL tl).all (· < 128)) = true := by decide +kernel
theorem okL.tail (tl : Nat) (h : tl < 3) : okL 7 (tailL tl) := by
  have h := tail_ok tl h
  simp only [Bool.and_eq_true, decide_eq_true_eq] at h
  exact h
theorem okL.m {n : Nat} {r0 r1 r2 r3 t : List Nat} (k : Nat) (h0 : okL n r0) (h1 : okL n r1) (h2 : okL n r2) (h3 : okL n r3) (ht : okL 7 t) : okL (1 + (n + (1 + (n + (1 + (n + (1 + (n + 7)))))))) (mL r0 r1 r2 r3 t k) :=
  (okL.q k 3).append (h3.append ((okL.q k 2).append (h2.append ((okL.q k 1).append (h1.append ((okL.q k 0).append (h0.append ht)))))))
theorem okL.l {n : Nat} {r0 r1 r2 r3 t : List Nat} (k : Nat) (h0 : okL n r0) (h1 : okL n r1) (h2 : okL n r2) (h3 : okL n r3) (ht : okL 7 t) : okL (n + (n + (n + (n + 7)))) (lL r0 r1 r2 r3 t k) := by
  refine (okL.k k 3 h3).append ((okL.k k 2 h2).append ((okL.k k 1 h1).append ((okL.k k 0 h0).append ?_)))
  split
  · exact ⟨by decide, by decide⟩
  · exact ht
theorem nl_len : ∀ (l : List Nat) (b : Bool), (nl b l).length ≤ 2 * l.length
  | [], _ => Nat.zero_le _
  | c :: r, b => by
    have ht := nl_len r true
    have hf := nl_len r false
    rw [nl]
    split
    · simp only [List.length_cons]; omega
    · split
      · split
        · simp only [List.length_cons]; omega
        · simp only [List.length_cons]; omega
      · simp only [List.length_cons]; omega
theorem hd_all : ∀ tl : Nat, tl < 3 → ∀ k : Nat, k < 16 → (fun m l => stL m == l && m.all (· < 128) && decide (l.length ≤ 40) && decide ((nl false m).length ≤ 1000)) (gL tl k) (lL (headL k 0) (headL k 1) (headL k 2) (headL k 3) (tailL tl) (gr k)) = true := by decide +kernel
theorem fx_all : ∀ tl : Nat, tl < 3 → ∀ k : Nat, k < 16 → (lL (fixL 0) (fixL 1) (fixL 2) (fixL 3) (tailL tl) (gr k)).length ≤ 40 := by decide +kernel
theorem gr_lt : ∀ k : Nat, k < 16 → gr k < 16 := by decide +kernel
theorem gray_at : ∀ k : Nat, k < 16 → (k : Int) = Builtin.bitXor (gr k : Int) ((gr k : Int).fdiv (2 ^ 1)) := by decide +kernel
def nbN (k : Nat) : Nat := (gr k + 1) % 16
def tnN (k : Nat) : Nat := nbN k ^^^ (nbN k / 2)
theorem nb_at : ∀ k : Nat, k < 16 → ((gr k : Int) + 1).fmod 16 = (nbN k : Int) := by decide +kernel
theorem tn_at : ∀ k : Nat, k < 16 → Builtin.bitXor (nbN k : Int) ((nbN k : Int).fdiv (2 ^ 1)) = (tnN k : Int) ∧ tnN k < 16 ∧ gr (tnN k) = nbN k ∧ pop4 (k ^^^ tnN k) = 1 := by decide +kernel
theorem tw_at : ∀ k : Nat, k < 16 → (manyS (k : Int)).fdiv 2 * 2 = ((pop4 k / 2 * 2 : Nat) : Int) := by decide +kernel
theorem xo_at : ∀ a : Nat, a < 16 → ∀ b : Nat, b < 16 → Builtin.bitXor (a : Int) (b : Int) = ((a ^^^ b : Nat) : Int) ∧ a ^^^ b < 16 := by decide +kernel
theorem ap_at : ∀ k : Nat, k < 16 → 2 * manyS (k : Int) = ((2 * pop4 k : Nat) : Int) := by decide +kernel
theorem head_len : ∀ k : Nat, k < 16 → ∀ i : Nat, i < 4 → (headS k i).length ≤ 20 := by decide +kernel
theorem fix_len : ∀ i : Nat, i < 4 → (fixS i).length ≤ 20 := by decide +kernel
theorem row_len : ∀ i : Nat, i < 4 → ∀ e : Nat, e < 3 → 1 ≤ (rowS i e).length ∧ (rowS i e).length ≤ 4 := by decide +kernel
theorem len_ls (x : Str) : x.length = x.cps.toList.length := rfl
theorem all_ls {x : Str} (h : x.cps.toList.all (· < 128) = true) : x.cps.all (· < 128) = true := by
  rw [← Array.all_toList]
  exact h
section
variable {e0 e1 e2 e3 tl : Nat} (h0 : e0 < 3) (h1 : e1 < 3) (h2 : e2 < 3) (h3 : e3 < 3) (ht : tl < 3)
include h0 h1 h2 h3 ht
theorem ml_at {k : Nat} (hk : k < 16) : (mailS (rowS 0 e0) (rowS 1 e1) (rowS 2 e2) (rowS 3 e3) (tb tl ++ Str.ofString "\"z.") (k : Int)).cps.toList = mL (rowL 0 e0) (rowL 1 e1) (rowL 2 e2) (rowL 3 e3) (tailL tl) k := by
  rw [mailS_ls hk, rowS_ls 0 (by decide) e0 h0, rowS_ls 1 (by decide) e1 h1, rowS_ls 2 (by decide) e2 h2, rowS_ls 3 (by decide) e3 h3, T_ls tl ht]
theorem ll_at {n : Nat} (hn : n < 16) : (leftS (rowS 0 e0) (rowS 1 e1) (rowS 2 e2) (rowS 3 e3) (tb tl ++ Str.ofString "\"z.") (n : Int)).cps.toList = lL (rowL 0 e0) (rowL 1 e1) (rowL 2 e2) (rowL 3 e3) (tailL tl) n := by
  rw [leftS_ls hn, rowS_ls 0 (by decide) e0 h0, rowS_ls 1 (by decide) e1 h1, rowS_ls 2 (by decide) e2 h2, rowS_ls 3 (by decide) e3 h3, T_ls tl ht]
theorem lol_at {k : Nat} (hk : k < 16) : (mailS (looseS (rowS 0 e0)) (looseS (rowS 1 e1)) (looseS (rowS 2 e2)) (looseS (rowS 3 e3)) (tb tl ++ Str.ofString "\"z.") (k : Int)).cps.toList = mL (looseL (rowL 0 e0)) (looseL (rowL 1 e1)) (looseL (rowL 2 e2)) (looseL (rowL 3 e3)) (tailL tl) k := by
  rw [mailS_ls hk, looseS_ls (row_len 0 (by decide) e0 h0).1, looseS_ls (row_len 1 (by decide) e1 h1).1, looseS_ls (row_len 2 (by decide) e2 h2).1, looseS_ls (row_len 3 (by decide) e3 h3).1, rowS_ls 0 (by decide) e0 h0, rowS_ls 1 (by decide) e1 h1, rowS_ls 2 (by decide) e2 h2, rowS_ls 3 (by decide) e3 h3, T_ls tl ht]
theorem sz_at {k : Nat} (hk : k < 16) : (mL (rowL 0 e0) (rowL 1 e1) (rowL 2 e2) (rowL 3 e3) (tailL tl) k).length ≤ 40 ∧ (mL (rowL 0 e0) (rowL 1 e1) (rowL 2 e2) (rowL 3 e3) (tailL tl) k).all (· < 128) = true ∧
    (lL (rowL 0 e0) (rowL 1 e1) (rowL 2 e2) (rowL 3 e3) (tailL tl) (gr k)).all (· < 128) = true ∧ (mL (looseL (rowL 0 e0)) (looseL (rowL 1 e1)) (looseL (rowL 2 e2)) (looseL (rowL 3 e3)) (tailL tl) k).all (· < 128) = true ∧
    (nl false (mL (rowL 0 e0) (rowL 1 e1) (rowL 2 e2) (rowL 3 e3) (tailL tl) k)).length ≤ 1000 ∧ (nl false (lL (rowL 0 e0) (rowL 1 e1) (rowL 2 e2) (rowL 3 e3) (tailL tl) (gr k))).length ≤ 1000 := by
  have a0 := okL.row 0 (by decide) e0 h0
  have a1 := okL.row 1 (by decide) e1 h1
  have a2 := okL.row 2 (by decide) e2 h2
  have a3 := okL.row 3 (by decide) e3 h3
  have at' := okL.tail tl ht
  have hm := okL.m k a0.1 a1.1 a2.1 a3.1 at'
  have hl := okL.l (gr k) a0.1 a1.1 a2.1 a3.1 at'
  have ho := okL.m k a0.2 a1.2 a2.2 a3.2 at'
  have n1 := nl_len (mL (rowL 0 e0) (rowL 1 e1) (rowL 2 e2) (rowL 3 e3) (tailL tl) k) false
  have n2 := nl_len (lL (rowL 0 e0) (rowL 1 e1) (rowL 2 e2) (rowL 3 e3) (tailL tl) (gr k)) false
  have hm1 := hm.1
  have hl1 := hl.1
  exact ⟨by omega, hm.2, hl.2, ho.2, by omega, by omega⟩
theorem cnt_at {k : Nat} (hk : k < 16) : Cnt (rowS 0 e0) (rowS 1 e1) (rowS 2 e2) (rowS 3 e3) (tb tl ++ Str.ofString "\"z.") (k : Int) (gr k : Int) := by
  have hg := gr_lt k hk
  obtain ⟨c1, c2, c3, c4, c5, c6⟩ := chk_at h0 h1 h2 h3 ht hk
  obtain ⟨z1, z2, z3, z4, z5, z6⟩ := sz_at h0 h1 h2 h3 ht hk
  have hm := ml_at h0 h1 h2 h3 ht hk
  have hl := ll_at h0 h1 h2 h3 ht hg
  have hTl : (tb tl ++ Str.ofString "\"z.").length ≤ 20 := by
    rw [len_ls, T_ls tl ht]
    exact (by decide : ∀ tl : Nat, tl < 3 → (tailL tl).length ≤ 20) tl ht
  refine ⟨Int.natCast_nonneg _, by omega, Int.natCast_nonneg _, by omega, Nat.le_trans (row_len 0 (by decide) e0 h0).2 (by decide), Nat.le_trans (row_len 1 (by decide) e1 h1).2 (by decide), Nat.le_trans (row_len 2 (by decide) e2 h2).2 (by decide), Nat.le_trans (row_len 3 (by decide) e3 h3).2 (by decide), hTl, ?_, ?_, ?_, ?_, ?_, gray_at k hk⟩
  · exact all_ls (by rw [hm]; exact z2)
  · exact all_ls (by rw [hl]; exact z3)
  · apply ls_inj
    rw [strip_ls, hm, hl]
    exact c1
  · apply ls_inj
    rw [strip_ls, hl]
    exact c2
  · exact numS_ls hg (by rw [hl]; exact c3)
omit h0 h1 h2 h3 in
theorem gl_at {k : Nat} (hk : k < 16) : (mailS (headS k 0) (headS k 1) (headS k 2) (headS k 3) (tb tl ++ Str.ofString "\"z.") (k : Int)).cps.toList = gL tl k := by
  rw [mailS_ls hk, headS_ls k hk 0 (by decide), headS_ls k hk 1 (by decide), headS_ls k hk 2 (by decide), headS_ls k hk 3 (by decide), T_ls tl ht]
  rfl
omit h0 h1 h2 h3 in
theorem gll_at {k n : Nat} (hk : k < 16) (hn : n < 16) : (leftS (headS k 0) (headS k 1) (headS k 2) (headS k 3) (tb tl ++ Str.ofString "\"z.") (n : Int)).cps.toList = lL (headL k 0) (headL k 1) (headL k 2) (headL k 3) (tailL tl) n := by
  rw [leftS_ls hn, headS_ls k hk 0 (by decide), headS_ls k hk 1 (by decide), headS_ls k hk 2 (by decide), headS_ls k hk 3 (by decide), T_ls tl ht]
omit h0 h1 h2 h3 in
theorem fl_at {n : Nat} (hn : n < 16) : (leftS (fixS 0) (fixS 1) (fixS 2) (fixS 3) (tb tl ++ Str.ofString "\"z.") (n : Int)).cps.toList = lL (fixL 0) (fixL 1) (fixL 2) (fixL 3) (tailL tl) n := by
  rw [leftS_ls hn, fixS_ls 0 (by decide), fixS_ls 1 (by decide), fixS_ls 2 (by decide), fixS_ls 3 (by decide), T_ls tl ht]
theorem quote_at {k : Nat} (hk : k < 16) : sub1 (sub2 (mailS (rowS 0 e0) (rowS 1 e1) (rowS 2 e2) (rowS 3 e3) (tb tl ++ Str.ofString "\"z.") (k : Int))) = mailS (headS k 0) (headS k 1) (headS k 2) (headS k 3) (tb tl ++ Str.ofString "\"z.") (k : Int) := by
  apply ls_inj
  rw [quote_ls, ml_at h0 h1 h2 h3 ht hk, gl_at ht hk]
  exact (chk_at h0 h1 h2 h3 ht hk).2.2.2.1
end
theorem pf_all {e0 e1 e2 e3 tl one two less : Nat} (h0 : e0 < 3) (h1 : e1 < 3) (h2 : e2 < 3) (h3 : e3 < 3) (htl : tl < 3) (hone : one < 16) (htwo : two < 16) (_ : less < 2) :
    ∃ n1 n2 nb tn tw xo ap wn, PF (rowS 0 e0) (rowS 1 e1) (rowS 2 e2) (rowS 3 e3) (tb tl ++ Str.ofString "\"z.") one two less n1 n2 nb tn tw xo ap wn := by
  obtain ⟨tn1, tn2, tn3, tn4⟩ := tn_at one hone
  obtain ⟨xo1, xo2⟩ := xo_at one hone two htwo
  have hg := gr_lt one hone
  obtain ⟨c1, c2, c3, c4, c5, c6⟩ := chk_at h0 h1 h2 h3 htl hone
  obtain ⟨z1, z2, z3, z4, z5, z6⟩ := sz_at h0 h1 h2 h3 htl hone
  have e2a := el2_all tl htl one hone
  unfold el2OK at e2a
  simp only [Bool.and_eq_true, decide_eq_true_eq, beq_iff_eq] at e2a
  obtain ⟨⟨⟨f1, f2⟩, f3⟩, f4⟩ := e2a
  have hda := hd_all tl htl one hone
  simp only [Bool.and_eq_true, decide_eq_true_eq, beq_iff_eq] at hda
  obtain ⟨⟨⟨g1, g2⟩, g3⟩, g4⟩ := hda
  have hlen : ∀ {k : Nat}, k < 16 → (mailS (rowS 0 e0) (rowS 1 e1) (rowS 2 e2) (rowS 3 e3) (tb tl ++ Str.ofString "\"z.") (k : Int)).length ≤ 40 := fun hk => by rw [len_ls, ml_at h0 h1 h2 h3 htl hk]; exact (sz_at h0 h1 h2 h3 htl hk).1
  have hlo : ∀ i : Nat, i < 4 → ∀ e : Nat, e < 3 → (looseS (rowS i e)).length ≤ 20 := fun i hi e he => by
    rw [len_ls, looseS_ls (row_len i hi e he).1, rowS_ls i hi e he]
    exact (by decide : ∀ i : Nat, i < 4 → ∀ e : Nat, e < 3 → (looseL (rowL i e)).length ≤ 20) i hi e he
  have hgS : ∀ {j : Nat}, j < 16 → mailS (headS j 0) (headS j 1) (headS j 2) (headS j 3) (tb tl ++ Str.ofString "\"z.") (j : Int) = gS tl j := fun hj => ls_inj (gl_at htl hj)
  have hwl : (wS tl one).length ≤ 200 := f3
  refine ⟨gr one, gr two, nbN one, tnN one, pop4 one / 2 * 2, one ^^^ two, 2 * pop4 (one ^^^ two), wS tl one, ?_⟩
  constructor
  case c1 => exact cnt_at h0 h1 h2 h3 htl hone
  case c2 => exact cnt_at h0 h1 h2 h3 htl htwo
  case enb => exact nb_at one hone
  case etn => exact tn1
  case c3 =>
    have := cnt_at h0 h1 h2 h3 htl tn2
    rw [tn3] at this
    exact this
  case lm1 => exact hlen hone
  case lm2 => exact hlen htwo
  case lm3 => exact hlen tn2
  case d1 =>
    show dist (Str.cps _).toList (Str.cps _).toList = 2
    rw [ml_at h0 h1 h2 h3 htl hone, ml_at h0 h1 h2 h3 htl tn2, mail_dist h0 h1 h2 h3 htl hone tn2, tn4]
  case o0 => exact hlo 0 (by decide) e0 h0
  case o1 => exact hlo 1 (by decide) e1 h1
  case o2 => exact hlo 2 (by decide) e2 h2
  case o3 => exact hlo 3 (by decide) e3 h3
  case s3a =>
    apply all_ls
    rw [cat_ls, cat_ls, lol_at h0 h1 h2 h3 htl hone, List.all_append, List.all_append, z4]
    rfl
  case s3 =>
    apply ls_inj
    rw [strip_ls, cat_ls, cat_ls, cat_ls, cat_ls, lol_at h0 h1 h2 h3 htl hone, ll_at h0 h1 h2 h3 htl hg, List.append_assoc, List.append_assoc]
    exact c6
  case q1l => rw [len_ls, sub2_ls, ml_at h0 h1 h2 h3 htl hone]; exact z5
  case q1 => exact quote_at h0 h1 h2 h3 htl hone
  case hl0 => exact head_len one hone 0 (by decide)
  case hl1 => exact head_len one hone 1 (by decide)
  case hl2 => exact head_len one hone 2 (by decide)
  case hl3 => exact head_len one hone 3 (by decide)
  case s4a => exact all_ls (by rw [gl_at htl hone]; exact g2)
  case s4 =>
    apply ls_inj
    rw [strip_ls, gl_at htl hone, gll_at htl hone hg]
    exact g1
  case q3l => rw [len_ls, sub2_ls, ll_at h0 h1 h2 h3 htl hg]; exact z6
  case q3 =>
    apply ls_inj
    rw [quote_ls, ll_at h0 h1 h2 h3 htl hg, fl_at htl hg]
    exact c5
  case etw => exact tw_at one hone
  case lm4 => rw [len_ls, gll_at htl hone hg]; exact g3
  case lm5 => rw [len_ls, fl_at htl hg]; exact fx_all tl htl one hone
  case d2 =>
    show dist (Str.cps _).toList (Str.cps _).toList = _
    rw [gll_at htl hone hg, fl_at htl hg]
    exact left_dist htl hone
  case q4l => rw [len_ls, sub2_ls, gl_at htl hone]; exact g4
  case q4 =>
    apply ls_inj
    rw [quote_ls, gl_at htl hone]
    rfl
  case fx0 => exact fix_len 0 (by decide)
  case fx1 => exact fix_len 1 (by decide)
  case fx2 => exact fix_len 2 (by decide)
  case fx3 => exact fix_len 3 (by decide)
  case q5l =>
    intro j hj
    refine ⟨Nat.le_trans (hlen hj) (by decide), ?_⟩
    rw [len_ls, sub2_ls, ml_at h0 h1 h2 h3 htl hj]
    exact (sz_at h0 h1 h2 h3 htl hj).2.2.2.2.1
  case q5 => exact fun j hj => quote_at h0 h1 h2 h3 htl hj
  case el =>
    intro j hj
    rw [hgS hj]
    have hj2 := el2_all tl htl j hj
    unfold el2OK at hj2
    simp only [Bool.and_eq_true, decide_eq_true_eq, beq_iff_eq] at hj2
    refine ellV_ok (beq_iff_eq.mp (el_all tl htl one hone j hj)) hwl ?_
    exact Nat.le_trans hj2.2 (by decide)
  case el2 =>
    rw [hgS hone]
    refine ellV_ok f1 hwl ?_
    rw [Str.length_append]
    have : (gS tl one).length ≤ 190 := f4
    have h46 : (Str.ofString ".").length = 1 := rfl
    omega
  case el3 =>
    rw [hgS hone]
    refine ellV_ok f2 hwl ?_
    rw [Str.length_append]
    have : (gS tl one).length ≤ 190 := f4
    have h46 : (Str.ofString ".").length = 1 := rfl
    omega
  case exo => exact xo1
  case xo1 => exact xo2
  case eap => exact ap_at _ xo2
  case d3 =>
    show dist (Str.cps _).toList (Str.cps _).toList = _
    rw [ml_at h0 h1 h2 h3 htl hone, ml_at h0 h1 h2 h3 htl htwo, mail_dist h0 h1 h2 h3 htl hone htwo]
end Mine

/-! LAW -/
namespace Mine
theorem drop23 {g h : Heap} {L : Addr} {a b c : Addr × Obj} {r : List (Addr × Obj)} (N : News g L h (a :: b :: c :: r)) : News g L h (a :: r) := N.perm fun p hp => by
  rcases List.mem_cons.mp hp with rfl | hp
  · exact List.mem_cons_self
  · exact .tail _ (.tail _ (.tail _ hp))
theorem comp_UF {prog : Program} {w : World} {A : Around} {E : Value → Shared → Prop} {s : Shared} {h₀ : Heap} {L : Addr} {m : Str → Option Value} {env : Env} {elt iter : PySem.Expr} {x : Str} {px : Pos} {scope : Scope} {cl : List (Str × Addr)} {pos : Pos} {Q : Value → Shared → Prop} (_ : Fr h₀ L s.heap m)
    (hclos : closureFor scope env = pure cl) (hcell : ∀ y ∈ scope.names, y.2 ≠ .cell) (hkind : scope.kind = .function)
    (hnames : ∀ y ∈ scope.names, y.2 = .local → scope.names.lookup y.1 = some .local) (hx : scope.names.lookup x = some .local)
    (h : wpAny (model prog w) A (eval iter env) (fun xv s₁ => ∃ n P S news, Fr h₀ L s₁.heap m ∧ News h₀ L s₁.heap news ∧ IterOK prog w A h₀ L n P S xv s₁ ∧ n ≤ sizeLine ∧ S news ∧
      ∀ g, LCg.CompRest prog w A h₀ L m env elt x scope cl { s₁ with heap := g } S P (LCg.FinE h₀ L m { s₁ with heap := g } Q) n 0 [] news) E s)
    (hs : ∀ x, foldedSetIterable iter env x = pure x := by intro _; rfl) :
    wpAny (model prog w) A (eval (.ListComp elt [⟨.Name x px, iter, [], 0⟩] scope pos) env) Q E s := comp_U hclos hcell hkind hnames hx h hs
set_option maxHeartbeats 8000000 in
theorem law_holds : PySem.Challenge.rw_uc0009_01.Holds := by
  refine Mine.hd ?_
  lgec_go0
  (with_reducible rename Fr _ _ _ _ => F0)
  (with_reducible rename News _ _ _ _ => N0)
  (with_reducible rename IntsAre _ _ => hI0)
  (with_reducible rename Heap.IsList _ _ _ => hL0)
  obtain ⟨mm, F2, hm1⟩ : ∃ mm, Fr _ _ _ mm ∧ mm (Str.ofString "script") = some (.ref _) := ⟨_, F0, rfl⟩
  clear F0
  rw [canon1 _ _ hm1] at F2
  clear hm1
  (try dsimp only at F2)
  rename (Obj.data _ = Data.cell _) => dc1
  have e1 := dc1.trans (show _ = Data.cell none from rfl)
  clear dc1
  revert e1
  rename (Obj.data _ = Data.cell _) => dc2
  have e2 := dc2.trans (show _ = Data.cell none from rfl)
  clear dc2
  intro e1
  revert e1 e2
  repeat ((rename (Obj.data _ = _) => zz); clear zz)
  repeat ((with_reducible rename Based _ _ _ _ _ => zz); clear zz)
  repeat ((with_reducible rename (_ = some _) => zz); clear zz)
  (try ((with_reducible rename Heap.CodeRec _ _ _ => zz); clear zz))
  intro e1 e2
  dsimp only
  repeat' ((fail_if_success (with_reducible show wpAny _ _ (call (Value.builtin "sum") _) _ _ _)); first | (k_unfold; (try dsimp only)) | (k_end; wrow_close) | walk1 | (dsimp only; walk1) | (leave1; try dsimp only))
  (with_reducible rename Fr _ _ _ _ => F)
  (with_reducible rename News _ _ _ _ => N)
  obtain ⟨ms1, hms1⟩ := pick_ints hI0 (some 0) none (some 2)
  refine sumK rfl F N ?isl1 hms1 ?_
  case isl1 => rw [Array.toArray_toList]; exact ⟨_, (N _ (.head _)).1, rfl, _, rfl⟩
  clear F hms1
  intro h1 tk1 t1 F1 N1'
  have N1 := N1'.tail'
  clear N1' N
  (try dsimp only)
  repeat' ((fail_if_success (with_reducible show wpAny _ _ (call (Value.builtin "sum") _) _ _ _)); first | (k_unfold; (try dsimp only)) | (k_end; wrow_close) | walk1 | (dsimp only; walk1) | (leave1; try dsimp only))
  (with_reducible rename Fr _ _ _ _ => F)
  (with_reducible rename News _ _ _ _ => N)
  obtain ⟨ms2, hms2⟩ := pick_ints hI0 (some 1) none (some 2)
  refine sumK rfl F N ?isl2 hms2 ?_
  case isl2 => rw [Array.toArray_toList]; exact ⟨_, (N _ (.head _)).1, rfl, _, rfl⟩
  clear F hms2
  intro h2 tk2 t2 F2 N2'
  have N2 := N2'.tail'
  clear N2' N
  (try dsimp only)
  repeat' ((fail_if_success (with_reducible show wpAny _ _ (subscriptTail _ _ (Value.ref _) (Value.int _ _)) _ _ _)); (fail_if_success (with_reducible show wpAny _ _ (eval (Expr.ListComp _ _ _ _) _) _ _ _)); first | (k_unfold; (try dsimp only)) | (k_end; wrow_close) | walk1 | (dsimp only; walk1) | (leave1; try dsimp only))
  (with_reducible rename News _ _ _ _ => N)
  obtain ⟨tl, htl, etl⟩ := fmod_nat ((102 + ms2.sum).fdiv 16) (by decide : 0 < 3)
  refine KTb.item_tup (ws := [Str.ofString "\\\\", Str.ofString "\\\"", Str.ofString "\\\\\\\""]) (l := _) ⟨_, (N _ (.head _)).1, rfl, _, rfl⟩ (.cons _ _ (.cons _ _ (.cons _ _ .nil))) ?ta ?tb ?tc ?_
  case ta => exact etl ▸ Int.natCast_nonneg _
  case tb => rw [show ((102 + ms2.sum).fdiv 16).fmod 3 = (tl : Int) from etl]; show (tl : Int) < 3; omega
  case tc => rw [show ((102 + ms2.sum).fdiv 16).fmod 3 = (tl : Int) from etl]; omega
  intro t3 _
  rw [show ((102 + ms2.sum).fdiv 16).fmod 3 = (tl : Int) from etl]
  have etb : [Str.ofString "\\\\", Str.ofString "\\\"", Str.ofString "\\\\\\\""].getD (tl : Int).toNat Str.empty = tb tl := rfl
  rw [etb]
  clear etb
  have hbl := tb_len (j := tl)
  (try dsimp only)
  repeat' ((fail_if_success (with_reducible show wpAny _ _ (eval (Expr.ListComp _ _ _ _) _) _ _ _)); first | (k_unfold; (try dsimp only)) | (k_end; wrow_close) | walk1 | (dsimp only; walk1) | (leave1; try dsimp only))
  (with_reducible rename Fr _ _ _ _ => F)
  (with_reducible rename News _ _ _ _ => N8)
  have N := N8.tail'.tail'.tail'
  clear N8
  rename (Obj.data _ = Data.cell _) => dOne
  revert dOne
  rename (Obj.data _ = Data.cell _) => dX
  intro dOne
  obtain ⟨one, hone, eone⟩ := fmod_nat (842 + ms1.sum) (by decide : 0 < 16)
  obtain ⟨two, htwo, etwo⟩ := fmod_nat (102 + ms2.sum) (by decide : 0 < 16)
  obtain ⟨less, hless, eless⟩ := fmod_nat ((102 + ms2.sum).fdiv 80) (by decide : 0 < 2)
  rw [show (842 + ms1.sum).fmod 16 = (one : Int) from eone] at dOne
  rw [show (102 + ms2.sum).fmod 16 = (two : Int) from etwo, show ((102 + ms2.sum).fdiv 80).fmod 2 = (less : Int) from eless] at F
  clear eone etwo eless etl
  generalize 842 + ms1.sum = X at dX
  generalize 102 + ms2.sum = Y at F
  have hTl : (tb tl ++ Str.ofString "\"z.").length ≤ 7 := by
    rw [Str.length_append]
    have : (Str.ofString "\"z.").length = 3 := rfl
    omega
  revert F hTl
  generalize hT : tb tl ++ Str.ofString "\"z." = T
  intro F hTl
  refine comp_UF F (by with_unfolding_all rfl) (by decide) (by rfl) (by decide) (by rfl) ?_
  repeat' ((fail_if_success (with_reducible show ∃ _, _)); first | (k_unfold; (try dsimp only)) | (k_end; wrow_close) | walk1 | (dsimp only; walk1) | (leave1; try dsimp only))
  rename IsRange _ _ _ _ _ _ _ _ => R
  (with_reducible rename Fr _ _ _ _ => F)
  (with_reducible rename News _ _ _ _ => N)
  refine ⟨4, _, _, _, F, N, iter_range rfl R (by decide), by decide, trivial, fun g => rest_of (R := RowR) trivial ?_ (fin_of ?_)⟩
  · clear F N
    intro i hi v I oI C oC D ys m₂ h tk E' hP hC hx F N
    obtain ⟨t9, rfl⟩ := hP
    repeat' ((fail_if_success (with_reducible show _ ∧ _)); first | (walk1; (try dsimp only)) | (dsimp only; walk1; (try dsimp only)))
    · exact ⟨⟨_, rfl⟩, RowR.crlf hi _⟩
    obtain ⟨bt, hbt, ebt⟩ := bit_nat ((X.fdiv 80).fdiv (2 ^ (i : Int).toNat))
    rw [ebt]
    repeat' ((fail_if_success (with_reducible show _ ∧ _)); first | (walk1; (try dsimp only)) | (dsimp only; walk1; (try dsimp only)))
    exact ⟨⟨_, rfl⟩, RowR.one hi hbt _⟩
  clear F N R
  intro ys D h tk hy F N hD
  obtain ⟨v0, v1, v2, v3, rfl, ⟨e0, u0, he0, rfl⟩, ⟨e1, u1, he1, rfl⟩, ⟨e2, u2, he2, rfl⟩, ⟨e3, u3, he3, rfl⟩⟩ := four hy
  clear hy
  repeat' ((fail_if_success (with_reducible show wpAny _ _ (call (Value.ref _) _) _ _ _)); first | (walk1; (try dsimp only)) | (dsimp only; walk1; (try dsimp only)))
  (with_reducible rename News _ _ _ _ => N9)
  obtain ⟨n1, n2, nb, tn, tw, xo, ap, wn, pf⟩ := pf_all he0 he1 he2 he3 htl hone htwo hless
  rw [hT] at pf
  have N := drop23 N9
  clear N9 hD
  clear he0 he1 he2 he3 htl hbl hT hTl
  (with_reducible rename News _ _ _ _ => N)
  (with_reducible rename Fr _ _ _ _ => F)
  revert pf F N
  generalize rowS 0 e0 = r0
  generalize rowS 1 e1 = r1
  generalize rowS 2 e2 = r2
  generalize rowS 3 e3 = r3
  intro F pf N
  k_here
  refine' (counted_ctr _ _ _ _ _ _ _ _ _ _ _ _ _ _ _ _ _ _ _ _ (.head _)) _ _ _ _ _ _ _ _ _ _ _ _ _ _ ⟨_, _, _, _, _⟩ _ _ ?c1011 ?c1012 ?c1013 ?c1014 ?c1015 ?c1016 ?c1017 ?c1018 ?c1019 ?_; (case c1011 => k_asm); (case c1012 => k_asm); (case c1013 => k_in); (case c1014 => k_asm); (case c1015 => k_asm); (case c1016 => rfl); (case c1017 => exact pf.c1); (case c1018 => ktr_room); (case c1019 => ktr_units)
  intro _ _ _ _ _ _ _
  (with_reducible rename Fr _ _ _ _ => FF)
  (with_reducible rename News _ _ _ _ => NN)
  revert FF NN
  repeat ((with_reducible rename Fr _ _ _ _ => zz); clear zz)
  repeat ((with_reducible rename News _ _ _ _ => zz); clear zz)
  repeat ((with_reducible rename (_ ∧ _) => zz); clear zz)
  intro FF NN
  (try dsimp only)
  repeat' ((fail_if_success (with_reducible show wpAny _ _ (call (Value.ref _) _) _ _ _)); first | (walk1; (try dsimp only)) | (dsimp only; walk1; (try dsimp only)))
  have etn' : Builtin.bitXor (nb : Int) ((nb : Int).fdiv (2 ^ Int.toNat 1)) = (tn : Int) := pf.etn
  (with_reducible rename Fr _ _ _ _ => F)
  rw [pf.enb, etn'] at F
  k_here
  refine' (counted_ctr _ _ _ _ _ _ _ _ _ _ _ _ _ _ _ _ _ _ _ _ (.head _)) _ _ _ _ _ _ _ _ _ _ _ _ _ _ ⟨_, _, _, _, _⟩ _ _ ?c1211 ?c1212 ?c1213 ?c1214 ?c1215 ?c1216 ?c1217 ?c1218 ?c1219 ?_; (case c1211 => k_asm); (case c1212 => k_asm); (case c1213 => k_in); (case c1214 => k_asm); (case c1215 => k_asm); (case c1216 => rfl); (case c1217 => exact pf.c2); (case c1218 => ktr_room); (case c1219 => ktr_units)
  intro _ _ _ _ _ _ _
  (with_reducible rename Fr _ _ _ _ => FF)
  (with_reducible rename News _ _ _ _ => NN)
  revert FF NN
  repeat ((with_reducible rename Fr _ _ _ _ => zz); clear zz)
  repeat ((with_reducible rename News _ _ _ _ => zz); clear zz)
  repeat ((with_reducible rename (_ ∧ _) => zz); clear zz)
  intro FF NN
  (try dsimp only)
  repeat' ((fail_if_success (with_reducible show wpAny _ _ (call (Value.ref _) _) _ _ _)); first | (walk1; (try dsimp only)) | (dsimp only; walk1; (try dsimp only)))
  all_goals try (exfalso; omega)
  k_here
  refine' (counted_ctr _ _ _ _ _ _ _ _ _ _ _ _ _ _ _ _ _ _ _ _ (.head _)) _ _ _ _ _ _ _ _ _ _ _ _ _ _ ⟨_, _, _, _, _⟩ _ _ ?c1221 ?c1222 ?c1223 ?c1224 ?c1225 ?c1226 ?c1227 ?c1228 ?c1229 ?_; (case c1221 => k_asm); (case c1222 => k_asm); (case c1223 => k_in); (case c1224 => k_asm); (case c1225 => k_asm); (case c1226 => rfl); (case c1227 => exact pf.c3); (case c1228 => ktr_room); (case c1229 => ktr_units)
  intro _ _ _ _ _ _ _
  (with_reducible rename Fr _ _ _ _ => FF)
  (with_reducible rename News _ _ _ _ => NN)
  revert FF NN
  repeat ((with_reducible rename Fr _ _ _ _ => zz); clear zz)
  repeat ((with_reducible rename News _ _ _ _ => zz); clear zz)
  repeat ((with_reducible rename (_ ∧ _) => zz); clear zz)
  intro FF NN
  (try dsimp only)
  repeat' ((fail_if_success (with_reducible show wpAny _ _ (call (Value.ref _) _) _ _ _)); first | (walk1; (try dsimp only)) | (dsimp only; walk1; (try dsimp only)))
  all_goals try (exfalso; omega)
  k_here
  refine' (mail_at _ _ _ _ _ _ _ _ _ _ _ _ _ _ _ _ _ _ _ (.head _)) _ _ _ _ _ _ _ _ _ _ _ _ _ _ ⟨_, _, _, _, _⟩ _ _ ?c1231 ?c1232 ?c1233 ?c1234 ?c1235 ?c1236 ?c1237 ?c1238 ?c1239 ?_; (case c1231 => k_asm); (case c1232 => k_asm); (case c1233 => k_in); (case c1234 => k_asm); (case c1235 => k_asm); (case c1236 => rfl); (case c1237 => exact ⟨pf.c1.k0, pf.c1.k1, pf.c1.l0, pf.c1.l1, pf.c1.l2, pf.c1.l3, pf.c1.l4⟩); (case c1238 => ktr_room); (case c1239 => ktr_units)
  intro _ _ _ _ _
  (with_reducible rename Fr _ _ _ _ => FF)
  (with_reducible rename News _ _ _ _ => NN)
  revert FF NN
  repeat ((with_reducible rename Fr _ _ _ _ => zz); clear zz)
  repeat ((with_reducible rename News _ _ _ _ => zz); clear zz)
  repeat ((with_reducible rename (_ ∧ _) => zz); clear zz)
  intro FF NN
  (try dsimp only)
  repeat' ((fail_if_success (with_reducible show wpAny _ _ (call (Value.ref _) _) _ _ _)); first | (walk1; (try dsimp only)) | (dsimp only; walk1; (try dsimp only)))
  all_goals try (exfalso; omega)
  k_here
  refine' (mail_at _ _ _ _ _ _ _ _ _ _ _ _ _ _ _ _ _ _ _ (.head _)) _ _ _ _ _ _ _ _ _ _ _ _ _ _ ⟨_, _, _, _, _⟩ _ _ ?c1241 ?c1242 ?c1243 ?c1244 ?c1245 ?c1246 ?c1247 ?c1248 ?c1249 ?_; (case c1241 => k_asm); (case c1242 => k_asm); (case c1243 => k_in); (case c1244 => k_asm); (case c1245 => k_asm); (case c1246 => rfl); (case c1247 => exact ⟨pf.c3.k0, pf.c3.k1, pf.c3.l0, pf.c3.l1, pf.c3.l2, pf.c3.l3, pf.c3.l4⟩); (case c1248 => ktr_room); (case c1249 => ktr_units)
  intro _ _ _ _ _
  (with_reducible rename Fr _ _ _ _ => FF)
  (with_reducible rename News _ _ _ _ => NN)
  revert FF NN
  repeat ((with_reducible rename Fr _ _ _ _ => zz); clear zz)
  repeat ((with_reducible rename News _ _ _ _ => zz); clear zz)
  repeat ((with_reducible rename (_ ∧ _) => zz); clear zz)
  intro FF NN
  (try dsimp only)
  repeat' ((fail_if_success (with_reducible show wpAny _ _ (call (Value.ref _) _) _ _ _)); first | (walk1; (try dsimp only)) | (dsimp only; walk1; (try dsimp only)))
  all_goals try (exfalso; omega)
  k_here
  refine' (lev_ctr _ _ _ _ _ _ _ _ 2 _ _ _) _ _ _ _ _ _ _ _ _ _ _ _ _ _ ⟨_, _, _, _, _⟩ _ _ ?c1411 ?c1412 ?c1413 ?c1414 ?c1415 ?c1416 ?c1417 ?c1418 ?c1419 ?_; (case c1411 => k_asm); (case c1412 => k_asm); (case c1413 => k_in); (case c1414 => k_asm); (case c1415 => k_asm); (case c1416 => rfl); (case c1417 => exact ⟨pf.lm1, pf.lm3, pf.d1, by omega⟩); (case c1418 => ktr_room); (case c1419 => ktr_units)
  intro _ _ _ _ _
  (with_reducible rename Fr _ _ _ _ => FF)
  (with_reducible rename News _ _ _ _ => NN)
  revert FF NN
  repeat ((with_reducible rename Fr _ _ _ _ => zz); clear zz)
  repeat ((with_reducible rename News _ _ _ _ => zz); clear zz)
  repeat ((with_reducible rename (_ ∧ _) => zz); clear zz)
  intro FF NN
  (try dsimp only)
  repeat' ((fail_if_success (with_reducible show wpAny _ _ (call (Value.ref _) _) _ _ _)); (fail_if_success (with_reducible show wpAny _ _ (eval (Expr.ListComp _ _ _ _) _) _ _ _)); first | (walk1; (try dsimp only)) | (dsimp only; walk1; (try dsimp only)))
  all_goals try (exfalso; omega)
  (with_reducible rename Fr _ _ _ _ => F)
  refine comp_UF F (by with_unfolding_all rfl) (by decide) (by rfl) (by decide) (by rfl) ?_
  (try dsimp only)
  repeat' ((fail_if_success (with_reducible show ∃ _, _)); first | walk1 | (dsimp only; walk1))
  (with_reducible rename Fr _ _ _ _ => F)
  (with_reducible rename News _ _ _ _ => N)
  refine ⟨_, _, _, _, F, N, iter_list rfl N List.mem_cons_self, Nat.le_of_ble_eq_true rfl, List.mem_cons_self, fun g => rest_ofH (R := fun i v => ∃ t, v = .str (looseS ([r0, r1, r2, r3].getD i Str.empty)) t) List.mem_cons_self ?_ (fin_of ?_)⟩
  · clear F N
    intro i hi v I oI C oC D ys m₂ h tk E' hP hC hx F N
    have hi : i < 4 := hi
    have hl0 : r0.length ≤ 20 := pf.c1.l0
    have hl1 : r1.length ≤ 20 := pf.c1.l1
    have hl2 : r2.length ≤ 20 := pf.c1.l2
    have hl3 : r3.length ≤ 20 := pf.c1.l3
    obtain rfl | rfl | rfl | rfl : i = 0 ∨ i = 1 ∨ i = 2 ∨ i = 3 := by omega
    all_goals
      lcg_open hP
      (try dsimp only)
      repeat' ((fail_if_success (with_reducible show _ ∧ _)); first | walk1 | (dsimp only; walk1))
      exact ⟨⟨_, _, rfl, by k_asm, by k_asm⟩, _, rfl⟩
  clear F N
  intro ys D h tk hy F N hD
  obtain ⟨v0, v1, v2, v3, rfl, ⟨u0', z0⟩, ⟨u1', z1⟩, ⟨u2', z2⟩, ⟨u3', z3⟩⟩ := four hy
  replace z0 : v0 = .str (looseS r0) u0' := z0
  replace z1 : v1 = .str (looseS r1) u1' := z1
  replace z2 : v2 = .str (looseS r2) u2' := z2
  replace z3 : v3 = .str (looseS r3) u3' := z3
  subst z0 z1 z2 z3
  clear hy
  (try dsimp only)
  repeat' ((fail_if_success (with_reducible show wpAny _ _ (call (Value.ref _) _) _ _ _)); (fail_if_success (with_reducible show wpAny _ _ (eval (Expr.ListComp _ _ _ _) _) _ _ _)); first | (walk1; (try dsimp only)) | (dsimp only; walk1; (try dsimp only)))
  k_here
  refine' (mail_at _ _ _ _ _ _ _ _ _ _ _ _ _ _ _ _ _ _ _ (.head _)) _ _ _ _ _ _ _ _ _ _ _ _ _ _ ⟨_, _, _, _, _⟩ _ _ ?c1811 ?c1812 ?c1813 ?c1814 ?c1815 ?c1816 ?c1817 ?c1818 ?c1819 ?_; (case c1811 => k_asm); (case c1812 => k_asm); (case c1813 => k_in); (case c1814 => k_asm); (case c1815 => k_asm); (case c1816 => rfl); (case c1817 => exact ⟨pf.c1.k0, pf.c1.k1, pf.o0, pf.o1, pf.o2, pf.o3, pf.c1.l4⟩); (case c1818 => ktr_room); (case c1819 => ktr_units)
  intro _ _ _ _ _
  (with_reducible rename Fr _ _ _ _ => FF)
  (with_reducible rename News _ _ _ _ => NN)
  revert FF NN
  repeat ((with_reducible rename Fr _ _ _ _ => zz); clear zz)
  repeat ((with_reducible rename News _ _ _ _ => zz); clear zz)
  repeat ((with_reducible rename (_ ∧ _) => zz); clear zz)
  intro FF NN
  (try dsimp only)
  have hlo : (mailS (looseS r0) (looseS r1) (looseS r2) (looseS r3) T one).length ≤ 104 := mailS_len pf.o0 pf.o1 pf.o2 pf.o3 pf.c1.l4 one
  have hs3 := pf.s3
  have hs3a := pf.s3a
  revert hlo hs3 hs3a
  show ∀ (_ : (mailS (looseS r0) (looseS r1) (looseS r2) (looseS r3) T one).length ≤ 104) (_ : stripS (Str.ofString " " ++ mailS (looseS r0) (looseS r1) (looseS r2) (looseS r3) T one ++ Str.ofString " ") = _) (_ : (Str.ofString " " ++ mailS (looseS r0) (looseS r1) (looseS r2) (looseS r3) T one ++ Str.ofString " ").cps.all (· < 128) = true), wpAny _ _ _ _ _ _
  generalize mailS (looseS r0) (looseS r1) (looseS r2) (looseS r3) T one = lo
  intro hlo hs3 hs3a
  (try dsimp only)
  repeat' ((fail_if_success (with_reducible show wpAny _ _ (call (Value.ref _) _) _ _ _)); (fail_if_success (with_reducible show wpAny _ _ (eval (Expr.ListComp _ _ _ _) _) _ _ _)); first | (walk1; (try dsimp only)) | (dsimp only; walk1; (try dsimp only)))
  k_here
  refine' (strip_ctr _ _ _ _ _ _ _) _ _ _ _ _ _ _ _ _ _ _ _ _ _ ⟨_, _, _, _, _⟩ _ _ ?c2011 ?c2012 ?c2013 ?c2014 ?c2015 ?c2016 ?c2017 ?c2018 ?c2019 ?_; (case c2011 => k_asm); (case c2012 => k_asm); (case c2013 => k_in); (case c2014 => k_asm); (case c2015 => k_asm); (case c2016 => rfl); (case c2017 => (refine ⟨?_, hs3a⟩; have : (Str.ofString " ").length = 1 := rfl; omega)); (case c2018 => ktr_room); (case c2019 => ktr_units)
  intro _ _ _ _ _ _ _
  (with_reducible rename Fr _ _ _ _ => FF)
  (with_reducible rename News _ _ _ _ => NN)
  revert FF NN
  repeat ((with_reducible rename Fr _ _ _ _ => zz); clear zz)
  repeat ((with_reducible rename News _ _ _ _ => zz); clear zz)
  repeat ((with_reducible rename (_ ∧ _) => zz); clear zz)
  intro FF NN
  (try dsimp only)
  rw [hs3]
  clear hs3 hs3a hlo
  (with_reducible rename News _ _ _ _ => N9)
  have N := N9.tail'.tail'.tail'.tail'
  clear N9
  repeat' ((fail_if_success (with_reducible show wpAny _ _ (call (Value.ref _) _) _ _ _)); (fail_if_success (with_reducible show wpAny _ _ (eval (Expr.ListComp _ _ _ _) _) _ _ _)); first | (walk1; (try dsimp only)) | (dsimp only; walk1; (try dsimp only)))
  k_here
  refine' (left_at _ _ _ _ _ _ _ _ _ _ _ _ _ _ _ _ _ _ _ ?hm202) _ _ _ _ _ _ _ _ _ _ _ _ _ _ ⟨_, _, _, _, _⟩ _ _ ?c2031 ?c2032 ?c2033 ?c2034 ?c2035 ?c2036 ?c2037 ?c2038 ?c2039 ?_; (case c2031 => k_asm); (case c2032 => k_asm); (case c2033 => k_in); (case c2034 => k_asm); (case c2035 => k_asm); (case hm202 => k_mem); (case c2036 => rfl); (case c2037 => exact ⟨pf.c1.n0, pf.c1.n1, pf.c1.l0, pf.c1.l1, pf.c1.l2, pf.c1.l3, pf.c1.l4⟩); (case c2038 => ktr_room); (case c2039 => ktr_units)
  intro _ _ _ _ _
  (with_reducible rename Fr _ _ _ _ => FF)
  (with_reducible rename News _ _ _ _ => NN)
  revert FF NN
  repeat ((with_reducible rename Fr _ _ _ _ => zz); clear zz)
  repeat ((with_reducible rename News _ _ _ _ => zz); clear zz)
  repeat ((with_reducible rename (_ ∧ _) => zz); clear zz)
  intro FF NN
  (try dsimp only)
  have hlf : (leftS r0 r1 r2 r3 T n1).length ≤ 104 := leftS_len pf.c1.l0 pf.c1.l1 pf.c1.l2 pf.c1.l3 pf.c1.l4 n1
  repeat' ((fail_if_success (with_reducible show wpAny _ _ (call (Value.ref _) _) _ _ _)); (fail_if_success (with_reducible show wpAny _ _ (eval (Expr.ListComp _ _ _ _) _) _ _ _)); first | (walk1; (try dsimp only)) | (dsimp only; walk1; (try dsimp only)))
  all_goals try (exfalso; rename ((_ != _) = true) => hx; simp at hx; done)
  k_here
  refine' (quote_ctr _ _ _ _ _ _ _) _ _ _ _ _ _ _ _ _ _ _ _ _ _ ⟨_, _, _, _, _⟩ _ _ ?c2041 ?c2042 ?c2043 ?c2044 ?c2045 ?c2046 ?c2047 ?c2048 ?c2049 ?_; (case c2041 => k_asm); (case c2042 => k_asm); (case c2043 => k_in); (case c2044 => k_asm); (case c2045 => k_asm); (case c2046 => rfl); (case c2047 => exact ⟨Nat.le_trans pf.lm1 (by decide), pf.q1l⟩); (case c2048 => ktr_room); (case c2049 => ktr_units)
  intro _ _ _ _ _
  (with_reducible rename Fr _ _ _ _ => FF)
  (with_reducible rename News _ _ _ _ => NN)
  revert FF NN
  repeat ((with_reducible rename Fr _ _ _ _ => zz); clear zz)
  repeat ((with_reducible rename News _ _ _ _ => zz); clear zz)
  repeat ((with_reducible rename (_ ∧ _) => zz); clear zz)
  intro FF NN
  (try dsimp only)
  rw [pf.q1]
  repeat' ((fail_if_success (with_reducible show wpAny _ _ (call (Value.ref _) _) _ _ _)); (fail_if_success (with_reducible show wpAny _ _ (eval (Expr.ListComp _ _ _ _) _) _ _ _)); first | (walk1; (try dsimp only)) | (dsimp only; walk1; (try dsimp only)))
  (with_reducible rename Fr _ _ _ _ => F)
  refine comp_UF F (by with_unfolding_all rfl) (by decide) (by rfl) (by decide) (by rfl) ?_
  (try dsimp only)
  repeat' ((fail_if_success (with_reducible show ∃ _, _)); first | walk1 | (dsimp only; walk1))
  rename IsRange _ _ _ _ _ _ _ _ => R
  (with_reducible rename Fr _ _ _ _ => F)
  (with_reducible rename News _ _ _ _ => N)
  refine ⟨4, _, _, _, F, N, iter_range rfl R (by decide), by decide, trivial, fun g => rest_of (R := fun i v => ∃ t, v = .str (headS one i) t) trivial ?_ (fin_of ?_)⟩
  · clear F N
    intro i hi v I oI C oC D ys m₂ h tk E' hP hC hx F N
    obtain ⟨t9, rfl⟩ := hP
    (try dsimp only)
    repeat' ((fail_if_success (with_reducible show _ ∧ _)); first | (walk1; (try dsimp only)) | (dsimp only; walk1; (try dsimp only)))
    all_goals first
      | (have hb : bitI (one : Int) i ≠ 0 := by assumption
         exact ⟨⟨_, rfl⟩, _, congrArg (fun z => Value.str z _) (headS_pos hb)⟩)
      | (have hb : bitI (one : Int) i = 0 := by assumption
         exact ⟨⟨_, rfl⟩, _, congrArg (fun z => Value.str z _) (headS_neg hb)⟩)
  clear F N R
  intro ys D h tk hy F N hD
  obtain ⟨v0, v1, v2, v3, rfl, ⟨p0', z0⟩, ⟨p1', z1⟩, ⟨p2', z2⟩, ⟨p3', z3⟩⟩ := four hy
  replace z0 : v0 = .str (headS one 0) p0' := z0
  replace z1 : v1 = .str (headS one 1) p1' := z1
  replace z2 : v2 = .str (headS one 2) p2' := z2
  replace z3 : v3 = .str (headS one 3) p3' := z3
  subst z0 z1 z2 z3
  clear hy
  (try dsimp only)
  repeat' ((fail_if_success (with_reducible show wpAny _ _ (call (Value.ref _) _) _ _ _)); (fail_if_success (with_reducible show wpAny _ _ (eval (Expr.ListComp _ _ _ _) _) _ _ _)); first | (walk1; (try dsimp only)) | (dsimp only; walk1; (try dsimp only)))
  k_here
  refine' (mail_at _ _ _ _ _ _ _ _ _ _ _ _ _ _ _ _ _ _ _ ?hm301) _ _ _ _ _ _ _ _ _ _ _ _ _ _ ⟨_, _, _, _, _⟩ _ _ ?c3021 ?c3022 ?c3023 ?c3024 ?c3025 ?c3026 ?c3027 ?c3028 ?c3029 ?_; (case c3021 => k_asm); (case c3022 => k_asm); (case c3023 => k_in); (case c3024 => k_asm); (case c3025 => k_asm); (case hm301 => k_mem); (case c3026 => rfl); (case c3027 => exact ⟨pf.c1.k0, pf.c1.k1, pf.hl0, pf.hl1, pf.hl2, pf.hl3, pf.c1.l4⟩); (case c3028 => ktr_room); (case c3029 => ktr_units)
  intro _ _ _ _ _
  (with_reducible rename Fr _ _ _ _ => FF)
  (with_reducible rename News _ _ _ _ => NN)
  revert FF NN
  repeat ((with_reducible rename Fr _ _ _ _ => zz); clear zz)
  repeat ((with_reducible rename News _ _ _ _ => zz); clear zz)
  repeat ((with_reducible rename (_ ∧ _) => zz); clear zz)
  intro FF NN
  (try dsimp only)
  repeat' ((fail_if_success (with_reducible show wpAny _ _ (call (Value.ref _) _) _ _ _)); (fail_if_success (with_reducible show wpAny _ _ (eval (Expr.ListComp _ _ _ _) _) _ _ _)); (fail_if_success (with_reducible show wpAny _ _ (exec (Stmt.For _ _ _ _ _) _) _ _ _)); first | (walk1; (try dsimp only)) | (dsimp only; walk1; (try dsimp only)))
  all_goals try (exfalso; rename ((_ != _) = true) => hx; simp at hx; done)
  k_here
  refine' (strip_ctr _ _ _ _ _ _ _) _ _ _ _ _ _ _ _ _ _ _ _ _ _ ⟨_, _, _, _, _⟩ _ _ ?c3031 ?c3032 ?c3033 ?c3034 ?c3035 ?c3036 ?c3037 ?c3038 ?c3039 ?_; (case c3031 => k_asm); (case c3032 => k_asm); (case c3033 => k_in); (case c3034 => k_asm); (case c3035 => k_asm); (case c3036 => rfl); (case c3037 => exact ⟨Nat.le_trans (mailS_len pf.hl0 pf.hl1 pf.hl2 pf.hl3 pf.c1.l4 _) (by decide), pf.s4a⟩); (case c3038 => ktr_room); (case c3039 => ktr_units)
  intro _ _ _ _ _ _ _
  (with_reducible rename Fr _ _ _ _ => FF)
  (with_reducible rename News _ _ _ _ => NN)
  revert FF NN
  repeat ((with_reducible rename Fr _ _ _ _ => zz); clear zz)
  repeat ((with_reducible rename News _ _ _ _ => zz); clear zz)
  repeat ((with_reducible rename (_ ∧ _) => zz); clear zz)
  intro FF NN
  (try dsimp only)
  rw [pf.s4]
  have hlf2 : (leftS (headS one 0) (headS one 1) (headS one 2) (headS one 3) T n1).length ≤ 104 := leftS_len pf.hl0 pf.hl1 pf.hl2 pf.hl3 pf.c1.l4 n1
  repeat' ((fail_if_success (with_reducible show wpAny _ _ (call (Value.ref _) _) _ _ _)); (fail_if_success (with_reducible show wpAny _ _ (eval (Expr.ListComp _ _ _ _) _) _ _ _)); (fail_if_success (with_reducible show wpAny _ _ (exec (Stmt.For _ _ _ _ _) _) _ _ _)); first | (walk1; (try dsimp only)) | (dsimp only; walk1; (try dsimp only)))
  k_here
  refine' (left_at _ _ _ _ _ _ _ _ _ _ _ _ _ _ _ _ _ _ _ ?hm304) _ _ _ _ _ _ _ _ _ _ _ _ _ _ ⟨_, _, _, _, _⟩ _ _ ?c3051 ?c3052 ?c3053 ?c3054 ?c3055 ?c3056 ?c3057 ?c3058 ?c3059 ?_; (case c3051 => k_asm); (case c3052 => k_asm); (case c3053 => k_in); (case c3054 => k_asm); (case c3055 => k_asm); (case hm304 => k_mem); (case c3056 => rfl); (case c3057 => exact ⟨pf.c1.n0, pf.c1.n1, pf.hl0, pf.hl1, pf.hl2, pf.hl3, pf.c1.l4⟩); (case c3058 => ktr_room); (case c3059 => ktr_units)
  intro _ _ _ _ _
  (with_reducible rename Fr _ _ _ _ => FF)
  (with_reducible rename News _ _ _ _ => NN)
  revert FF NN
  repeat ((with_reducible rename Fr _ _ _ _ => zz); clear zz)
  repeat ((with_reducible rename News _ _ _ _ => zz); clear zz)
  repeat ((with_reducible rename (_ ∧ _) => zz); clear zz)
  intro FF NN
  (try dsimp only)
  repeat' ((fail_if_success (with_reducible show wpAny _ _ (call (Value.ref _) _) _ _ _)); (fail_if_success (with_reducible show wpAny _ _ (eval (Expr.ListComp _ _ _ _) _) _ _ _)); (fail_if_success (with_reducible show wpAny _ _ (exec (Stmt.For _ _ _ _ _) _) _ _ _)); first | (walk1; (try dsimp only)) | (dsimp only; walk1; (try dsimp only)))
  all_goals try (exfalso; rename ((_ != _) = true) => hx; simp at hx; done)
  k_here
  refine' (strip_ctr _ _ _ _ _ _ _) _ _ _ _ _ _ _ _ _ _ _ _ _ _ ⟨_, _, _, _, _⟩ _ _ ?c3061 ?c3062 ?c3063 ?c3064 ?c3065 ?c3066 ?c3067 ?c3068 ?c3069 ?_; (case c3061 => k_asm); (case c3062 => k_asm); (case c3063 => k_in); (case c3064 => k_asm); (case c3065 => k_asm); (case c3066 => rfl); (case c3067 => exact ⟨Nat.le_trans pf.lm1 (by decide), pf.c1.a1⟩); (case c3068 => ktr_room); (case c3069 => ktr_units)
  intro _ _ _ _ _ _ _
  (with_reducible rename Fr _ _ _ _ => FF)
  (with_reducible rename News _ _ _ _ => NN)
  revert FF NN
  repeat ((with_reducible rename Fr _ _ _ _ => zz); clear zz)
  repeat ((with_reducible rename News _ _ _ _ => zz); clear zz)
  repeat ((with_reducible rename (_ ∧ _) => zz); clear zz)
  intro FF NN
  (try dsimp only)
  rw [pf.c1.s1]
  repeat' ((fail_if_success (with_reducible show wpAny _ _ (call (Value.ref _) _) _ _ _)); (fail_if_success (with_reducible show wpAny _ _ (eval (Expr.ListComp _ _ _ _) _) _ _ _)); (fail_if_success (with_reducible show wpAny _ _ (exec (Stmt.For _ _ _ _ _) _) _ _ _)); first | (walk1; (try dsimp only)) | (dsimp only; walk1; (try dsimp only)))
  k_here
  refine' (quote_ctr _ _ _ _ _ _ _) _ _ _ _ _ _ _ _ _ _ _ _ _ _ ⟨_, _, _, _, _⟩ _ _ ?c3071 ?c3072 ?c3073 ?c3074 ?c3075 ?c3076 ?c3077 ?c3078 ?c3079 ?_; (case c3071 => k_asm); (case c3072 => k_asm); (case c3073 => k_in); (case c3074 => k_asm); (case c3075 => k_asm); (case c3076 => rfl); (case c3077 => exact ⟨Nat.le_trans hlf (by decide), pf.q3l⟩); (case c3078 => ktr_room); (case c3079 => ktr_units)
  intro _ _ _ _ _
  (with_reducible rename Fr _ _ _ _ => FF)
  (with_reducible rename News _ _ _ _ => NN)
  revert FF NN
  repeat ((with_reducible rename Fr _ _ _ _ => zz); clear zz)
  repeat ((with_reducible rename News _ _ _ _ => zz); clear zz)
  repeat ((with_reducible rename (_ ∧ _) => zz); clear zz)
  intro FF NN
  (try dsimp only)
  rw [pf.q3]
  repeat' ((fail_if_success (with_reducible show wpAny _ _ (call (Value.ref _) _) _ _ _)); (fail_if_success (with_reducible show wpAny _ _ (eval (Expr.ListComp _ _ _ _) _) _ _ _)); (fail_if_success (with_reducible show wpAny _ _ (exec (Stmt.For _ _ _ _ _) _) _ _ _)); first | (walk1; (try dsimp only)) | (dsimp only; walk1; (try dsimp only)))
  (with_reducible rename Fr _ _ _ _ => F)
  refine comp_UF F (by with_unfolding_all rfl) (by decide) (by rfl) (by decide) (by rfl) ?_
  (try dsimp only)
  repeat' ((fail_if_success (with_reducible show ∃ _, _)); first | walk1 | (dsimp only; walk1))
  (with_reducible rename Fr _ _ _ _ => F)
  (with_reducible rename News _ _ _ _ => N)
  refine ⟨_, _, fun _ => True, _, F, N, iter_str (x := Str.ofString "abcd") rfl (by decide +kernel), Nat.le_of_ble_eq_true rfl, trivial, fun g => rest_of (R := fun i v => ∃ t, v = .str (fixS i) t) trivial ?_ (fin_of ?_)⟩
  · clear F N
    intro i hi v I oI C oC D ys m₂ h tk E' hP hC hx F N
    obtain ⟨c, u, hc, rfl⟩ := hP
    have hi : i < 4 := hi
    obtain rfl | rfl | rfl | rfl : i = 0 ∨ i = 1 ∨ i = 2 ∨ i = 3 := by omega
    all_goals
      have hc2 := Option.some.inj (show some _ = some c from hc)
      subst hc2
      (try dsimp only)
      repeat' ((fail_if_success (with_reducible show _ ∧ _)); first | (walk1; (try dsimp only)) | (dsimp only; walk1; (try dsimp only)))
      exact ⟨⟨_, rfl⟩, _, rfl⟩
  clear F N
  intro ys D h tk hy F N hD
  obtain ⟨v0, v1, v2, v3, rfl, ⟨f0', z0⟩, ⟨f1', z1⟩, ⟨f2', z2⟩, ⟨f3', z3⟩⟩ := four hy
  replace z0 : v0 = .str (fixS 0) f0' := z0
  replace z1 : v1 = .str (fixS 1) f1' := z1
  replace z2 : v2 = .str (fixS 2) f2' := z2
  replace z3 : v3 = .str (fixS 3) f3' := z3
  subst z0 z1 z2 z3
  clear hy
  (try dsimp only)
  repeat' ((fail_if_success (with_reducible show wpAny _ _ (call (Value.ref _) _) _ _ _)); (fail_if_success (with_reducible show wpAny _ _ (eval (Expr.ListComp _ _ _ _) _) _ _ _)); (fail_if_success (with_reducible show wpAny _ _ (exec (Stmt.For _ _ _ _ _) _) _ _ _)); first | (walk1; (try dsimp only)) | (dsimp only; walk1; (try dsimp only)))
  k_here
  refine' (left_at _ _ _ _ _ _ _ _ _ _ _ _ _ _ _ _ _ _ _ ?hm401) _ _ _ _ _ _ _ _ _ _ _ _ _ _ ⟨_, _, _, _, _⟩ _ _ ?c4021 ?c4022 ?c4023 ?c4024 ?c4025 ?c4026 ?c4027 ?c4028 ?c4029 ?_; (case c4021 => k_asm); (case c4022 => k_asm); (case c4023 => k_in); (case c4024 => k_asm); (case c4025 => k_asm); (case hm401 => k_mem); (case c4026 => rfl); (case c4027 => exact ⟨pf.c1.n0, pf.c1.n1, pf.fx0, pf.fx1, pf.fx2, pf.fx3, pf.c1.l4⟩); (case c4028 => ktr_room); (case c4029 => ktr_units)
  intro _ _ _ _ _
  (with_reducible rename Fr _ _ _ _ => FF)
  (with_reducible rename News _ _ _ _ => NN)
  revert FF NN
  repeat ((with_reducible rename Fr _ _ _ _ => zz); clear zz)
  repeat ((with_reducible rename News _ _ _ _ => zz); clear zz)
  repeat ((with_reducible rename (_ ∧ _) => zz); clear zz)
  intro FF NN
  (try dsimp only)
  have hlf3 : (leftS (fixS 0) (fixS 1) (fixS 2) (fixS 3) T n1).length ≤ 104 := leftS_len pf.fx0 pf.fx1 pf.fx2 pf.fx3 pf.c1.l4 n1
  repeat' ((fail_if_success (with_reducible show wpAny _ _ (call (Value.ref _) _) _ _ _)); (fail_if_success (with_reducible show wpAny _ _ (eval (Expr.ListComp _ _ _ _) _) _ _ _)); (fail_if_success (with_reducible show wpAny _ _ (exec (Stmt.For _ _ _ _ _) _) _ _ _)); first | (walk1; (try dsimp only)) | (dsimp only; walk1; (try dsimp only)))
  all_goals try (exfalso; rename ((_ != _) = true) => hx; simp at hx; done)
  k_here
  refine' (many_ctr _ _ _ _ _ _ _) _ _ _ _ _ _ _ _ _ _ _ _ _ _ ⟨_, _, _, _, _⟩ _ _ ?c4031 ?c4032 ?c4033 ?c4034 ?c4035 ?c4036 ?c4037 ?c4038 ?c4039 ?_; (case c4031 => k_asm); (case c4032 => k_asm); (case c4033 => k_in); (case c4034 => k_asm); (case c4035 => k_asm); (case c4036 => rfl); (case c4037 => exact ⟨pf.c1.k0, pf.c1.k1⟩); (case c4038 => ktr_room); (case c4039 => ktr_units)
  intro _ _ _ _ _
  (with_reducible rename Fr _ _ _ _ => FF)
  (with_reducible rename News _ _ _ _ => NN)
  revert FF NN
  repeat ((with_reducible rename Fr _ _ _ _ => zz); clear zz)
  repeat ((with_reducible rename News _ _ _ _ => zz); clear zz)
  repeat ((with_reducible rename (_ ∧ _) => zz); clear zz)
  intro FF NN
  (try dsimp only)
  repeat' ((fail_if_success (with_reducible show wpAny _ _ (call (Value.ref _) _) _ _ _)); (fail_if_success (with_reducible show wpAny _ _ (eval (Expr.ListComp _ _ _ _) _) _ _ _)); (fail_if_success (with_reducible show wpAny _ _ (exec (Stmt.For _ _ _ _ _) _) _ _ _)); first | (walk1; (try dsimp only)) | (dsimp only; walk1; (try dsimp only)))
  (with_reducible rename Fr _ _ _ _ => F)
  rw [pf.etw] at F ⊢
  k_here
  refine' (lev_ctr _ _ _ _ _ _ _ _ tw _ _ _) _ _ _ _ _ _ _ _ _ _ _ _ _ _ ⟨_, _, _, _, _⟩ _ _ ?c4041 ?c4042 ?c4043 ?c4044 ?c4045 ?c4046 ?c4047 ?c4048 ?c4049 ?_; (case c4041 => k_asm); (case c4042 => k_asm); (case c4043 => k_in); (case c4044 => k_asm); (case c4045 => k_asm); (case c4046 => rfl); (case c4047 => exact ⟨pf.lm4, pf.lm5, pf.d2, by omega⟩); (case c4048 => ktr_room); (case c4049 => ktr_units)
  intro _ _ _ _ _
  (with_reducible rename Fr _ _ _ _ => FF)
  (with_reducible rename News _ _ _ _ => NN)
  revert FF NN
  repeat ((with_reducible rename Fr _ _ _ _ => zz); clear zz)
  repeat ((with_reducible rename News _ _ _ _ => zz); clear zz)
  repeat ((with_reducible rename (_ ∧ _) => zz); clear zz)
  intro FF NN
  (try dsimp only)
  repeat' ((fail_if_success (with_reducible show wpAny _ _ (call (Value.ref _) _) _ _ _)); (fail_if_success (with_reducible show wpAny _ _ (eval (Expr.ListComp _ _ _ _) _) _ _ _)); (fail_if_success (with_reducible show wpAny _ _ (exec (Stmt.For _ _ _ _ _) _) _ _ _)); first | (walk1; (try dsimp only)) | (dsimp only; walk1; (try dsimp only)))
  all_goals try (exfalso; omega)
  k_here
  refine' (quote_ctr _ _ _ _ _ _ _) _ _ _ _ _ _ _ _ _ _ _ _ _ _ ⟨_, _, _, _, _⟩ _ _ ?c4051 ?c4052 ?c4053 ?c4054 ?c4055 ?c4056 ?c4057 ?c4058 ?c4059 ?_; (case c4051 => k_asm); (case c4052 => k_asm); (case c4053 => k_in); (case c4054 => k_asm); (case c4055 => k_asm); (case c4056 => rfl); (case c4057 => exact ⟨Nat.le_trans (mailS_len pf.hl0 pf.hl1 pf.hl2 pf.hl3 pf.c1.l4 _) (by decide), pf.q4l⟩); (case c4058 => ktr_room); (case c4059 => ktr_units)
  intro _ _ _ _ _
  (with_reducible rename Fr _ _ _ _ => FF)
  (with_reducible rename News _ _ _ _ => NN)
  revert FF NN
  repeat ((with_reducible rename Fr _ _ _ _ => zz); clear zz)
  repeat ((with_reducible rename News _ _ _ _ => zz); clear zz)
  repeat ((with_reducible rename (_ ∧ _) => zz); clear zz)
  intro FF NN
  (try dsimp only)
  rw [pf.q4]
  repeat' ((fail_if_success (with_reducible show wpAny _ _ (call (Value.ref _) _) _ _ _)); (fail_if_success (with_reducible show wpAny _ _ (eval (Expr.ListComp _ _ _ _) _) _ _ _)); (fail_if_success (with_reducible show wpAny _ _ (exec (Stmt.For _ _ _ _ _) _) _ _ _)); first | (walk1; (try dsimp only)) | (dsimp only; walk1; (try dsimp only)))
  refine wpAny_For ?_
  (try dsimp only)
  repeat' ((fail_if_success (with_reducible show wpAny _ _ (pyIter _) _ _ _)); first | walk1 | (dsimp only; walk1))
  rename IsRange _ _ _ _ _ _ _ _ => R
  (with_reducible rename Fr _ _ _ _ => F)
  (with_reducible rename News _ _ _ _ => N)
  obtain ⟨mw, hmw, Fw⟩ := fr_name F
  clear F
  refine range_loop0 (s := ⟨_, _, _, _, _⟩) (n := 16) rfl rfl rfl R (by decide) Fw N (JM mw) (JM.start mw) ?_ ?_
  · clear Fw N R
    rintro j tj _ own h tk hj ⟨ov, rfl⟩ F N
    subst hmw
    dsimp only at F
    (try dsimp only)
    repeat' ((fail_if_success (with_reducible show wpAny _ _ (call (Value.ref _) _) _ _ _)); (fail_if_success (with_reducible show StEnd _ _ _ _ _ _ _ _)); first | (walk1; (try dsimp only)) | (dsimp only; walk1; (try dsimp only)))
    k_here
    refine' (mail_at _ _ _ _ _ _ _ _ _ _ _ _ _ _ _ _ _ _ _ ?hm601) _ _ _ _ _ _ _ _ _ _ _ _ _ _ ⟨_, _, _, _, _⟩ _ _ ?c6021 ?c6022 ?c6023 ?c6024 ?c6025 ?c6026 ?c6027 ?c6028 ?c6029 ?_; (case c6021 => k_asm); (case c6022 => k_asm); (case c6023 => k_in); (case c6024 => k_asm); (case c6025 => k_asm); (case hm601 => exact List.mem_append_right _ (by k_mem)); (case c6026 => rfl); (case c6027 => exact ⟨Int.natCast_nonneg _, by omega, pf.c1.l0, pf.c1.l1, pf.c1.l2, pf.c1.l3, pf.c1.l4⟩); (case c6028 => ktr_room); (case c6029 => ktr_units)
    intro _ _ _ _ _
    (try dsimp only)
    repeat' ((fail_if_success (with_reducible show wpAny _ _ (call (Value.ref _) _) _ _ _)); (fail_if_success (with_reducible show StEnd _ _ _ _ _ _ _ _)); first | (walk1; (try dsimp only)) | (dsimp only; walk1; (try dsimp only)))
    k_here
    refine' (quote_ctr _ _ _ _ _ _ _) _ _ _ _ _ _ _ _ _ _ _ _ _ _ ⟨_, _, _, _, _⟩ _ _ ?c6031 ?c6032 ?c6033 ?c6034 ?c6035 ?c6036 ?c6037 ?c6038 ?c6039 ?_; (case c6031 => k_asm); (case c6032 => k_asm); (case c6033 => k_in); (case c6034 => k_asm); (case c6035 => k_asm); (case c6036 => rfl); (case c6037 => exact pf.q5l j hj); (case c6038 => ktr_room); (case c6039 => ktr_units)
    intro _ _ _ _ _
    (try dsimp only)
    rw [pf.q5 j hj]
    repeat' ((fail_if_success (with_reducible show wpAny _ _ (call (Value.ref _) _) _ _ _)); (fail_if_success (with_reducible show StEnd _ _ _ _ _ _ _ _)); first | (walk1; (try dsimp only)) | (dsimp only; walk1; (try dsimp only)))
    k_here
    refine' (ell_ctr _ _ _ _ _ _ _ (elB one j) _ _) _ _ _ _ _ _ _ _ _ _ _ _ _ _ ⟨_, _, _, _, _⟩ _ _ ?c6041 ?c6042 ?c6043 ?c6044 ?c6045 ?c6046 ?c6047 ?c6048 ?c6049 ?_; (case c6041 => k_asm); (case c6042 => k_asm); (case c6043 => k_in); (case c6044 => k_asm); (case c6045 => k_asm); (case c6046 => rfl); (case c6047 => exact pf.el j hj); (case c6048 => ktr_room); (case c6049 => ktr_units)
    intro _ _ _ _ _
    (try dsimp only)
    repeat' ((fail_if_success (with_reducible show wpAny _ _ (call (Value.ref _) _) _ _ _)); (fail_if_success (with_reducible show StEnd _ _ _ _ _ _ _ _)); first | (walk1; (try dsimp only)) | (dsimp only; walk1; (try dsimp only)))
    · exfalso
      rename ((_ != _) = true) => hx
      unfold elB at hx
      simp at hx
    · exact StEnd.intro (by k_asm) (by k_asm) JM.next
  intro h' tk' _ F N ⟨ov, hov⟩
  subst hov
  rw [hmw] at F
  clear Fw hmw R
  (try dsimp only)
  dsimp only at F
  have hsl : (mailS (headS one 0) (headS one 1) (headS one 2) (headS one 3) T one).length ≤ 104 := mailS_len pf.hl0 pf.hl1 pf.hl2 pf.hl3 pf.c1.l4 one
  repeat' ((fail_if_success (with_reducible show wpAny _ _ (call (Value.ref _) _) _ _ _)); first | (walk1; (try dsimp only)) | (dsimp only; walk1; (try dsimp only)))
  k_here
  refine' (ell_ctr _ _ _ _ _ _ _ false _ _) _ _ _ _ _ _ _ _ _ _ _ _ _ _ ⟨_, _, _, _, _⟩ _ _ ?c6051 ?c6052 ?c6053 ?c6054 ?c6055 ?c6056 ?c6057 ?c6058 ?c6059 ?_; (case c6051 => k_asm); (case c6052 => k_asm); (case c6053 => k_in); (case c6054 => k_asm); (case c6055 => k_asm); (case c6056 => rfl); (case c6057 => exact pf.el2); (case c6058 => ktr_room); (case c6059 => ktr_units)
  intro _ _ _ _ _
  (with_reducible rename Fr _ _ _ _ => FF)
  (with_reducible rename News _ _ _ _ => NN)
  revert FF NN
  repeat ((with_reducible rename Fr _ _ _ _ => zz); clear zz)
  repeat ((with_reducible rename News _ _ _ _ => zz); clear zz)
  repeat ((with_reducible rename (_ ∧ _) => zz); clear zz)
  intro FF NN
  (try dsimp only)
  repeat' ((fail_if_success (with_reducible show wpAny _ _ (call (Value.ref _) _) _ _ _)); first | (walk1; (try dsimp only)) | (dsimp only; walk1; (try dsimp only)))
  all_goals try (exfalso; rename ((_ != _) = true) => hx; simp at hx; done)
  k_here
  refine' (ell_ctr _ _ _ _ _ _ _ (decide ((one : Int) < 8)) _ _) _ _ _ _ _ _ _ _ _ _ _ _ _ _ ⟨_, _, _, _, _⟩ _ _ ?c7011 ?c7012 ?c7013 ?c7014 ?c7015 ?c7016 ?c7017 ?c7018 ?c7019 ?_; (case c7011 => k_asm); (case c7012 => k_asm); (case c7013 => k_in); (case c7014 => k_asm); (case c7015 => k_asm); (case c7016 => rfl); (case c7017 => exact pf.el3); (case c7018 => ktr_room); (case c7019 => ktr_units)
  intro _ _ _ _ _
  (with_reducible rename Fr _ _ _ _ => FF)
  (with_reducible rename News _ _ _ _ => NN)
  revert FF NN
  repeat ((with_reducible rename Fr _ _ _ _ => zz); clear zz)
  repeat ((with_reducible rename News _ _ _ _ => zz); clear zz)
  repeat ((with_reducible rename (_ ∧ _) => zz); clear zz)
  intro FF NN
  (try dsimp only)
  repeat' ((fail_if_success (with_reducible show wpAny _ _ (call (Value.ref _) _) _ _ _)); first | (walk1; (try dsimp only)) | (dsimp only; walk1; (try dsimp only)))
  all_goals try (exfalso; rename ((_ != _) = true) => hx; simp at hx; done)
  rw [pf.exo]
  k_here
  refine' (many_ctr _ _ _ _ _ _ _) _ _ _ _ _ _ _ _ _ _ _ _ _ _ ⟨_, _, _, _, _⟩ _ _ ?c7021 ?c7022 ?c7023 ?c7024 ?c7025 ?c7026 ?c7027 ?c7028 ?c7029 ?_; (case c7021 => k_asm); (case c7022 => k_asm); (case c7023 => k_in); (case c7024 => k_asm); (case c7025 => k_asm); (case c7026 => rfl); (case c7027 => (have := pf.xo1; exact ⟨Int.natCast_nonneg _, by omega⟩)); (case c7028 => ktr_room); (case c7029 => ktr_units)
  intro _ _ _ _ _
  (with_reducible rename Fr _ _ _ _ => FF)
  (with_reducible rename News _ _ _ _ => NN)
  revert FF NN
  repeat ((with_reducible rename Fr _ _ _ _ => zz); clear zz)
  repeat ((with_reducible rename News _ _ _ _ => zz); clear zz)
  repeat ((with_reducible rename (_ ∧ _) => zz); clear zz)
  intro FF NN
  (try dsimp only)
  repeat' ((fail_if_success (with_reducible show wpAny _ _ (call (Value.ref _) _) _ _ _)); first | (walk1; (try dsimp only)) | (dsimp only; walk1; (try dsimp only)))
  (with_reducible rename Fr _ _ _ _ => F)
  rw [pf.eap] at F
  k_here
  refine' (mail_at _ _ _ _ _ _ _ _ _ _ _ _ _ _ _ _ _ _ _ ?hm703) _ _ _ _ _ _ _ _ _ _ _ _ _ _ ⟨_, _, _, _, _⟩ _ _ ?c7041 ?c7042 ?c7043 ?c7044 ?c7045 ?c7046 ?c7047 ?c7048 ?c7049 ?_; (case c7041 => k_asm); (case c7042 => k_asm); (case c7043 => k_in); (case c7044 => k_asm); (case c7045 => k_asm); (case hm703 => k_mem); (case c7046 => rfl); (case c7047 => exact ⟨pf.c2.k0, pf.c2.k1, pf.c1.l0, pf.c1.l1, pf.c1.l2, pf.c1.l3, pf.c1.l4⟩); (case c7048 => ktr_room); (case c7049 => ktr_units)
  intro _ _ _ _ _
  (with_reducible rename Fr _ _ _ _ => FF)
  (with_reducible rename News _ _ _ _ => NN)
  revert FF NN
  repeat ((with_reducible rename Fr _ _ _ _ => zz); clear zz)
  repeat ((with_reducible rename News _ _ _ _ => zz); clear zz)
  repeat ((with_reducible rename (_ ∧ _) => zz); clear zz)
  intro FF NN
  (try dsimp only)
  repeat' ((fail_if_success (with_reducible show wpAny _ _ (call (Value.ref _) _) _ _ _)); first | (walk1; (try dsimp only)) | (dsimp only; walk1; (try dsimp only)))
  k_here
  refine' (lev_ctr _ _ _ _ _ _ _ _ ap _ _ _) _ _ _ _ _ _ _ _ _ _ _ _ _ _ ⟨_, _, _, _, _⟩ _ _ ?c7051 ?c7052 ?c7053 ?c7054 ?c7055 ?c7056 ?c7057 ?c7058 ?c7059 ?_; (case c7051 => k_asm); (case c7052 => k_asm); (case c7053 => k_in); (case c7054 => k_asm); (case c7055 => k_asm); (case c7056 => rfl); (case c7057 => exact ⟨pf.lm1, pf.lm2, pf.d3, by omega⟩); (case c7058 => ktr_room); (case c7059 => ktr_units)
  intro _ _ _ _ _
  (with_reducible rename Fr _ _ _ _ => FF)
  (with_reducible rename News _ _ _ _ => NN)
  revert FF NN
  repeat ((with_reducible rename Fr _ _ _ _ => zz); clear zz)
  repeat ((with_reducible rename News _ _ _ _ => zz); clear zz)
  repeat ((with_reducible rename (_ ∧ _) => zz); clear zz)
  intro FF NN
  (try dsimp only)
  repeat' ((fail_if_success (with_reducible show wpAny _ _ (call (Value.ref _) _) _ _ _)); first | (walk1; (try dsimp only)) | (dsimp only; walk1; (try dsimp only)))
  (with_reducible rename Fr _ _ _ _ => FZ)
  rename (Shared.gens _ = #[]) => hgz
  rw [beq_self_eq_true]
  have A0 := AllBare.of_eq hgz
  refine good_law FZ.keep rfl (GExt.bare (by assumption) (GExt.bare (by assumption) (GExt.bare (by assumption) (GExt.bare (by assumption) (GExt.bare (by assumption) (GExt.bare (by assumption) A0))))))
end Mine

theorem PySem.Challenge.cw_uc0009_01_holds : PySem.Challenge.rw_uc0009_01.Holds := by
  exact Mine.law_holds
