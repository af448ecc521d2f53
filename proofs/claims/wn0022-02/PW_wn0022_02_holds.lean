import PyProof.Rows.All
import Wide.All
import OpenK.AllK
import Wide.FinOn
import PySem.Challenge.RW_wn0022_02
open PySem PySem.W PyProof.Rows
set_option Elab.async false
namespace Mine
set_option maxRecDepth 100000 in
set_option maxHeartbeats 8000000 in
open_top hd2 for PySem.Challenge.rw_wn0022_02
end Mine
set_option maxRecDepth 100000
namespace Mine
open PySem
/-- where the defs stand among the rows of this statement's text -/
def stmtAt (i : Nat) : Stmt := PySem.Challenge.pw_wn0022_02.main.body.getD i (.Pass default)
def atIter : Nat := 3
def atStrip : Nat := 4
def atCheck : Nat := 5
def atInt : Nat := 1
def defBody : Stmt → List Stmt
  | .FunctionDef _ _ b _ _ _ _ _ _ _ => b
  | _ => []
def defArgs : Stmt → Arguments
  | .FunctionDef _ a _ _ _ _ _ _ _ _ => a
  | _ => default
def defScope : Stmt → Scope
  | .FunctionDef _ _ _ _ _ _ sc _ _ _ => sc
  | _ => default
def forBody : Stmt → List Stmt
  | .For _ _ b _ _ => b
  | _ => []
def forTgt : Stmt → Expr
  | .For t _ _ _ _ => t
  | _ => .Constant .none 0 default
def nthS (l : List Stmt) (i : Nat) : Stmt := l.getD i (.Pass default)
end Mine
namespace Mine
open PySem

/-- the pairs that the escape scan hands out: reading from place i on, b = a backslash stands open -/
def escGo : List Nat → Nat → Bool → List (Nat × Str)
  | [], i, true => [(i - 1, ⟨#[92]⟩)]
  | [], _, false => []
  | c :: r, i, true => (i, ⟨#[92, c]⟩) :: escGo r (i + 1) false
  | c :: r, i, false => if c = 92 then escGo r (i + 1) true else (i, ⟨#[c]⟩) :: escGo r (i + 1) false

/-- the generator's doings since s₀: what is older than its frame stands as it stood (and its own object, laid right behind that frame) -/
def Since (C : Addr) (s₀ s : Shared) : Prop :=
  ∃ h' tk, s = { s₀ with heap := h', toks := tk } ∧ ∀ b o, b ≠ C → b < C + 2 → s₀.heap.get? b = some o → h'.get? b = some o
theorem Since.refl (C : Addr) (s : Shared) : Since C s s := ⟨s.heap, s.toks, rfl, fun _ _ _ _ e => e⟩
theorem Since.step {C : Addr} {s₀ s : Shared} (x : Since C s₀ s) {h' : Heap} {tk : Nat} (hk : ∀ b o, b ≠ C → b < C + 2 → s.heap.get? b = some o → h'.get? b = some o) :
    Since C s₀ { s with heap := h', toks := tk } := by
  obtain ⟨h₁, tk₁, rfl, hk₁⟩ := x
  exact ⟨h', tk, rfl, fun b o hC h2 e => hk b o hC h2 (hk₁ b o hC h2 e)⟩

/-- what the reader may do between two turns: it leaves alone what is not older than the generator's frame, and the base -/
def Agree (C : Addr) (base : Heap) (s s' : Shared) : Prop :=
  (∀ b o, C ≤ b → s.heap.get? b = some o → s'.heap.get? b = some o) ∧ ∀ b o, base.get? b = some o → s'.heap.get? b = some o

def TupAt (h : Heap) (T : Addr) (p : Nat × Str) : Prop := ∃ t u, h.IsTuple T #[.int p.1 t, .str p.2 u]

def escProto (C : Addr) (base : Heap) (toks : List (Nat × Str)) : Protocol := fun m s₀ v s kap =>
  ∃ T p, toks[toks.length - 1 - m]? = some p ∧ v = .ref T ∧ TupAt s.heap T p ∧ C ≤ T ∧ Since C s₀ s ∧
    ∀ s'', Agree C base s s'' → kap (.send .none) s''

def escEnd (C : Addr) : GenEnd := fun n s₀ r s₁ => r = .ok (.ret .none) ∧ n = 0 ∧ Since C s₀ s₁

section
variable {M : Model} {A : Around} {R : GenEnd} {Y : Protocol} {n : Nat} {s₀ : Shared} {c : Code} {fs : List Frame} {s : Shared} {env : Env}
  {K : Flow → Sem Fin} {H : Value → Sem Fin} {gd : Bool → Bool} {lv : List Value → List Value}

theorem seg_If {test : Expr} {body orelse : List Stmt} {pos : Pos}
    (h : wpAny M (A.over c fs) (isTrue test env (eval test env)) (fun b s' => if b = true then Seg M A R Y n s₀ c ((execs body env).wrap K H gd lv) fs s' else Seg M A R Y n s₀ c ((execs orelse env).wrap K H gd lv) fs s')
      (fun x s' => Seg M A R Y n s₀ c (H x) fs s') s) : Seg M A R Y n s₀ c ((exec (.If test body orelse pos) env).wrap K H gd lv) fs s := by
  rw [exec_If]
  refine seg_bind_wrap (wpAny_standAt (seg_bind_wrap (wpAny_mono h (fun b s' hb => ?_) fun _ _ x => x)))
  cases b with
  | true => simpa using hb
  | false => simpa using hb

/-- a plain statement -/
theorem seg_plain {st : Stmt} (h : wpAny M (A.over c fs) (exec st env) (fun f s' => Seg M A R Y n s₀ c (K f) fs s') (fun x s' => Seg M A R Y n s₀ c (H x) fs s') s) :
    Seg M A R Y n s₀ c ((exec st env).wrap K H gd lv) fs s := seg_wrap h

theorem seg_For {target iter : Expr} {body orelse : List Stmt} {pos : Pos}
    (h : wpAny M (A.over c fs) (eval iter env) (fun x s₁ => wpAny M (A.over c fs) (pyIter x) (fun it s₂ =>
        ∀ p, Seg M A R Y n s₀ (.forLoop target it body orelse env) (M.den (.forLoop target it body orelse env))
          (.ret (fun r => ((match r with | .ok f => (.pure f : Sem Flow) | .error e => .raise e).onRaise fun (x : Value) => do
            if (← field x 1) == Value.none then unsupported "frame.own-activation:exception-without-traceback"
            setFlight x env.frame).wrap K H gd lv) none (gd false) (lv []) c p [] :: fs) s₂)
        (fun x s' => Seg M A R Y n s₀ c (H x) fs s') s₁) (fun x s' => Seg M A R Y n s₀ c (H x) fs s') s)
    (hs : ∀ x, foldedSetIterable iter env x = pure x := by intro _; rfl) :
    Seg M A R Y n s₀ c ((exec (.For target iter body orelse pos) env).wrap K H gd lv) fs s := by
  rw [exec_For]
  refine seg_bind_wrap (wpAny_standAt (seg_bind_wrap (wpAny_mono h (fun x s₁ h₁ => ?_) fun _ _ e => e)))
  refine seg_bind_wrap (wpAny_of_eq (hs x) ?_)
  refine seg_bind_wrap (wpAny_standAt (seg_bind_wrap (wpAny_holding (wpAny_mono h₁ (fun it s₂ h₂ => ?_) fun _ _ e => e))))
  exact seg_call h₂
end

end Mine
namespace Mine
open PySem

def escFor : Stmt := nthS (defBody (stmtAt atIter)) 2

section
variable {prog : Program} {w : World} {A : Around} {E : Value → Shared → Prop} {s : Shared} {cenv : Env} {m : Str → Option Value}

theorem nm {x : Str} {pos : Pos} {v : Value} {Q : Value → Shared → Prop} (hk : cenv.scope.kind = .function) (hl : cenv.kindOf x = some .local) (hn : s.heap.Ns cenv.locals m) (hv : m x = some v) (h : Q v s)
    (hd : (x == ("__debug__" : Str)) = false := by decide) : wpAny (model prog w) A (eval (.Name x pos) cenv) Q E s :=
  wpAny_Name (wpAny_loadName_local hk hl hn hv h) hd

theorem nmTrue {x : Str} {pos : Pos} {b : Bool} {Q : Bool → Shared → Prop} (hk : cenv.scope.kind = .function) (hl : cenv.kindOf x = some .local) (hn : s.heap.Ns cenv.locals m) (hv : m x = some (.bool b)) (h : Q b s)
    (hd : (x == ("__debug__" : Str)) = false := by decide) : wpAny (model prog w) A (isTrue (.Name x pos) cenv (eval (.Name x pos) cenv)) Q E s :=
  isTrue_plain (nm hk hl hn hv (wpAny_truthy_bool h) hd)

theorem plainScope (hk : cenv.scope.kind = .function) : (cenv.scope.kind == .class || (cenv.scope.kind == .module && cenv.locals != cenv.globals)) = false := by rw [hk]; rfl

theorem setBool {x : Str} {p q r : Pos} {b : Bool} {Q : Flow → Shared → Prop} (hk : cenv.scope.kind = .function) (hl : cenv.kindOf x = some .local) (hn : s.heap.Ns cenv.locals m)
    (h : ∀ h', h'.Ns cenv.locals (fun y => if y = x then some (.bool b) else m y) → Heap.SameBut cenv.locals s.heap h' → Q .next { s with heap := h', toks := s.toks + 1 }) :
    wpAny (model prog w) A (exec (.Assign [.Name x p] (.Constant (.bool b) 0 q) r) cenv) Q E s :=
  wpAny_Assign_Name (show wpAny _ _ (pure (Value.bool b)) _ _ s from wpAny_pure (wpAny_storeName_local hl hn (fun h' hn' hs' => h h' hn' hs') (plainScope hk)))

/-- the pair that is handed out, laid down as a tuple -/
theorem pairOf {e1 e2 : Expr} {k : Nat} {pos : Pos} {Q : Value → Shared → Prop}
    (h : wpAny (model prog w) A (eval e1 cenv) (fun v1 s1 => wpAny (model prog w) A (eval e2 cenv) (fun v2 s2 =>
      Q (.ref s2.heap.objs.size) { s2 with heap := s2.heap.push { cls := .type "tuple", data := .seq #[v1, v2] } }) E s1) E s)
    (h1 : starEach [e1, e2] cenv = [(false, eval e1 cenv), (false, eval e2 cenv)] := by rfl) :
    wpAny (model prog w) A (eval (.Tuple [e1, e2] k pos) cenv) Q E s := by
  refine wpAny_Tuple_spliced ?_
  rw [h1]
  refine Calls.spliced_cons (wpAny_mono h (fun v1 s1 hh => ?_) fun _ _ e => e)
  refine Calls.spliced_cons (wpAny_mono hh (fun v2 s2 hh2 => ?_) fun _ _ e => e)
  exact Calls.spliced_nil ⟨by show 2 ≤ sizeLine; decide, hh2⟩

theorem litStr {x : Str} {k : Nat} {pos : Pos} {Q : Value → Shared → Prop} (h : Q (.str x s.toks) { s with toks := s.toks + 1 }) :
    wpAny (model prog w) A (eval (.Constant (.str x) k pos) cenv) Q E s := Calls.Constant_str h
end

theorem tupNew {h : Heap} {i : Nat} {t u : Tok} {x : Str} :
    TupAt (h.push { cls := .type "tuple", data := .seq #[.int i t, .str x u] }) h.objs.size (i, x) :=
  ⟨t, u, _, Heap.get?_push_size _ rfl, rfl, _, rfl⟩

theorem getAbove (h : Heap) : h.get? h.objs.size = none := by
  cases e : h.get? h.objs.size with
  | none => rfl
  | some o => exact absurd (Heap.lt_size e) (Nat.lt_irrefl _)

section
variable {prog : Program} {w : World} {A : Around}

abbrev EnumPt (x : Str) : Nat → Array Value → Prop := fun i vals => ∃ t v, (∃ c u, x.cps[i]? = some c ∧ v = .str ⟨#[c]⟩ u) ∧ vals = #[.int i t, v]

theorem n1 : ¬ (Str.ofString "escape" = Str.ofString "ch") := by decide
theorem n2 : ¬ (Str.ofString "escape" = Str.ofString "pos") := by decide
theorem n3 : ¬ (Str.ofString "pos" = Str.ofString "ch") := by decide
theorem n4 : ¬ (Str.ofString "pos" = Str.ofString "escape") := by decide
theorem n5 : ¬ (Str.ofString "ch" = Str.ofString "escape") := by decide
theorem n6 : ¬ (Str.ofString "ch" = Str.ofString "pos") := by decide

theorem atPlace {toks pre rest : List (Nat × Str)} {p : Nat × Str} (h : toks = pre ++ p :: rest) : toks[toks.length - 1 - rest.length]? = some p := by
  subst h
  have : (pre ++ p :: rest).length - 1 - rest.length = pre.length := by simp
  rw [this]; simp

theorem oneSign {c d : Nat} {x : Str} (h : x = ⟨#[d]⟩) : ((⟨#[c]⟩ : Str) == x) = decide (c = d) := by
  subst h
  by_cases e : c = d
  · subst e; simp
  · have : ¬ ((⟨#[c]⟩ : Str) = ⟨#[d]⟩) := fun h => e (by simpa using h)
    simp [e, this]

structure EscKinds (cenv : Env) : Prop where
  kind : cenv.scope.kind = .function
  co : cenv.scope.isCoroutine = false
  pos : cenv.kindOf "pos" = some .local
  ch : cenv.kindOf "ch" = some .local
  escape : cenv.kindOf "escape" = some .local
  inter : interactive cenv = false

theorem seg_escLoop {e : Addr} {fp wr : List Addr} {St : Nat → Heap → Prop} {Mid : Nat → Addr → Heap → Prop} {x : Str} {cenv : Env} {base : Heap} {toks : List (Nat × Str)} {fs : List Frame}
    (W : ∀ A' : Around, A'.handled = none → WalksT prog w A' e fp wr x.cps.size (EnumPt x) St Mid) (hfp : ∀ b ∈ fp, cenv.locals + 1 < b)
    (k : EscKinds cenv) (hfs : splitAtGen fs = none) (hfg : fs.any Frame.guarded = false) (hA : ∀ c, (A.over c fs).handled = none)
    (hend : ∀ (b : Bool) (pre : List (Nat × Str)) (s₀ s : Shared) (m : Str → Option Value) (tk : Tok) (c : Code), s.heap.Ns cenv.locals m → m "escape" = some (.bool b) → m "pos" = some (.int (x.cps.size - 1 : Nat) tk) → Since cenv.locals s₀ s →
      toks = pre ++ escGo [] x.cps.size b → Seg (model prog w) A (escEnd cenv.locals) (escProto cenv.locals base toks) (escGo [] x.cps.size b).length s₀ c (.pure (.done .next)) fs s) :
    ∀ (r : List Nat) (i : Nat) (b : Bool) (pre : List (Nat × Str)) (s₀ s : Shared) (m : Str → Option Value) (tk : Tok), x.cps.toList.drop i = r → i ≤ x.cps.size → toks = pre ++ escGo r i b →
      St i s.heap → s.heap.Ns cenv.locals m → m "escape" = some (.bool b) → m "pos" = some (.int (i - 1 : Nat) tk) → Since cenv.locals s₀ s →
      Seg (model prog w) A (escEnd cenv.locals) (escProto cenv.locals base toks) (escGo r i b).length s₀
        (.forLoop (forTgt escFor) (.ref e) (forBody escFor) [] cenv)
        ((model prog w).den (.forLoop (forTgt escFor) (.ref e) (forBody escFor) [] cenv)) fs s := by
  have hwr : ∀ b ∈ wr, cenv.locals + 1 < b := fun b hb => hfp b ((W (A.over (.block [] cenv) fs) (hA _)).sub b hb)
  have hCw : cenv.locals ∉ wr := fun h => Nat.lt_irrefl _ (Nat.lt_of_succ_lt (hwr _ h))
  have hlow : ∀ b, b < cenv.locals + 2 → b ∉ wr := fun b hb h => Nat.lt_irrefl _ (Nat.lt_of_lt_of_le hb (hwr b h))
  have hfp' : ∀ b ∈ fp, cenv.locals < b := fun b hb => Nat.lt_of_succ_lt (hfp b hb)
  intro r
  induction r with
  | nil =>
    intro i b pre s₀ s m tk hr hi htoks hst hn hesc hpos hsince
    have hin : i = x.cps.size := by
      have := congrArg List.length hr
      simp at this; omega
    subst hin
    show Seg _ A _ _ _ s₀ _ ((forTurn _ (.ref e) _ [] cenv).onRaise _) fs s
    simp only [forTurn]
    rw [Sem.onRaise_eq_wrap]
    refine seg_bind_wrap (wpAny_standAt ?_)
    refine seg_bind_wrap (wpAny_onRaise ((W _ (hA _)).done s _ _ hst fun h' tk' hk' => ?_))
    refine seg_again rfl ?_
    exact hend b pre s₀ _ m tk _ (hn.at' fun o x => hk' _ o hCw x) hesc hpos (hsince.step fun b' o _ hb e => hk' b' o (hlow b' hb) e) htoks
  | cons c r ih =>
    intro i b pre s₀ s m tk hr hi htoks hst hn hesc hpos hsince
    have hlt : i < x.cps.size := by
      have := congrArg List.length hr
      simp at this; omega
    have hc : x.cps[i]? = some c := by
      have h1 := congrArg (·[0]?) hr
      simpa using h1
    have hr' : x.cps.toList.drop (i + 1) = r := by
      have h1 := congrArg List.tail hr
      simpa using h1
    show Seg _ A _ _ _ s₀ _ ((forTurn _ (.ref e) _ [] cenv).onRaise _) fs s
    simp only [forTurn]
    rw [Sem.onRaise_eq_wrap]
    refine seg_bind_wrap (wpAny_standAt ?_)
    refine seg_bind_wrap (wpAny_onRaise ((W _ (hA _)).item i s _ _ hlt hst fun T vals h₁ tk₁ hPt hT hTt hMid hk₁ => ?_))
    obtain ⟨tp, v, ⟨c', u, hc', rfl⟩, rfl⟩ := hPt
    rw [hc] at hc'; cases hc'
    refine seg_bind_wrap ((W _ (hA _)).go _ _ _ i T _ _ _ hMid fun h₂ hst₂ hk₂ => ?_)
    have hTw : T ∉ wr := (W _ (hA (.block [] cenv))).apart i T _ hMid
    have ht₂ : h₂.IsTuple T #[.int i tp, .str ⟨#[c]⟩ u] := by
      obtain ⟨o, ho, r⟩ := hTt
      exact ⟨o, hk₂ T o hTw ho, r⟩
    refine seg_bind_wrap (wpAny_assign_Tuple (hA _) ht₂ rfl rfl fun h₃ hx₃ => ?_)
    replace hx₃ : Heap.ExtBut h₂.objs.size h₂ h₃ := hx₃
    have up₃ : ∀ b o, b ∉ wr → s.heap.get? b = some o → h₃.get? b = some o := fun b o hb e => by
      have e2 := hk₂ b o hb (hk₁ b o hb e)
      exact hx₃ b o (Nat.ne_of_lt (Heap.lt_size e2)) e2
    have hn₃ : h₃.Ns cenv.locals m := hn.at' fun o e => up₃ _ o hCw e
    show wpAny _ _ (do holding [.str ⟨#[c]⟩ u] (assign (.Name "pos" _) cenv (.int i tp)); do holding [] (assign (.Name "ch" _) cenv (.str ⟨#[c]⟩ u)); pure ()) _ _ _
    refine wpAny_bind (wpAny_holding (wpAny_assign_Name (wpAny_storeName_local k.pos hn₃ (fun h₄ hn₄ hs₄ => ?_) (plainScope k.kind))))
    replace hs₄ : Heap.SameBut cenv.locals h₃ h₄ := hs₄
    refine wpAny_bind (wpAny_holding (wpAny_assign_Name (wpAny_storeName_local k.ch hn₄ (fun h₅ hn₅ hs₅ => wpAny_pure ?_) (plainScope k.kind))))
    replace hs₅ : Heap.SameBut cenv.locals h₄ h₅ := hs₅
    have up₅ : ∀ b o, b ≠ cenv.locals → h₂.get? b = some o → h₅.get? b = some o := fun b o hb e =>
      hs₅.extBut b o hb (hs₄.extBut b o hb (hx₃ b o (Nat.ne_of_lt (Heap.lt_size e)) e))
    have hst₅ : St (i + 1) h₅ := (W _ (hA (.block [] cenv))).frame _ _ _ hst₂ fun b hb o e => up₅ b o (Nat.ne_of_gt (hfp' b hb)) e
    have hsince₅ : ∀ {tk'}, Since cenv.locals s₀ { s with heap := h₅, toks := tk' } := hsince.step fun b o hne hb e => up₅ b o hne (hk₂ b o (hlow b hb) (hk₁ b o (hlow b hb) e))
    rw [Sem.bind_eq_wrap', Sem.wrap_wrap]
    refine seg_execs_cons (seg_If (nmTrue k.kind k.escape hn₅ (b := b) (by simp [n1, n2, hesc]) ?_))
    have hposT : (fun y => if y = Str.ofString "ch" then some (.str ⟨#[c]⟩ u) else if y = Str.ofString "pos" then some (.int i tp) else m y) (Str.ofString "pos") = some (Value.int ((i + 1 - 1 : Nat) : Int) tp) := by
      simp [n3]
    cases b with
    | true =>
      rw [if_pos rfl]
      have e1 : escGo (c :: r) i true = (i, ⟨#[92, c]⟩) :: escGo r (i + 1) false := rfl
      rw [e1] at htoks ⊢
      rw [List.length_cons]
      refine seg_execs_cons (seg_Expr_Yield hfs rfl hfg (pairOf (nm k.kind k.pos hn₅ (v := .int i tp) (by simp [n3]) (wpAny_BinOp (litStr (nm k.kind k.ch (m := fun y => if y = Str.ofString "ch" then some (.str ⟨#[c]⟩ u) else if y = Str.ofString "pos" then some (.int i tp) else m y) hn₅ (v := .str ⟨#[c]⟩ u) (by simp)
        (add_str (fun t' tk' => ?_) (by show 1 + 1 ≤ sizeLine; decide))))))) k.co k.inter)
      intro kap hkap
      refine ⟨_, (i, ⟨#[92, c]⟩), atPlace htoks, rfl, tupNew, Nat.le_of_lt hn₅.lt, hsince.step fun b o hne hb e => Heap.get?_push_of_some _ (up₅ b o hne (hk₂ b o (hlow b hb) (hk₁ b o (hlow b hb) e))), fun s'' hag => hkap _ _ ?_⟩
      have hn₆ := hn₅.at' (h' := s''.heap) fun o e => hag.1 _ o (Nat.le_refl _) (Heap.get?_push_of_some _ e)
      have hst₆ : St (i + 1) s''.heap := (W _ (hA (.block [] cenv))).frame _ _ _ hst₅ fun b hb o e => hag.1 b o (Nat.le_of_lt (hfp' b hb)) (Heap.get?_push_of_some _ e)
      refine seg_execs_cons (seg_plain (setBool k.kind k.escape hn₆ fun h₇ hn₇ hs₇ => seg_execs_nil (seg_again rfl ?_)))
      replace hs₇ : Heap.SameBut cenv.locals s''.heap h₇ := hs₇
      refine ih (i + 1) false (pre ++ [(i, ⟨#[92, c]⟩)]) s'' _ _ tp hr' hlt (by rw [htoks]; simp) ((W _ (hA (.block [] cenv))).frame _ _ _ hst₆ fun b hb o e => hs₇.extBut b o (Nat.ne_of_gt (hfp' b hb)) e) hn₇ (by simp) (by simp [n3, n4]) ((Since.refl _ s'').step fun b o hne hb e => hs₇.extBut b o hne e)
    | false =>
      rw [if_neg Bool.false_ne_true]
      refine seg_execs_cons (seg_If (wpAny_isTrue_Compare1 (nm k.kind k.ch hn₅ (v := .str ⟨#[c]⟩ u) (by simp) (litStr (eq_str (wpAny_truthy_bool ?_))))))
      have e0 : ((⟨#[c]⟩ : Str) == Str.ofString "\\") = decide (c = 92) := oneSign (by decide)
      rw [e0]
      by_cases h92 : c = 92
      · rw [if_pos (by simp [h92])]
        have e1 : escGo (c :: r) i false = escGo r (i + 1) true := by show (if c = 92 then _ else _) = _; rw [if_pos h92]
        rw [e1] at htoks ⊢
        refine seg_execs_cons (seg_plain (setBool k.kind k.escape hn₅ fun h₇ hn₇ hs₇ => seg_execs_nil (seg_execs_nil (seg_execs_nil (seg_again rfl ?_)))))
        replace hs₇ : Heap.SameBut cenv.locals h₅ h₇ := hs₇
        refine ih (i + 1) true pre s₀ _ _ tp hr' hlt htoks ((W _ (hA (.block [] cenv))).frame _ _ _ hst₅ fun b hb o e => hs₇.extBut b o (Nat.ne_of_gt (hfp' b hb)) e) hn₇ (by simp) (by simp [n3, n4]) (hsince.step fun b o hne hb e => hs₇.extBut b o hne (up₅ b o hne (hk₂ b o (hlow b hb) (hk₁ b o (hlow b hb) e))))
      · rw [if_neg (by simp [h92])]
        have e1 : escGo (c :: r) i false = (i, ⟨#[c]⟩) :: escGo r (i + 1) false := by show (if c = 92 then _ else _) = _; rw [if_neg h92]
        rw [e1] at htoks ⊢
        rw [List.length_cons]
        refine seg_execs_cons (seg_Expr_Yield hfs rfl hfg (pairOf (nm k.kind k.pos hn₅ (v := .int i tp) (by simp [n3]) (nm k.kind k.ch hn₅ (v := .str ⟨#[c]⟩ u) (by simp) ?_))) k.co k.inter)
        intro kap hkap
        refine ⟨_, (i, ⟨#[c]⟩), atPlace htoks, rfl, tupNew, Nat.le_of_lt hn₅.lt, hsince.step fun b o hne hb e => Heap.get?_push_of_some _ (up₅ b o hne (hk₂ b o (hlow b hb) (hk₁ b o (hlow b hb) e))), fun s'' hag => hkap _ _ ?_⟩
        have hn₆ := hn₅.at' (h' := s''.heap) fun o e => hag.1 _ o (Nat.le_refl _) (Heap.get?_push_of_some _ e)
        have hst₆ : St (i + 1) s''.heap := (W _ (hA (.block [] cenv))).frame _ _ _ hst₅ fun b hb o e => hag.1 b o (Nat.le_of_lt (hfp' b hb)) (Heap.get?_push_of_some _ e)
        refine seg_execs_nil (seg_execs_nil (seg_execs_nil (seg_again rfl ?_)))
        refine ih (i + 1) false (pre ++ [(i, ⟨#[c]⟩)]) s'' _ _ tp hr' hlt (by rw [htoks]; simp) hst₆ hn₆ (by simp [n1, n2, hesc]) (by simp [n3]) (Since.refl _ s'')
end
end Mine
namespace Mine
open PySem

/-- the pairs of a text -/
def escOf (x : Str) : List (Nat × Str) := escGo x.cps.toList 0 false

structure EnumNames (cenv : Env) (base : Heap) : Prop where
  addr : cenv.kindOf "addr" = some .local
  enum : cenv.kindOf "enumerate" = some .globalImplicit
  glob : ∃ mg, base.Ns cenv.globals mg ∧ mg "enumerate" = none
  blt : ∃ mb, base.Ns cenv.builtins mb ∧ mb "enumerate" = some (.type "enumerate")

section
variable {prog : Program} {w : World} {A : Around}
theorem n7 : ¬ (Str.ofString "addr" = Str.ofString "escape") := by decide
theorem n8 : ¬ (Str.ofString "addr" = Str.ofString "pos") := by decide

theorem seg_esc {x : Str} {t : Tok} {cenv : Env} {base : Heap} {s₀ s : Shared} {m : Str → Option Value} (hh : A.handled = none)
    (k : EscKinds cenv) (e : EnumNames cenv base) (hn : s.heap.Ns cenv.locals m) (hm : m "addr" = some (.str x t)) (hbase : ∀ b o, base.get? b = some o → s.heap.get? b = some o) (hbC : ∀ b o, base.get? b = some o → b < cenv.locals) (hsince : Since cenv.locals s₀ s) (hgen : cenv.locals + 1 < s.heap.objs.size) :
    Seg (model prog w) A (escEnd cenv.locals) (escProto cenv.locals base (escOf x)) (escOf x).length s₀
      (.func (defBody (stmtAt atIter)) cenv)
      ((model prog w).den (.func (defBody (stmtAt atIter)) cenv)) [] s := by
  obtain ⟨mg, hg, hge⟩ := e.glob
  obtain ⟨mb, hb, hbe⟩ := e.blt
  refine seg_func (seg_execs_cons (seg_plain ?_))
  refine wpAny_Assign_Name (wpAny_Constant_int (wpAny_storeName_local k.pos hn (fun h₁ hn₁ hs₁ => ?_) (plainScope k.kind)))
  replace hs₁ : Heap.SameBut cenv.locals s.heap h₁ := hs₁
  refine seg_execs_cons (seg_plain (setBool k.kind k.escape hn₁ fun h₂ hn₂ hs₂ => ?_))
  replace hs₂ : Heap.SameBut cenv.locals h₁ h₂ := hs₂
  have base₂ : ∀ b o, base.get? b = some o → h₂.get? b = some o := fun b o q => hs₂.extBut b o (Nat.ne_of_lt (hbC b o q)) (hs₁.extBut b o (Nat.ne_of_lt (hbC b o q)) (hbase b o q))
  refine seg_execs_cons (seg_For ?_)
  refine Call_Name1 (Calls.Name_function_global k.kind e.enum (Calls.loadGlobal_builtin (hg.keeps base₂) hge (hb.keeps base₂) hbe ?_))
  refine PyProof.Rows.callWith_type rfl (Calls.evalArgs_plain (Calls.spliced_cons (nm k.kind e.addr hn₂ (v := .str x t) (by simp [n7, n8, hm]) (Calls.spliced_nil ?_))))
  refine call_enumerate_str fun h₃ he₃ hit₃ hsz₃ hk₃ => ?_
  replace hk₃ : ∀ b o, h₂.get? b = some o → h₃.get? b = some o := hk₃
  replace hsz₃ : h₃.objs.size = h₂.objs.size + 2 := hsz₃
  replace he₃ : IsEnum h₃ (h₂.objs.size + 1) h₂.objs.size 0 .none := he₃
  replace hit₃ : h₃.IsStrIter h₂.objs.size (strIterType x) x t 0 := hit₃
  refine wpAny_pyIter_enum he₃ fun p => ?_
  have hC₂ : cenv.locals + 1 < h₂.objs.size := by rw [hs₂.1, hs₁.1]; exact hgen
  have hne : h₂.objs.size + 1 ≠ h₂.objs.size := Nat.succ_ne_self _
  obtain ⟨St', hSt', D⟩ : ∃ St' : Nat → Heap → Prop, St' 0 h₃ ∧ ∀ A' : Around, A'.handled = none → Draws prog w A' h₂.objs.size [h₂.objs.size] x.cps.size (fun i v => ∃ c u, x.cps[i]? = some c ∧ v = .str ⟨#[c]⟩ u) St' := by
    unfold strIterType at hit₃
    cases ha : x.cps.all (· < 128) with
    | true => exact ⟨_, by simpa [ha] using hit₃, fun A' hA => Draws.strAscii hA _ x t⟩
    | false => exact ⟨_, by simpa [ha] using hit₃, fun A' hA => Draws.strWide hA _ x t⟩
  refine seg_escLoop (pre := []) (tk := s.toks) (base := base) (toks := escOf x) (x := x)
    (fun A' hA => WalksT.enumerateD (D A'.in1 hA) (h₂.objs.size + 1) hne (by simp) (by simp)) ?_ k rfl rfl (by intro _; exact hh) ?_ x.cps.toList 0 false s₀ _ _ (by simp) (Nat.zero_le _) (by simp [escOf]) ⟨⟨_, he₃⟩, hSt'⟩ (hn₂.keeps hk₃) (by simp) (by simp [n4]) ?_
  · intro b hb
    rcases List.mem_cons.mp hb with rfl | hb
    · exact Nat.lt_succ_of_lt hC₂
    · rw [List.mem_singleton.mp hb]; exact hC₂
  · intro b pre s₁ s₂ m₂ tk c hn₅ hesc hpos hsince₂ htoks
    refine seg_leaf (.ok .next) ?_
    show Seg _ _ _ _ _ _ _ ((execs _ cenv).wrap _ _ _ _) [] _
    refine seg_execs_cons (seg_If (nmTrue k.kind k.escape hn₅ hesc ?_))
    cases b with
    | false =>
      rw [if_neg Bool.false_ne_true]
      exact seg_execs_nil (seg_execs_nil (seg_end (.ok (.ret .none)) ⟨rfl, rfl, hsince₂⟩))
    | true =>
      rw [if_pos rfl]
      have e1 : escGo [] x.cps.size true = [(x.cps.size - 1, ⟨#[92]⟩)] := rfl
      rw [e1] at htoks ⊢
      refine seg_execs_cons (seg_Expr_Yield rfl rfl rfl (pairOf (nm k.kind k.pos hn₅ hpos (litStr ?_))) k.co k.inter)
      intro kap hkap
      refine ⟨_, _, atPlace htoks, rfl, tupNew, Nat.le_of_lt hn₅.lt, hsince₂.step fun b o _ hb e => Heap.get?_push_of_some _ e, fun s'' hag => hkap _ _ ?_⟩
      exact seg_execs_nil (seg_execs_nil (seg_end (.ok (.ret .none)) ⟨rfl, rfl, Since.refl _ _⟩))
  · exact hsince.step fun b o hne hb e => hk₃ b o (hs₂.extBut b o hne (hs₁.extBut b o hne e))
end
end Mine
namespace Mine
open PySem

structure GMoved (C : Addr) (g : Nat) (s s' : Shared) : Prop where
  heap : ∀ b o, b < C → s.heap.get? b = some o → s'.heap.get? b = some o
  gens : GenOnlyQ g s.gens s'.gens
  os : s'.os = s.os

def GenSt (prog : Program) (w : World) (A : Around) (a : Addr) (g : Nat) (C : Addr) (base : Heap) (toks : List (Nat × Str)) (j : Nat) (s : Shared) : Prop :=
  s.heap.IsGen a g ∧ a = C + 1 ∧ ∃ gs, s.gens[g]? = some gs ∧ ∀ s'', Agree C base s s'' →
    gs.Goes (model prog w) A.in1 (escEnd C) (escProto C base toks) (toks.length - j) (.send .none) s''

section
variable {prog : Program} {w : World} {A : Around} {E : Value → Shared → Prop} {s : Shared} {a : Addr} {g : Nat} {C : Addr} {base : Heap} {toks : List (Nat × Str)} {j : Nat}

theorem GenSt.frame {s' : Shared} (st : GenSt prog w A a g C base toks j s) (hag : Agree C base s s') (hg : s'.gens[g]? = s.gens[g]?) : GenSt prog w A a g C base toks j s' := by
  obtain ⟨⟨o, nm, qn, ho, r⟩, hCa, gs, hgs, hgo⟩ := st
  exact ⟨⟨o, nm, qn, hag.1 a o (by rw [hCa]; exact Nat.le_succ _) ho, r⟩, hCa, gs, hg.trans hgs, fun s'' h2 => hgo s'' ⟨fun b o hb e => h2.1 b o hb (hag.1 b o hb e), h2.2⟩⟩

/-- a turn of the generator: by hand, as the library's own two rules for it have no word for what is left suspended -/
theorem next_gen {n : Nat} {gs : GenState} {Q : Option Value → Shared → Prop} (hh : A.handled = none) (hl : s.heap.NoLimit) (hroom : A.depth < recursionLimit)
    (hg : s.heap.IsGen a g) (hgs : s.gens[g]? = some gs)
    (hgo : gs.Goes (model prog w) A.in1 (escEnd C) (escProto C base toks) n (.send .none) (s.setGen g .running))
    (hY : ∀ v s₁ gs', gs'.bare = true → escProto C base toks (n - 1) (s.setGen g .running) v s₁ (fun r' s'' => match n with
        | 0 => False
        | m + 1 => gs'.Goes (model prog w) A.in1 (escEnd C) (escProto C base toks) m r' s'') → Q (some v) (s₁.setGen g gs'))
    (hP : ∀ s₁, n = 0 → Since C (s.setGen g .running) s₁ → ∀ h', (∀ b o, s₁.heap.get? b = some o → h'.get? b = some o) → Q none { s₁.setGen g .finished with heap := h' }) :
    wpAny (model prog w) A (pyNext (.ref a)) Q E s := by
  unfold pyNext
  refine wpAny_bind (wpAny_attempt (wpAny_callSpecial?_slot (name := Str.ofString "__next__") hg.typeIs slot_gen_next
    (wpAny_call_entry slot_gen_next hg.typeIs entry_gen_next ?_ (args_gen_next _))))
  show wpAny _ A.in1 (Builtin.Generator.genWake (.ref a) (.send .none)) _ _ s
  unfold Builtin.Generator.genWake
  refine wpAny_bind (wpAny_holding (wpAny_genNumber hg (wpAny_bind (wpAny_genState hgs ?_))))
  cases gs with
  | running => exact hgo.elim
  | finished => exact hgo.elim
  | _ =>
    refine wpAny_bind (wpAny_roomToWake hl hroom ?_)
    show wpAny _ A.in1 (.resume g (.send .none) [] _) _ _ s
    refine wpAny_resumeQ hgs hgo (fun x s₁ hx => ?_) (fun v s₁ gs' hb hv => ?_)
    · obtain ⟨rfl, hn, hp⟩ := hx
      show wpAny _ A.in1 (newExc (.type "StopIteration") [] >>= _) _ _ _
      refine wpAny_bind ?_
      simp only [newExc, newTuple]
      refine wpAny_bind (wpAny_newObj_type ?_ (by size_fits))
      refine wpAny_bind (m := firstArgMember _ _) (wpAny_of_eq (a := Value.none) (by first | rfl | (simp only [firstArgMember]; rfl)) ?_)
      refine wpAny_newObj_type ?_ (by size_fits)
      simp only [raiseNew]
      refine wpAny_bind (wpAny_bind (wpAny_handled ?_))
      first | rw [show A.in1.handled = none from hh] | rw [hh]
      refine wpAny_throw ?_
      refine wpAny_bind (wpAny_isInstance (T := "StopIteration") (b := true) ⟨_, Heap.get?_push_size _ rfl, rfl⟩ isSubtype_stop ?_)
      exact wpAny_pure (hP s₁ hn hp _ fun b o hb => Heap.get?_push_of_some _ (Heap.get?_push_of_some _ hb))
    · exact wpAny_pure ⟨v, rfl, wpAny_pure (hY v s₁ gs' hb hv)⟩

theorem gen_item {p : Nat × Str} {Q : Option Value → Shared → Prop} (hh : A.handled = none) (hroom : A.depth < recursionLimit) (hl : base.NoLimit) (hb : ∀ b o, base.get? b = some o → s.heap.get? b = some o)
    (hp : toks[j]? = some p) (st : GenSt prog w A a g C base toks j s)
    (h : ∀ T s', TupAt s'.heap T p → C ≤ T → GenSt prog w A a g C base toks (j + 1) s' → GMoved C g s s' → Q (some (.ref T)) s') : wpAny (model prog w) A (pyNext (.ref a)) Q E s := by
  obtain ⟨hg, hCa, gs, hgs, hgo⟩ := st
  have hj : j < toks.length := (List.getElem?_eq_some_iff.mp hp).1
  obtain ⟨m, hm⟩ : ∃ m, toks.length - j = m + 1 := ⟨toks.length - j - 1, by omega⟩
  rw [hm] at hgo
  refine next_gen hh (hl.keeps hb) hroom hg hgs (hgo _ ⟨fun _ _ _ e => e, hb⟩) (fun v s₁ gs' hbr hv => ?_) (fun s₁ hn => absurd hn (Nat.succ_ne_zero m))
  obtain ⟨T, q, hq, rfl, hT, hCT, ⟨h₁, tk₁, rfl, hk₁⟩, hkap⟩ := hv
  have hidx : toks.length - 1 - (m + 1 - 1) = j := by omega
  rw [hidx, hp] at hq
  cases hq
  have haC : a ≠ C := by rw [hCa]; exact Nat.succ_ne_self _
  have ha2 : a < C + 2 := by rw [hCa]; exact Nat.lt_succ_self _
  have e : toks.length - (j + 1) = m := by omega
  refine h T _ hT hCT ⟨let ⟨o, nm, qn, ho, r⟩ := hg; ⟨o, nm, qn, hk₁ a o haC ha2 ho, r⟩, hCa, gs', setGen_self (gs := .running) (setGen_self hgs), fun s'' hag => ?_⟩
    ⟨fun b o hb e => hk₁ b o (Nat.ne_of_lt hb) (Nat.lt_succ_of_lt (Nat.lt_succ_of_lt hb)) e, GenOnlyQ.of ((GenOnly.setGen s g .running).trans (GenOnly.setGen _ g gs')) (setGen_self (gs := .running) (setGen_self hgs)) hbr, rfl⟩
  rw [e]
  exact hkap s'' hag

theorem gen_done {Q : Option Value → Shared → Prop} (hh : A.handled = none) (hroom : A.depth < recursionLimit) (hl : base.NoLimit) (hb : ∀ b o, base.get? b = some o → s.heap.get? b = some o)
    (hbC : ∀ b o, base.get? b = some o → b < C) (st : GenSt prog w A a g C base toks toks.length s) (h : ∀ s', GMoved C g s s' → Q none s') : wpAny (model prog w) A (pyNext (.ref a)) Q E s := by
  obtain ⟨hg, hCa, gs, hgs, hgo⟩ := st
  rw [Nat.sub_self] at hgo
  refine next_gen hh (hl.keeps hb) hroom hg hgs (hgo _ ⟨fun _ _ _ e => e, hb⟩) (fun v s₁ gs' hbr hv => ?_) (fun s₁ hn hp h' hk => ?_)
  · obtain ⟨T, q, hq, rfl, hT, hCT, ⟨h₁, tk₁, rfl, hk₁⟩, hkap⟩ := hv
    exact False.elim (hkap _ ⟨fun _ _ _ e => e, fun b o e => hk₁ b o (Nat.ne_of_lt (hbC b o e)) (Nat.lt_succ_of_lt (Nat.lt_succ_of_lt (hbC b o e))) (hb b o e)⟩)
  · obtain ⟨h₁, tk₁, rfl, hk₁⟩ := hp
    exact h _ ⟨fun b o hb e => hk b o (hk₁ b o (Nat.ne_of_lt hb) (Nat.lt_succ_of_lt (Nat.lt_succ_of_lt hb)) e), GenOnlyQ.of ((GenOnly.setGen s g .running).trans (GenOnly.setGen _ g .finished)) (setGen_self (gs := .running) (setGen_self hgs)) rfl, rfl⟩
end
end Mine
namespace Mine
open PySem

/-- one of the text's own defs stands at an address, as its row says it -/
structure FnIs (h : Heap) (st : Stmt) (a : Addr) : Prop where
  out : ∃ o fd, h.get? a = some o ∧ o.data = .func fd ∧ fd.scope = defScope st ∧ fd.body = .stmts (defBody st) ∧ fd.params = defArgs st ∧ fd.closure = [] ∧
    fd.globals = mainGlobals ∧ fd.builtins = builtinsNs ∧ fd.defaults = .none ∧ fd.kwdefaults = .none ∧ h.CodeRec fd.code fd.qualname

theorem FnIs.keeps {h h' : Heap} {st : Stmt} {a : Addr} (x : FnIs h st a) (hk : ∀ b o, h.get? b = some o → h'.get? b = some o) : FnIs h' st a := by
  obtain ⟨o, fd, h1, h2, h3, h4, h5, h6, h7, h8, h9, h10, h11⟩ := x.out
  exact ⟨o, fd, hk _ _ h1, h2, h3, h4, h5, h6, h7, h8, h9, h10, h11.keeps hk⟩

section
variable {prog : Program} {w : World} {A : Around} {E : Value → Shared → Prop} {s : Shared}

theorem call_esc {fI : Addr} {base : Heap} {x : Str} {t : Tok} {Q : Value → Shared → Prop} (hh : A.handled = none) (hroom : A.depth < recursionLimit) (fn : FnIs base (stmtAt atIter) fI)
    (hl : base.NoLimit) (hb : ∀ b o, base.get? b = some o → s.heap.get? b = some o) (hg : ∃ mg, base.Ns mainGlobals mg ∧ mg "enumerate" = none) (hbl : ∃ mb, base.Ns builtinsNs mb ∧ mb "enumerate" = some (.type "enumerate"))
    (h : ∀ s', (∀ A' : Around, A'.handled = none → GenSt prog w A' (s.heap.objs.size + 1) s.gens.size s.heap.objs.size base (escOf x) 0 s') → (∀ b o, s.heap.get? b = some o → s'.heap.get? b = some o) → s'.os = s.os → (∃ gs, gs.bare = true ∧ s'.gens = s.gens.push gs) →
      Q (.ref (s.heap.objs.size + 1)) s') :
    wpAny (model prog w) A (call (.ref fI) [.str x t]) Q E s := by
  obtain ⟨o, fd, h1, h2, h3, h4, h5, h6, h7, h8, h9, h10, h11⟩ := fn.out
  refine wpAny_call ?_
  refine codeAny_call_generator hroom (hb _ _ h1) h2 (by rw [h3]; rfl) (by rw [h3]; rfl) h4 (h11.keeps hb) ?_
  have hbind : bindArgs fd ⟨[.str x t], []⟩ = pure [((Str.ofString "addr"), Value.str x t)] := by
    obtain ⟨name, qualname, params, body, scope, globals, closure, defaults, kwdefaults, doc, pyModule, anns, code, closureTuple, builtins⟩ := fd
    subst h3 h4 h5 h6 h9 h10
    rfl
  rw [hbind]
  have hcell : ∀ y ∈ fd.scope.names, y.2 ≠ .cell := by rw [h3]; decide
  have hloc : ∀ y ∈ [((Str.ofString "addr"), Value.str x t)], fd.scope.names.lookup y.1 = some .local := by rw [h3]; intro y hy; rw [List.mem_singleton.mp hy]; show (defScope (stmtAt atIter)).names.lookup (Str.ofString "addr") = _; decide
  refine wpAny_pure (wpAny_newFunctionEnv hcell hloc (fun h' hn hs => ?_) (by rw [h3]; rfl))
  have hsz : h'.objs.size = s.heap.objs.size + 1 := by rw [hs.1, Heap.size_push]
  have keep' : ∀ b o, s.heap.get? b = some o → h'.get? b = some o := fun b o e => hs.extBut b o (Nat.ne_of_lt (Heap.lt_size e)) (Heap.get?_push_of_some _ e)
  refine ⟨(hl.keeps hb).keeps keep', ?_⟩
  show Q (.ref h'.objs.size) _
  rw [hsz]
  have hget : ∀ o : Obj, o.isFreed = false → (h'.push o).get? (s.heap.objs.size + 1) = some o := fun o ho => hsz ▸ Heap.get?_push_size h' ho
  refine h _ (fun A' hA => ⟨⟨_, _, _, hget _ rfl, rfl, rfl, rfl⟩, rfl, _, Array.getElem?_push_size .., fun s'' hag => ⟨rfl, ?_⟩⟩) (fun b o e => Heap.get?_push_of_some _ (keep' b o e)) rfl ⟨_, rfl, rfl⟩
  rw [Nat.sub_zero]
  obtain ⟨mg, hg1, hg2⟩ := hg
  obtain ⟨mb, hb1, hb2⟩ := hbl
  have hn₂ := (hn.push { cls := .type "generator", data := .fields #[.int s.gens.size 0, .str fd.name (s.toks + [((Str.ofString "addr"), Value.str x t)].length), .str fd.qualname (s.toks + [((Str.ofString "addr"), Value.str x t)].length + 1)] }).at' (h' := s''.heap) fun o e => hag.1 _ o (Nat.le_refl _) e
  have hgen := hag.1 (s.heap.objs.size + 1) _ (Nat.le_succ _) (hget _ rfl)
  refine seg_esc (cenv := newEnv fd.scope s.heap.objs.size fd.globals fd.closure (fd.qualname ++ ".<locals>.") (some fI) fd.code none fd.builtins) (A := A'.in1) hA ?_ ?_ hn₂ rfl hag.2 (fun b o e => Heap.lt_size (hb b o e)) (Since.refl _ _) (Heap.lt_size hgen)
  · rw [h3]
    exact ⟨rfl, rfl, rfl, rfl, rfl, rfl⟩
  · rw [h3, h7, h8]
    exact ⟨rfl, rfl, ⟨mg, hg1, hg2⟩, ⟨mb, hb1, hb2⟩⟩
end
end Mine
namespace Mine
open PySem

section
variable {prog : Program} {w : World} {A : Around} {E : Value → Shared → Prop} {s : Shared}

theorem letGo_gen {elts : List Expr} {k : Nat} {pos : Pos} {a T : Addr} {g : Nat} {Q : Unit → Shared → Prop} (hg : s.heap.IsGen a g) (hQ : Q () s) :
    wpAny (model prog w) A (letOwnedTupleGo (.Tuple elts k pos) (.ref a) (.ref T)) Q E s := by
  obtain ⟨o, nm, qn, ho, hc, hd, hs⟩ := hg
  unfold letOwnedTupleGo
  refine wpAny_bind (wpAny_load ho ?_)
  rw [hc, hd]
  show wpAny _ A (if (["enumerate", "zip", "dict_itemiterator", "dict_reverseitemiterator", "odict_iterator", "itertools.zip_longest", "itertools.pairwise"].contains "generator" &&
      (#[.int (g : Int) 0, nm, qn] : Array Value)[0]? == some (rawInt T)) = true then _ else _) Q E s
  rw [if_neg (by
    rw [show (["enumerate", "zip", "dict_itemiterator", "dict_reverseitemiterator", "odict_iterator", "itertools.zip_longest", "itertools.pairwise"].contains "generator") = false from by decide, Bool.false_and]
    exact Bool.false_ne_true)]
  exact wpAny_pure hQ

/-- a for over the generator's pairs, by what holds between its turns -/
theorem loop_gen {R : Result → Shared → Prop} {toks : List (Nat × Str)} {a C : Addr} {g : Nat} {base : Heap} {env : Env} {p1 p2 p3 : Pos} {body : List Stmt} {m : Str → Option Value}
    (hh : A.handled = none) (hroom : A.depth < recursionLimit) (hl : base.NoLimit) (hbC : ∀ b o, base.get? b = some o → b < C) (hLC : env.locals < C) (hbL : ∀ b o, base.get? b = some o → b ≠ env.locals)
    (hk : env.scope.kind = .function) (hkp : env.kindOf "pos" = some .local) (hkc : env.kindOf "ch" = some .local)
    (J : Nat → (Str → Option Value) → Heap → Prop) (Z : Value → Heap → Prop)
    (hJ : ∀ j m h h', J j m h → (∀ b o, b < C → b ≠ env.locals → h.get? b = some o → h'.get? b = some o) → J j m h') (hJb : ∀ j m h, J j m h → ∀ b o, base.get? b = some o → h.get? b = some o)
    (step : ∀ j p tp tc m s₁, toks[j]? = some p → J j m s₁.heap → s₁.heap.Ns env.locals (fun y => if y = "ch" then some (.str p.2 tc) else if y = "pos" then some (.int p.1 tp) else m y) →
      wpAny (model prog w) A (execs body env) (fun f s₂ => (∃ h' tk, s₂ = { s₁ with heap := h', toks := tk } ∧ ∀ b o, C ≤ b → s₁.heap.get? b = some o → h'.get? b = some o) ∧
        match f with | .next => ∃ m₂, s₂.heap.Ns env.locals m₂ ∧ J (j + 1) m₂ s₂.heap | .ret v => Z v s₂.heap | _ => False) (notedBy (model prog w) A env fun e s' => R (.error e) s') s₁)
    (hret : ∀ v s', Z v s'.heap → s'.os = s.os → (AllBare s.gens → AllBare s'.gens) → R (.ok (.ret v)) s')
    (hafter : ∀ m' s', s'.heap.Ns env.locals m' → J toks.length m' s'.heap → s'.os = s.os → (AllBare s.gens → AllBare s'.gens) → R (.ok .next) s')
    (st : GenSt prog w A a g C base toks 0 s) (hn : s.heap.Ns env.locals m) (h0 : J 0 m s.heap) :
    codeAny (model prog w) A (.forLoop (.Tuple [.Name "pos" p1, .Name "ch" p2] 0 p3) (.ref a) body [] env) R s := by
  refine codeAny_forLoop_any (fun k s' => ∃ j m', k = toks.length + 1 - j ∧ j ≤ toks.length ∧ GenSt prog w A a g C base toks j s' ∧ s'.heap.Ns env.locals m' ∧ J j m' s'.heap ∧ s'.os = s.os ∧ (AllBare s.gens → AllBare s'.gens)) ?_
    (toks.length + 1) ⟨0, m, rfl, Nat.zero_le _, st, hn, h0, rfl, id⟩
  rintro k s' ⟨j, m', rfl, hj, st', hn', hJ', hos, hbare⟩
  have hb' := hJb _ _ _ hJ'
  cases hv : toks[j]? with
  | none =>
    have hje : j = toks.length := Nat.le_antisymm hj (by simpa using hv)
    subst hje
    refine gen_done hh hroom hl hb' hbC st' fun s₁ mv => wpAny_execs_nil ?_
    exact hafter m' s₁ (hn'.at' fun o e => mv.heap _ o hLC e) (hJ _ _ _ _ hJ' fun b o hb _ e => mv.heap b o hb e) (mv.os.trans hos) fun q => mv.gens.bare (hbare q)
  | some p =>
    have hlt : j < toks.length := (List.getElem?_eq_some_iff.mp hv).1
    refine gen_item hh hroom hl hb' hv st' fun T s₁ hT hCT st₁ mv => ?_
    refine letGo_gen st₁.1 ?_
    obtain ⟨tp, tc, hT⟩ := hT
    refine wpAny_assign_Tuple hh hT rfl rfl fun h₃ hx₃ => ?_
    have hn₁ : s₁.heap.Ns env.locals m' := hn'.at' fun o e => mv.heap _ o hLC e
    have up₃ : ∀ b o, s₁.heap.get? b = some o → h₃.get? b = some o := fun b o e => hx₃ b o (Nat.ne_of_lt (Heap.lt_size e)) e
    have hn₃ : h₃.Ns env.locals m' := hn₁.keeps up₃
    show wpAny _ _ (do holding [.str p.2 tc] (assign (.Name "pos" _) env (.int p.1 tp)); do holding [] (assign (.Name "ch" _) env (.str p.2 tc)); pure ()) _ _ _
    refine wpAny_bind (wpAny_holding (wpAny_assign_Name (wpAny_storeName_local hkp hn₃ (fun h₄ hn₄ hs₄ => ?_) (plainScope hk))))
    replace hs₄ : Heap.SameBut env.locals h₃ h₄ := hs₄
    refine wpAny_bind (wpAny_holding (wpAny_assign_Name (wpAny_storeName_local hkc hn₄ (fun h₅ hn₅ hs₅ => wpAny_pure ?_) (plainScope hk))))
    replace hs₅ : Heap.SameBut env.locals h₄ h₅ := hs₅
    have up₅ : ∀ b o, b ≠ env.locals → s₁.heap.get? b = some o → h₅.get? b = some o := fun b o hb e => hs₅.extBut b o hb (hs₄.extBut b o hb (up₃ b o e))
    have hJ₁ : J j m' s₁.heap := hJ _ _ _ _ hJ' fun b o hb _ e => mv.heap b o hb e
    have hJ₅ : J j m' h₅ := hJ _ _ _ _ hJ₁ fun b o _ hb e => up₅ b o hb e
    have hb₁ := hJb _ _ _ hJ₁
    refine wpAny_mono (step j p tp tc m' _ hv hJ₅ hn₅) (fun f s₂ hf => ?_) fun _ _ e => e
    obtain ⟨⟨h₆, tk₆, rfl, hk₆⟩, hf⟩ := hf
    cases f with
    | next =>
      obtain ⟨m₂, hn₂, hJ₂⟩ := hf
      refine ⟨toks.length + 1 - (j + 1), by omega, j + 1, m₂, rfl, hlt, ?_, hn₂, hJ₂, mv.os.trans hos, fun q => mv.gens.bare (hbare q)⟩
      exact st₁.frame ⟨fun b o hb e => hk₆ b o hb (up₅ b o (Nat.ne_of_gt (Nat.lt_of_lt_of_le hLC hb)) e), hJb _ _ _ hJ₂⟩ rfl
    | brk => exact hf.elim
    | cont => exact hf.elim
    | ret v => exact hret v _ hf (mv.os.trans hos) fun q => mv.gens.bare (hbare q)
end
end Mine
namespace Mine
open PySem

/-- what a call leaves behind: all that stood stands as it stood; the world outside is untouched; what is left of generators asks for no cleaning up -/
structure Ext (s s' : Shared) : Prop where
  keep : ∀ b o, s.heap.get? b = some o → s'.heap.get? b = some o
  os : s'.os = s.os
  bare : AllBare s.gens → AllBare s'.gens
theorem Ext.refl (s : Shared) : Ext s s := ⟨fun _ _ e => e, rfl, id⟩
theorem Ext.trans {s s' s'' : Shared} (x : Ext s s') (y : Ext s' s'') : Ext s s'' := ⟨fun b o e => y.keep b o (x.keep b o e), y.os.trans x.os, fun q => y.bare (x.bare q)⟩
theorem Ext.of_heap {s : Shared} {h' : Heap} {tk : Nat} (hk : ∀ b o, s.heap.get? b = some o → h'.get? b = some o) : Ext s { s with heap := h', toks := tk } := ⟨hk, rfl, id⟩

structure Names (base : Heap) (fI fS fC : Addr) : Prop where
  iter : FnIs base (stmtAt atIter) fI
  strip : FnIs base (stmtAt atStrip) fS
  check : FnIs base (stmtAt atCheck) fC
  lim : base.NoLimit
  glob : ∃ mg, base.Ns mainGlobals mg ∧ mg "enumerate" = none ∧ mg "len" = none ∧ mg "_iter_escaped_chars" = some (.ref fI) ∧ mg "_strip_quoted_realnames" = some (.ref fS)
  blt : ∃ mb, base.Ns builtinsNs mb ∧ mb "enumerate" = some (.type "enumerate") ∧ mb "len" = some (.builtin "len")

section
variable {prog : Program} {w : World} {A : Around} {E : Value → Shared → Prop} {s : Shared}

theorem callDef1 {env : Env} {f : Str} {p pos : Pos} {e : Expr} {a : Addr} {st : Stmt} {base : Heap} {mg : Str → Option Value} {Q : Value → Shared → Prop} (hk : env.scope.kind = .function) (hx : env.kindOf f = some .globalImplicit)
    (hg : base.Ns env.globals mg) (hv : mg f = some (.ref a)) (fn : FnIs base st a) (hb : ∀ b o, base.get? b = some o → s.heap.get? b = some o)
    (h : wpAny (model prog w) A (eval e env) (fun v s₁ => (∀ b o, base.get? b = some o → s₁.heap.get? b = some o) ∧ wpAny (model prog w) A (call (.ref a) [v]) Q E s₁) E s)
    (hs : starEach [e] env = [(false, eval e env)] := by rfl) (hd : (f == ("__debug__" : Str)) = false := by decide) :
    wpAny (model prog w) A (eval (.Call (.Name f p) [e] [] pos) env) Q E s := by
  obtain ⟨o, fd, h1, h2, _⟩ := fn.out
  refine Call_Name1 (Calls.Name_function_global hk hx (Calls.loadGlobal_global (hg.keeps hb) hv ?_) hd) hs
  refine Calls.callWith_function (o := o) (fd := fd) (Calls.evalArgs_plain (Calls.spliced_cons (wpAny_mono h (fun v s₁ h₁ => Calls.spliced_nil ⟨⟨h₁.1 _ _ h1, h2⟩, h₁.2⟩) fun _ _ e => e)))

/-- the def's own frame -/
theorem enterDef {st : Stmt} {f : Addr} {base : Heap} {n : Str} {v : Value} {Q : Value → Shared → Prop} (hroom : A.depth < recursionLimit) (fn : FnIs base st f) (hl : base.NoLimit) (hb : ∀ b o, base.get? b = some o → s.heap.get? b = some o)
    (hbind : ∀ fd : FuncData, fd.params = defArgs st → fd.defaults = .none → fd.kwdefaults = .none → bindArgs fd ⟨[v], []⟩ = pure [(n, v)])
    (hcell : ∀ y ∈ (defScope st).names, y.2 ≠ .cell) (hloc : (defScope st).names.lookup n = some .local) (hco : (defScope st).isCoroutine = false) (hgen : (defScope st).isGenerator = false) (hk : (defScope st).kind = .function)
    (h : ∀ env h₁, env.scope = defScope st → env.locals = s.heap.objs.size → env.globals = mainGlobals → env.builtins = builtinsNs → interactive env = false →
      h₁.Ns s.heap.objs.size (fun y => if y = n then some v else none) → (∀ b o, s.heap.get? b = some o → h₁.get? b = some o) →
      wpAny (model prog w) (A.deeper env) (execs (defBody st) env) (fun fl s' => Q (match fl with | .ret v => v | _ => .none) s') (fun _ _ => False) { s with heap := h₁, toks := s.toks + 1 }) :
    wpAny (model prog w) A (call (.ref f) [v]) Q E s := by
  obtain ⟨o, fd, h1, h2, h3, h4, h5, h6, h7, h8, h9, h10, h11⟩ := fn.out
  refine wpAny_call (codeAny_call_def (binds := [(n, v)]) hroom (hb _ _ h1) h2 (hl.keeps hb) (h11.keeps hb) h4 (BindsTo.of_eq (hbind fd h5 h9 h10)) (by rw [h3]; exact hcell) (by intro y hy; rw [List.mem_singleton.mp hy, h3]; exact hloc)
    (fun h₁ hn hk₁ => ?_) (by rw [h3]; exact hco) (by rw [h3]; exact hgen) (by rw [h3]; exact hk))
  have e : (fun y : Str => ([(n, v)] : List (Str × Value)).reverse.lookup y) = fun y : Str => if y = n then some v else none := by
    funext y
    by_cases hy : y = n
    · subst hy; simp
    · have : (y == n) = false := by simpa using hy
      simp [List.lookup, this, hy]
  rw [e] at hn
  refine wpAny_mono (h (callEnv fd s.heap.objs.size f) h₁ h3 rfl h7 h8 ?_ hn hk₁) (fun fl s' q => q) fun _ _ q => q.elim
  show interactive (callEnv fd s.heap.objs.size f) = false
  unfold interactive callEnv newEnv
  dsimp only
  rw [h3, hk]
  rfl
end
end Mine
namespace Mine
open PySem

/-- one pair's turn of the scan for quoted names: the start, the open quote's place, the pieces so far -/
def stripStep (x : Str) (st : Nat × Option Nat × List Str) (p : Nat × Str) : Nat × Option Nat × List Str :=
  if p.2 = ⟨#[34]⟩ then
    match st.2.1 with
    | none => (st.1, some p.1, st.2.2)
    | some o => (p.1 + 1, none, if st.1 = o then st.2.2 else st.2.2 ++ [Txt.slice x (some (st.1 : Int)) (some (o : Int))])
  else st
def stripFold (x : Str) (l : List (Nat × Str)) : Nat × Option Nat × List Str := l.foldl (stripStep x) (0, none, [])
def stripOf (x : Str) : Str :=
  if 34 ∈ x.cps.toList then
    let r := stripFold x (escOf x)
    Str.join (Str.ofString "") (if r.1 < x.length then r.2.2 ++ [Txt.slice x (some (r.1 : Int)) none] else r.2.2)
  else x

theorem escGo_len : ∀ (r : List Nat) (i : Nat) (b : Bool), (escGo r i b).length ≤ r.length + 1
  | [], _, true => Nat.le_refl _
  | [], _, false => Nat.zero_le _
  | c :: r, i, true => by
    have := escGo_len r (i + 1) false
    show (escGo r (i + 1) false).length + 1 ≤ r.length + 1 + 1
    omega
  | c :: r, i, false => by
    have h1 := escGo_len r (i + 1) true
    have h2 := escGo_len r (i + 1) false
    show (if c = 92 then escGo r (i + 1) true else (i, ⟨#[c]⟩) :: escGo r (i + 1) false).length ≤ r.length + 1 + 1
    split
    · omega
    · simp only [List.length_cons]; omega
theorem escOf_len (x : Str) : (escOf x).length ≤ x.length + 1 := by
  have := escGo_len x.cps.toList 0 false
  simpa [escOf, Str.length] using this

/-- the pieces are few and short -/
theorem strip_small (x : Str) (p : Nat × Str) (st : Nat × Option Nat × List Str) (n : Nat) (h1 : st.2.2.length ≤ n) (h2 : ∀ y ∈ st.2.2, y.length ≤ x.length) :
    (stripStep x st p).2.2.length ≤ n + 1 ∧ ∀ y ∈ (stripStep x st p).2.2, y.length ≤ x.length := by
  unfold stripStep
  split
  · cases hs : st.2.1 with
    | none => exact ⟨by simp only; omega, h2⟩
    | some o =>
      dsimp only
      split
      · exact ⟨by omega, h2⟩
      · refine ⟨by rw [List.length_append, List.length_singleton]; omega, fun y hy => ?_⟩
        rcases List.mem_append.mp hy with hy | hy
        · exact h2 y hy
        · rw [List.mem_singleton.mp hy]; exact PyProof.Txt.length_slice_le x _ _
  · exact ⟨by omega, h2⟩

theorem sum_small (B : Nat) : ∀ (l : List Str), (∀ y ∈ l, y.length ≤ B) → (l.map (·.length)).sum ≤ l.length * B
  | [], _ => by simp
  | y :: r, h => by
    have h1 := sum_small B r fun z hz => h z (List.mem_cons_of_mem _ hz)
    have h2 := h y List.mem_cons_self
    simp only [List.map_cons, List.sum_cons, List.length_cons]
    rw [Nat.succ_mul]
    omega

structure EnvFor (env : Env) (st : Stmt) (L : Addr) : Prop where
  scope : env.scope = defScope st
  locals : env.locals = L
  globals : env.globals = mainGlobals
  builtins : env.builtins = builtinsNs
  inter : interactive env = false
theorem EnvFor.kindOf {env : Env} {st : Stmt} {L : Addr} (e : EnvFor env st L) {n : Str} {k : NameKind} (h : (defScope st).names.lookup n = some k) : env.kindOf n = some k := by
  unfold Env.kindOf; rw [e.scope]; exact h
theorem EnvFor.kind {env : Env} {st : Stmt} {L : Addr} (e : EnvFor env st L) {k : ScopeKind} (h : (defScope st).kind = k) : env.scope.kind = k := by rw [e.scope]; exact h

def optVal (v : Value) : Option Nat → Prop
  | none => v = .none
  | some o => ∃ t, v = .int o t

/-- what stands between two turns of the scan -/
def StripJ (x : Str) (t : Tok) (toks : List (Nat × Str)) (h₀ : Heap) (D : Addr) (j : Nat) (m : Str → Option Value) (h : Heap) : Prop :=
  (∀ b o, h₀.get? b = some o → h.get? b = some o) ∧ m "addr" = some (.str x t) ∧ m "result" = some (.ref D) ∧
  (∃ t1, m "start" = some (.int (stripFold x (toks.take j)).1 t1)) ∧ (∃ v, m "open_pos" = some v ∧ optVal v (stripFold x (toks.take j)).2.1) ∧
  (∃ items, h.PlainList D items ∧ StrsAre items.toList (stripFold x (toks.take j)).2.2) ∧
  (stripFold x (toks.take j)).2.2.length ≤ j ∧ (∀ y ∈ (stripFold x (toks.take j)).2.2, y.length ≤ x.length)

theorem take_succ_fold {x : Str} {toks : List (Nat × Str)} {j : Nat} {p : Nat × Str} (h : toks[j]? = some p) : stripFold x (toks.take (j + 1)) = stripStep x (stripFold x (toks.take j)) p := by
  have : toks.take (j + 1) = toks.take j ++ [p] := by rw [List.take_succ, h]; rfl
  rw [this]
  unfold stripFold
  rw [List.foldl_append]; rfl

def stripFor : Stmt := nthS (defBody (stmtAt atStrip)) 4
theorem m1 : ¬ (Str.ofString "addr" = Str.ofString "ch") := by decide
theorem m2 : ¬ (Str.ofString "addr" = Str.ofString "open_pos") := by decide
theorem m3 : ¬ (Str.ofString "addr" = Str.ofString "start") := by decide
theorem m4 : ¬ (Str.ofString "result" = Str.ofString "ch") := by decide
theorem m5 : ¬ (Str.ofString "result" = Str.ofString "pos") := by decide
theorem m6 : ¬ (Str.ofString "result" = Str.ofString "open_pos") := by decide
theorem m7 : ¬ (Str.ofString "result" = Str.ofString "start") := by decide
theorem m8 : ¬ (Str.ofString "start" = Str.ofString "ch") := by decide
theorem m9 : ¬ (Str.ofString "start" = Str.ofString "pos") := by decide
theorem m10 : ¬ (Str.ofString "start" = Str.ofString "open_pos") := by decide
theorem m11 : ¬ (Str.ofString "open_pos" = Str.ofString "ch") := by decide
theorem m12 : ¬ (Str.ofString "open_pos" = Str.ofString "pos") := by decide
theorem m13 : ¬ (Str.ofString "open_pos" = Str.ofString "start") := by decide
theorem m14 : ¬ (Str.ofString "addr" = Str.ofString "pos") := by decide
theorem m15 : ¬ (Str.ofString "addr" = Str.ofString "result") := by decide
theorem m16 : ¬ (Str.ofString "start" = Str.ofString "result") := by decide
theorem m17 : ¬ (Str.ofString "open_pos" = Str.ofString "result") := by decide

section
variable {prog : Program} {w : World} {A : Around} {E : Value → Shared → Prop}

/-- one turn of the scan -/
theorem strip_turn {env : Env} {L C D : Addr} {x : Str} {t : Tok} {toks : List (Nat × Str)} {h₀ : Heap} (e : EnvFor env (stmtAt atStrip) L) (hx : x.length ≤ 1000) (hT : toks.length ≤ 1001)
    (hDL : D ≠ L) (hD₀ : h₀.get? D = none) (hDC : D < C) (hLC : L < C) (hL₀ : h₀.get? L = none) {j : Nat} {p : Nat × Str} {tp tc : Tok} {m : Str → Option Value} {s₁ : Shared}
    (hp : toks[j]? = some p) (hJ : StripJ x t toks h₀ D j m s₁.heap) (hn : s₁.heap.Ns L (fun y => if y = "ch" then some (.str p.2 tc) else if y = "pos" then some (.int p.1 tp) else m y)) :
    wpAny (model prog w) A (execs (forBody stripFor) env) (fun f s₂ => (∃ h' tk, s₂ = { s₁ with heap := h', toks := tk } ∧ ∀ b o, C ≤ b → s₁.heap.get? b = some o → h'.get? b = some o) ∧
        match f with | .next => ∃ m₂, s₂.heap.Ns L m₂ ∧ StripJ x t toks h₀ D (j + 1) m₂ s₂.heap | .ret v => False | _ => False) E s₁ := by
  have hk : env.scope.kind = .function := e.kind rfl
  have hch : env.kindOf "ch" = some .local := e.kindOf (by decide)
  obtain ⟨hkeep, hma, hmr, ⟨t1, hms⟩, ⟨v, hmo, hov⟩, ⟨items, hpl, hst⟩, hlen, hsm⟩ := hJ
  rw [← e.locals] at hn
  refine wpAny_execs_cons (wpAny_If (wpAny_isTrue_Compare1 (nm hk hch hn (v := .str p.2 tc) (by simp) (litStr (eq_str (wpAny_truthy_bool ?_))))))
  have hq : Str.ofString "\"" = (⟨#[34]⟩ : Str) := by decide
  rw [hq]
  have keepL : ∀ {h h' : Heap}, (∀ b o, h₀.get? b = some o → h.get? b = some o) → Heap.SameBut L h h' → ∀ b o, h₀.get? b = some o → h'.get? b = some o := fun k hs b o q =>
    hs.extBut b o (fun (z : b = L) => by rw [z, hL₀] at q; cases q) (k b o q)
  have hstep := take_succ_fold (x := x) hp
  by_cases h34 : p.2 = ⟨#[34]⟩
  · rw [if_pos (by rw [h34]; exact beq_self_eq_true _)]
    cases hop : (stripFold x (toks.take j)).2.1 with
    | none =>
      rw [hop] at hov
      cases (hov : v = .none)
      have hst' : stripStep x (stripFold x (toks.take j)) p = ((stripFold x (toks.take j)).1, some p.1, (stripFold x (toks.take j)).2.2) := by
        unfold stripStep; rw [if_pos h34, hop]
      refine wpAny_execs_cons (wpAny_If (wpAny_isTrue_Compare1 (nm hk (e.kindOf (by decide)) hn (v := .none) (by simp [m11, m12, hmo]) (wpAny_pure (wpAny_is_plain rfl (wpAny_truthy_bool ?_))))))
      rw [if_pos (by rfl)]
      refine wpAny_execs_cons (wpAny_Assign_Name (nm hk (e.kindOf (by decide)) hn (v := .int p.1 tp) (by simp [n3]) (wpAny_storeName_local (e.kindOf (by decide)) hn (fun h₂ hn₂ hs₂ => wpAny_execs_nil (wpAny_execs_nil (wpAny_execs_nil ?_))) (plainScope hk))))
      rw [e.locals] at hn₂ hs₂
      refine ⟨⟨h₂, _, rfl, fun b o hb q => hs₂.extBut b o (fun z => Nat.lt_irrefl _ (Nat.lt_of_lt_of_le hLC (z ▸ hb))) q⟩, _, hn₂, ?_⟩
      unfold StripJ
      rw [hstep, hst']
      exact ⟨keepL hkeep hs₂, by simp [m1, m2, m14, hma], by simp [m4, m5, m6, hmr], ⟨t1, by simp [m8, m9, m10, hms]⟩, ⟨.int p.1 tp, by simp, tp, rfl⟩, ⟨items, hpl.at fun o q => hs₂.extBut D o hDL q, hst⟩, by simp only; omega, hsm⟩
    | some o =>
      rw [hop] at hov
      obtain ⟨t2, rfl⟩ := hov
      refine wpAny_execs_cons (wpAny_If (wpAny_isTrue_Compare1 (nm hk (e.kindOf (by decide)) hn (v := .int o t2) (by simp [m11, m12, hmo]) (wpAny_pure (wpAny_is_plain rfl (wpAny_truthy_bool ?_))))))
      rw [if_neg (by simp)]
      have hst' : stripStep x (stripFold x (toks.take j)) p = (p.1 + 1, none, if (stripFold x (toks.take j)).1 = o then (stripFold x (toks.take j)).2.2 else (stripFold x (toks.take j)).2.2 ++ [Txt.slice x (some ((stripFold x (toks.take j)).1 : Int)) (some (o : Int))]) := by
        unfold stripStep; rw [if_pos h34, hop]
      have hsmall := strip_small x p (stripFold x (toks.take j)) j hlen hsm
      rw [hst'] at hsmall
      have hjn : j < toks.length := (List.getElem?_eq_some_iff.mp hp).1
      refine wpAny_execs_cons (wpAny_mono (Q := fun f s₂ => f = .next ∧ ∃ h₃ tk₃ items', s₂ = { s₁ with heap := h₃, toks := tk₃ } ∧ (∀ b o, h₀.get? b = some o → h₃.get? b = some o) ∧ (∀ b o, C ≤ b → s₁.heap.get? b = some o → h₃.get? b = some o) ∧
        h₃.Ns env.locals (fun y => if y = "ch" then some (.str p.2 tc) else if y = "pos" then some (.int p.1 tp) else m y) ∧ h₃.PlainList D items' ∧ StrsAre items'.toList (stripStep x (stripFold x (toks.take j)) p).2.2) ?_ (fun f s₂ hf => ?_) fun _ _ q => q)
      · refine wpAny_If (wpAny_isTrue_Compare1 (nm hk (e.kindOf (by decide)) hn (v := .int (stripFold x (toks.take j)).1 t1) (by simp [m8, m9, hms]) (nm hk (e.kindOf (by decide)) hn (v := .int o t2) (by simp [m11, m12, hmo]) (ne_int (wpAny_truthy_bool ?_)))))
        rw [hst']
        by_cases hso : (stripFold x (toks.take j)).1 = o
        · rw [if_neg (by simp [hso]), if_pos hso]
          exact wpAny_execs_nil ⟨rfl, s₁.heap, _, items, rfl, hkeep, fun _ _ _ q => q, hn, hpl, hst⟩
        · rw [if_pos (by simp; omega), if_neg hso]
          refine wpAny_execs_cons (wpAny_Expr ?_ e.inter)
          refine wpAny_Call_append rfl rfl rfl rfl (nm hk (e.kindOf (by decide)) hn (v := .ref D) (by simp [m4, m5, hmr]) ⟨D, items, rfl, ?_, ?_⟩)
          · obtain ⟨n, hn'⟩ := hpl
            exact ⟨_, n, hn', rfl, rfl, rfl⟩
          refine Subscript_ (nm hk (e.kindOf (by decide)) hn (v := .str x t) (by simp [m1, m14, hma]) (wpAny_Slice (nm hk (e.kindOf (by decide)) hn (v := .int (stripFold x (toks.take j)).1 t1) (by simp [m8, m9, hms]) (nm hk (e.kindOf (by decide)) hn (v := .int o t2) (by simp [m11, m12, hmo]) (wpAny_pure ?_)))))
          refine tail_of_ItemOn (SBH.sliceItem_ss (P := fun h => ∀ b o, s₁.heap.get? b = some o → h.get? b = some o) (fun h ob kk b o q => Heap.get?_push_of_some _ (kk b o q)) (fun _ _ q => q) (fun h' t' k' hk' => ?_) (by have := sizeLine_eq; omega))
            (by with_unfolding_all rfl) (by intro _; with_unfolding_all rfl)
          refine wpAny_list_append_plain (hpl.at fun o q => hk' D o q) (fun h₃ hpl₃ hs₃ => ?_) (by
            have h1 := hst.len_eq
            have h2 : items.toList.length = items.size := by simp
            have := sizeLine_eq; omega)
          replace hs₃ : Heap.SameBut D h' h₃ := hs₃
          refine wpAny_execs_nil ⟨rfl, h₃, _, _, rfl, fun b o q => hs₃.extBut b o (fun z => by rw [z, hD₀] at q; cases q) (hk' b o (hkeep b o q)), fun b o hb q => hs₃.extBut b o (fun z => Nat.lt_irrefl _ (Nat.lt_of_lt_of_le hDC (z ▸ hb))) (hk' b o q),
            (hn.at' fun o q => hs₃.extBut _ o (fun z => hDL (z.symm.trans e.locals)) (hk' _ o q)), hpl₃, ?_⟩
          rw [Array.toList_push]
          exact hst.append' (.cons _ _ .nil)
      · obtain ⟨rfl, h₃, tk₃, items', rfl, hk₃, hC₃, hn₃, hpl₃, hst₃⟩ := hf
        refine wpAny_execs_cons (wpAny_Assign_Name (wpAny_BinOp (nm hk (e.kindOf (by decide)) hn₃ (v := .int p.1 tp) (by simp [n3]) (wpAny_Constant_int (add_int (wpAny_storeName_local (e.kindOf (by decide)) hn₃ (fun h₄ hn₄ hs₄ => ?_) (plainScope hk)))))))
        replace hs₄ : Heap.SameBut L h₃ h₄ := e.locals ▸ hs₄
        refine wpAny_execs_cons (wpAny_Assign_Name (wpAny_pure (wpAny_storeName_local (e.kindOf (by decide)) hn₄ (fun h₅ hn₅ hs₅ => wpAny_execs_nil (wpAny_execs_nil (wpAny_execs_nil ?_))) (plainScope hk))))
        replace hs₅ : Heap.SameBut L h₄ h₅ := e.locals ▸ hs₅
        rw [e.locals] at hn₅
        have hC : ∀ b, C ≤ b → b ≠ L := fun b hb z => Nat.lt_irrefl _ (Nat.lt_of_lt_of_le hLC (z ▸ hb))
        refine ⟨⟨h₅, _, rfl, fun b o hb q => hs₅.extBut b o (hC b hb) (hs₄.extBut b o (hC b hb) (hC₃ b o hb q))⟩, _, hn₅, ?_⟩
        unfold StripJ
        rw [hstep]
        rw [hst'] at hst₃ ⊢
        refine ⟨keepL (keepL hk₃ hs₄) hs₅, by simp [m1, m2, m3, m14, hma], by simp [m4, m5, m6, m7, hmr], ⟨_, by simp [m10]; rfl⟩, ⟨.none, by simp, rfl⟩, ⟨items', (hpl₃.at fun o q => hs₄.extBut D o hDL q).at fun o q => hs₅.extBut D o hDL q, hst₃⟩, hsmall.1, hsmall.2⟩
  · rw [if_neg (by simp [h34])]
    have hst' : stripStep x (stripFold x (toks.take j)) p = stripFold x (toks.take j) := by
      unfold stripStep; rw [if_neg h34]
    refine wpAny_execs_nil (wpAny_execs_nil ⟨⟨s₁.heap, _, rfl, fun _ _ _ e => e⟩, _, e.locals ▸ hn, ?_⟩)
    unfold StripJ
    rw [hstep, hst']
    exact ⟨hkeep, by simp [m1, m14, hma], by simp [m4, m5, hmr], ⟨t1, by simp [m8, m9, hms]⟩, ⟨v, by simp [m11, m12, hmo], hov⟩, ⟨items, hpl, hst⟩, by omega, hsm⟩
end
end Mine
namespace Mine
open PySem

section
variable {prog : Program} {w : World} {A : Around} {E : Value → Shared → Prop} {s : Shared}

set_option maxHeartbeats 4000000 in
theorem call_strip {base : Heap} {fI fS fC : Addr} {x : Str} {t : Tok} {Q : Value → Shared → Prop} (N : Names base fI fS fC) (hb : ∀ b o, base.get? b = some o → s.heap.get? b = some o) (hh : A.handled = none) (hroom : A.depth + 1 < recursionLimit)
    (hx : x.length ≤ 1000) (h : ∀ t' s', Ext s s' → Q (.str (stripOf x) t') s') : wpAny (model prog w) A (call (.ref fS) [.str x t]) Q E s := by
  refine enterDef (n := "addr") (Nat.lt_of_succ_lt hroom) N.strip N.lim hb ?_ (by decide) (by decide) rfl rfl rfl fun env h₁ e1 e2 e3 e4 e5 hn hk₁ => ?_
  · rintro ⟨name, qualname, params, body, scope, globals, closure, defaults, kwdefaults, doc, pyModule, anns, code, closureTuple, builtins⟩ h1 h2 h3
    dsimp only at h1 h2 h3
    subst h1 h2 h3
    rfl
  have e : EnvFor env (stmtAt atStrip) s.heap.objs.size := ⟨e1, e2, e3, e4, e5⟩
  have hk : env.scope.kind = .function := e.kind rfl
  have hh' : (A.deeper env).handled = none := hh
  have hroom' : (A.deeper env).depth < recursionLimit := hroom
  have hnL : h₁.Ns env.locals (fun y => if y = "addr" then some (.str x t) else none) := by rw [e2]; exact hn
  have hL₀ : s.heap.get? env.locals = none := by rw [e2]; exact getAbove _
  have hbL : ∀ b o, s.heap.get? b = some o → b ≠ env.locals := fun b o q z => by rw [z, hL₀] at q; cases q
  refine wpAny_execs_cons (wpAny_If (wpAny_isTrue_Compare1 (litStr (nm hk (e.kindOf (by decide)) hnL (v := .str x t) (by simp) (notIn_str (wpAny_truthy_bool ?_))))))
  rw [show Str.ofString "\"" = (⟨#[34]⟩ : Str) from by decide, StrLaws.found_one]
  by_cases h34 : 34 ∈ x.cps.toList
  · rw [if_neg (by simp [h34])]
    have hres : stripOf x = Str.join (Str.ofString "") (if (stripFold x (escOf x)).1 < x.length then (stripFold x (escOf x)).2.2 ++ [Txt.slice x (some ((stripFold x (escOf x)).1 : Int)) none] else (stripFold x (escOf x)).2.2) := by
      unfold stripOf; rw [if_pos h34]
    refine wpAny_execs_nil (wpAny_execs_cons (wpAny_Assign_Name (wpAny_Constant_int (wpAny_storeName_local (e.kindOf (by decide)) hnL (fun h₂ hn₂ hs₂ => ?_) (plainScope hk)))))
    replace hs₂ : Heap.SameBut env.locals h₁ h₂ := hs₂
    refine wpAny_execs_cons (wpAny_Assign_Name (wpAny_pure (wpAny_storeName_local (e.kindOf (by decide)) hn₂ (fun h₃ hn₃ hs₃ => ?_) (plainScope hk))))
    replace hs₃ : Heap.SameBut env.locals h₂ h₃ := hs₃
    refine wpAny_execs_cons (wpAny_Assign_Name (wpAny_List_spliced (Calls.spliced_nil ⟨Nat.zero_le _, wpAny_storeName_local (e.kindOf (by decide)) (hn₃.push _) (fun h₄ hn₄ hs₄ => ?_) (plainScope hk)⟩)))
    replace hs₄ : Heap.SameBut env.locals (h₃.push { cls := .type "list", data := .seq ([] : List Value).toArray }) h₄ := hs₄
    have hD₄ : h₄.PlainList h₃.objs.size #[] := by
      refine ⟨0, hs₄.extBut _ _ (fun z => ?_) (Heap.get?_push_size _ rfl)⟩
      exact Nat.lt_irrefl _ (z ▸ hn₃.lt)
    have up₃ : ∀ b o, s.heap.get? b = some o → h₃.get? b = some o := fun b o q => hs₃.extBut b o (hbL b o q) (hs₂.extBut b o (hbL b o q) (hk₁ b o q))
    have up₄ : ∀ b o, s.heap.get? b = some o → h₄.get? b = some o := fun b o q => hs₄.extBut b o (hbL b o q) (Heap.get?_push_of_some _ (up₃ b o q))
    have hb₄ : ∀ b o, base.get? b = some o → h₄.get? b = some o := fun b o q => up₄ b o (hb b o q)
    have hDL : h₃.objs.size ≠ env.locals := Nat.ne_of_gt hn₃.lt
    have hDC : h₃.objs.size < h₄.objs.size := by rw [hs₄.1, Heap.size_push]; exact Nat.lt_succ_self _
    have hLC : env.locals < h₄.objs.size := hn₄.lt
    have hD₀ : s.heap.get? h₃.objs.size = none := by
      cases q : s.heap.get? h₃.objs.size with
      | none => rfl
      | some o => exact absurd (Heap.lt_size (up₃ _ _ q)) (Nat.lt_irrefl _)
    obtain ⟨mg, hg, hg1, hg2, hg3, hg4⟩ := N.glob
    obtain ⟨mb, hbl, hbl1, hbl2⟩ := N.blt
    refine wpAny_execs_cons (wpAny_For (callDef1 hk (e.kindOf (by decide)) (e3 ▸ hg) hg3 N.iter hb₄ (nm hk (e.kindOf (by decide)) hn₄ (v := .str x t) (by simp [m2, m3, m15]) ⟨hb₄, call_esc hh' hroom' N.iter N.lim hb₄ ⟨mg, hg, hg1⟩ ⟨mb, hbl, hbl1⟩ fun s₅ hgen hk₅ hos₅ hgs₅ => ?_⟩)))
    have st₅ := hgen (A.deeper env) hh'
    refine wpAny_pyIter_gen st₅.1 ?_
    replace hk₅ : ∀ b o, h₄.get? b = some o → s₅.heap.get? b = some o := hk₅
    refine loop_gen hh' hroom' N.lim (fun b o q => Heap.lt_size (hb₄ b o q)) hLC (fun b o q => hbL b o (hb b o q)) hk (e.kindOf (by decide)) (e.kindOf (by decide)) (StripJ x t (escOf x) s.heap h₃.objs.size) (fun _ _ => False)
      ?_ (fun j m h q => fun b o z => q.1 b o (hb b o z)) ?_ (fun _ _ q => q.elim) ?_ st₅ (hn₄.at' fun o q => hk₅ _ o q) ?_
    · rintro j m h h' ⟨q1, q2, q3, q4, q5, ⟨items, q6, q7⟩, q8⟩ hkk
      exact ⟨fun b o z => hkk b o (Heap.lt_size (up₄ b o z)) (hbL b o z) (q1 b o z), q2, q3, q4, q5, ⟨items, q6.at fun o z => hkk _ o hDC hDL z, q7⟩, q8⟩
    · intro j p tp tc m s₁ hp hJ hn₁
      have := strip_turn (E := notedBy (model prog w) (A.deeper env) env fun e s' => cameBackBy (model prog w) (A.deeper env) env (fun _ _ => False) e s') (A := A.deeper env) (prog := prog) (w := w) e hx (Nat.le_trans (escOf_len x) (by omega)) (e2 ▸ hDL) hD₀ hDC (e2 ▸ hLC) (e2 ▸ hL₀) hp hJ (e2 ▸ hn₁)
      rw [← e2] at this
      exact this
    · intro m' s' hn' hJ hos hbare
      obtain ⟨q1, q2, q3, ⟨t1, q4⟩, ⟨v, q5, _⟩, ⟨items, q6, q7⟩, q8, q9⟩ := hJ
      rw [List.take_length] at q4 q7 q8 q9
      have hb' : ∀ b o, base.get? b = some o → s'.heap.get? b = some o := fun b o q => q1 b o (hb b o q)
      have hlen := escOf_len x
      show wpAny _ _ (execs _ env) _ _ _
      refine wpAny_execs_cons (wpAny_mono (Q := fun f s₂ => f = .next ∧ ∃ h₆ tk₆ items', s₂ = { s' with heap := h₆, toks := tk₆ } ∧ (∀ b o, s.heap.get? b = some o → h₆.get? b = some o) ∧ h₆.Ns env.locals m' ∧ h₆.PlainList h₃.objs.size items' ∧
        StrsAre items'.toList (if (stripFold x (escOf x)).1 < x.length then (stripFold x (escOf x)).2.2 ++ [Txt.slice x (some ((stripFold x (escOf x)).1 : Int)) none] else (stripFold x (escOf x)).2.2)) ?_ (fun f s₂ hf => ?_) fun _ _ q => q)
      · refine wpAny_If (wpAny_isTrue_Compare1 (nm hk (e.kindOf (by decide)) hn' q4 (Call_Name1 (Calls.Name_function_global hk (e.kindOf (by decide)) (Calls.loadGlobal_builtin (e3 ▸ hg.keeps hb') hg2 (e4 ▸ hbl.keeps hb') hbl2
          (Calls.callWith_builtin rfl (Calls.evalArgs_plain (Calls.spliced_cons (nm hk (e.kindOf (by decide)) hn' q2 (Calls.spliced_nil (len_str (by omega) (lt_int (wpAny_truthy_bool ?_)))))))))))))
        by_cases hlt : (stripFold x (escOf x)).1 < x.length
        · rw [if_pos (by simp; omega), if_pos hlt]
          refine wpAny_execs_cons (wpAny_Expr ?_ e.inter)
          refine wpAny_Call_append rfl rfl rfl rfl (nm hk (e.kindOf (by decide)) hn' q3 ⟨_, items, rfl, ?_, ?_⟩)
          · obtain ⟨n, hn'⟩ := q6
            exact ⟨_, n, hn', rfl, rfl, rfl⟩
          refine Subscript_ (nm hk (e.kindOf (by decide)) hn' q2 (wpAny_Slice (nm hk (e.kindOf (by decide)) hn' q4 (wpAny_pure (wpAny_pure ?_)))))
          refine tail_of_ItemOn (SBH.sliceItem_sn (P := fun h => ∀ b o, s'.heap.get? b = some o → h.get? b = some o) (fun h ob kk b o q => Heap.get?_push_of_some _ (kk b o q)) (fun _ _ q => q) (fun h' t' k' hk' => ?_) (by have := sizeLine_eq; omega))
            (by with_unfolding_all rfl) (by intro _; with_unfolding_all rfl)
          refine wpAny_list_append_plain (q6.at fun o q => hk' _ o q) (fun h₆ hpl₆ hs₆ => ?_) (by
            have h1 := q7.len_eq
            have h2 : items.toList.length = items.size := by simp
            have := sizeLine_eq; omega)
          replace hs₆ : Heap.SameBut h₃.objs.size h' h₆ := hs₆
          refine wpAny_execs_nil ⟨rfl, h₆, _, _, rfl, fun b o q => hs₆.extBut b o (fun z => by rw [z, hD₀] at q; cases q) (hk' b o (q1 b o q)), (hn'.at' fun o q => hs₆.extBut _ o (Ne.symm hDL) (hk' _ o q)), hpl₆, ?_⟩
          rw [Array.toList_push]
          exact q7.append' (.cons _ _ .nil)
        · rw [if_neg (by simp; omega), if_neg hlt]
          exact wpAny_execs_nil ⟨rfl, s'.heap, _, items, rfl, q1, hn', q6, q7⟩
      · obtain ⟨rfl, h₆, tk₆, items', rfl, q1', hn₆, hpl₆, hst₆⟩ := hf
        refine wpAny_execs_cons (wpAny_Return_some (Call_method1 rfl rfl rfl (litStr ?_)))
        refine ⟨"str", "str.join", F.plainAttrs_str, F.slot_str_join, F.type_str_join, typeIs_str _ _ _, (fun _ e => nomatch e), ?_⟩
        refine Calls.callWith_builtin rfl (Calls.evalArgs_plain (Calls.spliced_cons (nm hk (e.kindOf (by decide)) hn₆ q3 (Calls.spliced_nil ?_))))
        have hys : ∀ y ∈ (if (stripFold x (escOf x)).1 < x.length then (stripFold x (escOf x)).2.2 ++ [Txt.slice x (some ((stripFold x (escOf x)).1 : Int)) none] else (stripFold x (escOf x)).2.2), y.length ≤ 1000 := by
          intro y hy
          split at hy
          · rcases List.mem_append.mp hy with hy | hy
            · exact Nat.le_trans (q9 y hy) hx
            · rw [List.mem_singleton.mp hy]; exact Nat.le_trans (PyProof.Txt.length_slice_le x _ _) hx
          · exact Nat.le_trans (q9 y hy) hx
        have hys2 : (if (stripFold x (escOf x)).1 < x.length then (stripFold x (escOf x)).2.2 ++ [Txt.slice x (some ((stripFold x (escOf x)).1 : Int)) none] else (stripFold x (escOf x)).2.2).length ≤ 1002 := by
          split
          · rw [List.length_append, List.length_singleton]; omega
          · omega
        refine join_list (ys := if (stripFold x (escOf x)).1 < x.length then (stripFold x (escOf x)).2.2 ++ [Txt.slice x (some ((stripFold x (escOf x)).1 : Int)) none] else (stripFold x (escOf x)).2.2) hpl₆.isList hst₆ ?_ fun t' k' => ?_
        · have h1 := sum_small 1000 _ hys
          have h0 : (Str.ofString "").length = 0 := by decide
          rw [h0, Nat.mul_zero, Nat.add_zero]
          exact Nat.le_trans h1 (by omega)
        · have h' := h t' { s' with heap := h₆, toks := k' } ⟨q1', hos.trans hos₅, fun q => hbare (by obtain ⟨gs, hb1, hb2⟩ := hgs₅; rw [hb2]; exact AllBare.push q hb1)⟩
          rw [hres, ← PySem.StrLaws.glued_eq_join] at h'
          exact h'
    · refine ⟨fun b o q => hk₅ b o (up₄ b o q), by simp [m2, m3, m15], by simp, ⟨_, by simp [m10, m16, stripFold]; rfl⟩, ⟨.none, by simp [m17], rfl⟩, ⟨#[], hD₄.at fun o q => hk₅ _ o q, .nil⟩, Nat.zero_le _, fun y hy => nomatch hy⟩
  · rw [if_pos (by simp [h34])]
    refine wpAny_execs_cons (wpAny_Return_some (nm hk (e.kindOf (by decide)) hnL (v := .str x t) (by simp) ?_))
    have : stripOf x = x := by unfold stripOf; rw [if_neg h34]
    have h' := h t { s with heap := h₁, toks := s.toks + 1 + 1 } (Ext.of_heap hk₁)
    rw [this] at h'
    exact h'
end
end Mine
namespace Mine
open PySem

/-- the count of open brackets along the pairs -/
def chkGo : List (Nat × Str) → Int → Bool
  | [], n => n == 0
  | p :: r, n => if p.2 = ⟨#[40]⟩ then chkGo r (n + 1) else if p.2 = ⟨#[41]⟩ then (if n - 1 < 0 then false else chkGo r (n - 1)) else chkGo r n
/-- what the check answers -/
def chk (x : Str) : Bool := chkGo (escOf (stripOf x)) 0

def ChkJ (toks : List (Nat × Str)) (h₀ : Heap) (j : Nat) (m : Str → Option Value) (h : Heap) : Prop :=
  (∀ b o, h₀.get? b = some o → h.get? b = some o) ∧ ∃ n t, m "opens" = some (.int n t) ∧ chkGo (toks.drop j) n = chkGo toks 0
def ChkZ (toks : List (Nat × Str)) (h₀ : Heap) (v : Value) (h : Heap) : Prop := (∀ b o, h₀.get? b = some o → h.get? b = some o) ∧ v = .bool (chkGo toks 0)

def chkFor : Stmt := nthS (defBody (stmtAt atCheck)) 2
theorem k1 : ¬ (Str.ofString "opens" = Str.ofString "ch") := by decide
theorem k2 : ¬ (Str.ofString "opens" = Str.ofString "pos") := by decide
theorem k3 : ¬ (Str.ofString "addr" = Str.ofString "opens") := by decide

section
variable {prog : Program} {w : World} {A : Around} {E : Value → Shared → Prop} {s : Shared}

theorem chk_turn {env : Env} {L C : Addr} {toks : List (Nat × Str)} {h₀ : Heap} (e : EnvFor env (stmtAt atCheck) L) (hLC : L < C) (hL₀ : h₀.get? L = none) {j : Nat} {p : Nat × Str} {tp tc : Tok} {m : Str → Option Value} {s₁ : Shared}
    (hp : toks[j]? = some p) (hJ : ChkJ toks h₀ j m s₁.heap) (hn : s₁.heap.Ns L (fun y => if y = "ch" then some (.str p.2 tc) else if y = "pos" then some (.int p.1 tp) else m y)) :
    wpAny (model prog w) A (execs (forBody chkFor) env) (fun f s₂ => (∃ h' tk, s₂ = { s₁ with heap := h', toks := tk } ∧ ∀ b o, C ≤ b → s₁.heap.get? b = some o → h'.get? b = some o) ∧
        match f with | .next => ∃ m₂, s₂.heap.Ns L m₂ ∧ ChkJ toks h₀ (j + 1) m₂ s₂.heap | .ret v => ChkZ toks h₀ v s₂.heap | _ => False) E s₁ := by
  have hk : env.scope.kind = .function := e.kind rfl
  have hch : env.kindOf "ch" = some .local := e.kindOf (by decide)
  have hop : env.kindOf "opens" = some .local := e.kindOf (by decide)
  obtain ⟨hkeep, n, t, hmo, hgo⟩ := hJ
  have hd : toks.drop j = p :: toks.drop (j + 1) := by
    have hlt : j < toks.length := (List.getElem?_eq_some_iff.mp hp).1
    rw [List.drop_eq_getElem_cons hlt]
    congr 1
    rw [List.getElem?_eq_getElem hlt] at hp
    exact Option.some.inj hp
  rw [hd] at hgo
  have hcons : ∀ r n, chkGo (p :: r) n = if p.2 = ⟨#[40]⟩ then chkGo r (n + 1) else if p.2 = ⟨#[41]⟩ then (if n - 1 < 0 then false else chkGo r (n - 1)) else chkGo r n := fun _ _ => rfl
  rw [hcons] at hgo
  rw [← e.locals] at hn
  have hC : ∀ b, C ≤ b → b ≠ L := fun b hb z => Nat.lt_irrefl _ (Nat.lt_of_lt_of_le hLC (z ▸ hb))
  have keepL : ∀ {h h' : Heap}, (∀ b o, h₀.get? b = some o → h.get? b = some o) → Heap.SameBut L h h' → ∀ b o, h₀.get? b = some o → h'.get? b = some o := fun k hs b o q =>
    hs.extBut b o (fun (z : b = L) => by rw [z, hL₀] at q; cases q) (k b o q)
  refine wpAny_execs_cons (wpAny_If (wpAny_isTrue_Compare1 (nm hk hch hn (v := .str p.2 tc) (by simp) (litStr (eq_str (wpAny_truthy_bool ?_))))))
  rw [show Str.ofString "(" = (⟨#[40]⟩ : Str) from by decide]
  by_cases h40 : p.2 = ⟨#[40]⟩
  · rw [if_pos h40] at hgo
    rw [if_pos (by rw [h40]; exact beq_self_eq_true _)]
    refine wpAny_execs_cons (wpAny_AugAssign_Name (wpAny_loadName_local hk hop hn (v := .int n t) (by simp [k1, k2, hmo]) (wpAny_Constant_int (iadd_int (wpAny_storeName_local hop hn (fun h₂ hn₂ hs₂ => wpAny_execs_nil (wpAny_execs_nil ?_)) (plainScope hk))))))
    rw [e.locals] at hn₂ hs₂
    exact ⟨⟨h₂, _, rfl, fun b o hb q => hs₂.extBut b o (hC b hb) q⟩, _, hn₂, keepL hkeep hs₂, n + 1, _, by simp; rfl, hgo⟩
  · rw [if_neg h40] at hgo
    rw [if_neg (by simp [h40])]
    refine wpAny_execs_cons (wpAny_If (wpAny_isTrue_Compare1 (nm hk hch hn (v := .str p.2 tc) (by simp) (litStr (eq_str (wpAny_truthy_bool ?_))))))
    rw [show Str.ofString ")" = (⟨#[41]⟩ : Str) from by decide]
    by_cases h41 : p.2 = ⟨#[41]⟩
    · rw [if_pos h41] at hgo
      rw [if_pos (by rw [h41]; exact beq_self_eq_true _)]
      refine wpAny_execs_cons (wpAny_AugAssign_Name (wpAny_loadName_local hk hop hn (v := .int n t) (by simp [k1, k2, hmo]) (wpAny_Constant_int (isub_int (wpAny_storeName_local hop hn (fun h₂ hn₂ hs₂ => ?_) (plainScope hk))))))
      replace hs₂ : Heap.SameBut L s₁.heap h₂ := e.locals ▸ hs₂
      refine wpAny_execs_cons (wpAny_If (wpAny_isTrue_Compare1 (nm hk hop hn₂ (v := .int (n - 1) _) (by simp; rfl) (wpAny_Constant_int (lt_int (wpAny_truthy_bool ?_))))))
      rw [e.locals] at hn₂
      by_cases hneg : n - 1 < 0
      · rw [if_pos hneg] at hgo
        rw [if_pos (by simpa using hneg)]
        refine wpAny_execs_cons (wpAny_Return_some (wpAny_pure ?_))
        exact ⟨⟨h₂, _, rfl, fun b o hb q => hs₂.extBut b o (hC b hb) q⟩, keepL hkeep hs₂, by rw [← hgo]⟩
      · rw [if_neg hneg] at hgo
        rw [if_neg (by simpa using hneg)]
        refine wpAny_execs_nil (wpAny_execs_nil (wpAny_execs_nil (wpAny_execs_nil ?_)))
        exact ⟨⟨h₂, _, rfl, fun b o hb q => hs₂.extBut b o (hC b hb) q⟩, _, hn₂, keepL hkeep hs₂, n - 1, _, by simp; rfl, hgo⟩
    · rw [if_neg h41] at hgo
      rw [if_neg (by simp [h41])]
      refine wpAny_execs_nil (wpAny_execs_nil (wpAny_execs_nil ?_))
      exact ⟨⟨s₁.heap, _, rfl, fun _ _ _ q => q⟩, _, e.locals ▸ hn, hkeep, n, t, by simp [k1, k2, hmo], hgo⟩

set_option maxHeartbeats 4000000 in
theorem call_check {base : Heap} {fI fS fC : Addr} {x : Str} {t : Tok} {Q : Value → Shared → Prop} (N : Names base fI fS fC) (hb : ∀ b o, base.get? b = some o → s.heap.get? b = some o) (hh : A.handled = none) (hroom : A.depth + 2 < recursionLimit)
    (hx : x.length ≤ 1000) (h : ∀ s', Ext s s' → Q (.bool (chk x)) s') : wpAny (model prog w) A (call (.ref fC) [.str x t]) Q E s := by
  refine enterDef (n := "addr") (by omega) N.check N.lim hb ?_ (by decide) (by decide) rfl rfl rfl fun env h₁ e1 e2 e3 e4 e5 hn hk₁ => ?_
  · rintro ⟨name, qualname, params, body, scope, globals, closure, defaults, kwdefaults, doc, pyModule, anns, code, closureTuple, builtins⟩ h1 h2 h3
    dsimp only at h1 h2 h3
    subst h1 h2 h3
    rfl
  have e : EnvFor env (stmtAt atCheck) s.heap.objs.size := ⟨e1, e2, e3, e4, e5⟩
  have hk : env.scope.kind = .function := e.kind rfl
  have hh' : (A.deeper env).handled = none := hh
  have hroom' : (A.deeper env).depth + 1 < recursionLimit := hroom
  have hroom'' : (A.deeper env).depth < recursionLimit := Nat.lt_of_succ_lt hroom'
  have hnL : h₁.Ns env.locals (fun y => if y = "addr" then some (.str x t) else none) := by rw [e2]; exact hn
  have hL₀ : s.heap.get? env.locals = none := by rw [e2]; exact getAbove _
  have hbL : ∀ b o, s.heap.get? b = some o → b ≠ env.locals := fun b o q z => by rw [z, hL₀] at q; cases q
  obtain ⟨mg, hg, hg1, hg2, hg3, hg4⟩ := N.glob
  obtain ⟨mb, hbl, hbl1, hbl2⟩ := N.blt
  have hb₁ : ∀ b o, base.get? b = some o → h₁.get? b = some o := fun b o q => hk₁ b o (hb b o q)
  have hop : env.kindOf "opens" = some .local := e.kindOf (by decide)
  refine wpAny_execs_cons (wpAny_Assign_Name (callDef1 hk (e.kindOf (by decide)) (e3 ▸ hg) hg4 N.strip hb₁ (nm hk (e.kindOf (by decide)) hnL (v := .str x t) (by simp) ⟨hb₁, call_strip N hb₁ hh' hroom' hx fun t' s₂ x₂ => ?_⟩)))
  have hn₂ : s₂.heap.Ns env.locals (fun y => if y = "addr" then some (.str x t) else none) := hnL.at' fun o q => x₂.keep _ o q
  have hk₂ : ∀ b o, s.heap.get? b = some o → s₂.heap.get? b = some o := fun b o q => x₂.keep b o (hk₁ b o q)
  have hos₂ : s₂.os = s.os := x₂.os
  have hbare₂ : AllBare s.gens → AllBare s₂.gens := x₂.bare
  refine wpAny_storeName_local (e.kindOf (by decide)) hn₂ (fun h₃ hn₃ hs₃ => ?_) (plainScope hk)
  refine wpAny_execs_cons (wpAny_Assign_Name (wpAny_Constant_int (wpAny_storeName_local hop hn₃ (fun h₄ hn₄ hs₄ => ?_) (plainScope hk))))
  replace hs₄ : Heap.SameBut env.locals h₃ h₄ := hs₄
  have up₄ : ∀ b o, s.heap.get? b = some o → h₄.get? b = some o := fun b o q => hs₄.extBut b o (hbL b o q) (hs₃.extBut b o (hbL b o q) (hk₂ b o q))
  have hb₄ : ∀ b o, base.get? b = some o → h₄.get? b = some o := fun b o q => up₄ b o (hb b o q)
  have hLC : env.locals < h₄.objs.size := hn₄.lt
  refine wpAny_execs_cons (wpAny_For (callDef1 hk (e.kindOf (by decide)) (e3 ▸ hg) hg3 N.iter hb₄ (nm hk (e.kindOf (by decide)) hn₄ (v := .str (stripOf x) t') (by simp [k3]) ⟨hb₄, call_esc hh' hroom'' N.iter N.lim hb₄ ⟨mg, hg, hg1⟩ ⟨mb, hbl, hbl1⟩ fun s₅ hgen hk₅ hos₅ hgs₅ => ?_⟩)))
  have st₅ := hgen (A.deeper env) hh'
  refine wpAny_pyIter_gen st₅.1 ?_
  replace hk₅ : ∀ b o, h₄.get? b = some o → s₅.heap.get? b = some o := hk₅
  have hos : s₅.os = s.os := hos₅.trans hos₂
  have hbare : AllBare s.gens → AllBare s₅.gens := fun q => by
    obtain ⟨gs, hb1, hb2⟩ := hgs₅
    rw [hb2]
    exact AllBare.push (hbare₂ q) hb1
  refine loop_gen hh' hroom'' N.lim (fun b o q => Heap.lt_size (hb₄ b o q)) hLC (fun b o q => hbL b o (hb b o q)) hk (e.kindOf (by decide)) (e.kindOf (by decide)) (ChkJ (escOf (stripOf x)) s.heap) (ChkZ (escOf (stripOf x)) s.heap)
    ?_ (fun j m h q => fun b o z => q.1 b o (hb b o z)) ?_ ?_ ?_ st₅ (hn₄.at' fun o q => hk₅ _ o q) ?_
  · rintro j m h h' ⟨q1, q2⟩ hkk
    exact ⟨fun b o z => hkk b o (Heap.lt_size (up₄ b o z)) (hbL b o z) (q1 b o z), q2⟩
  · intro j p tp tc m s₁ hp hJ hn₁
    have := chk_turn (E := notedBy (model prog w) (A.deeper env) env fun e s' => cameBackBy (model prog w) (A.deeper env) env (fun _ _ => False) e s') (A := A.deeper env) (prog := prog) (w := w) e (e2 ▸ hLC) (e2 ▸ hL₀) hp hJ (e2 ▸ hn₁)
    rw [← e2] at this
    exact this
  · rintro v s' ⟨q1, rfl⟩ q3 q4
    exact h s' ⟨q1, q3.trans hos, fun z => q4 (hbare z)⟩
  · rintro m' s' hn' ⟨q1, n, tn, q2, q3⟩ hos' hbare'
    rw [List.drop_length] at q3
    show wpAny _ _ (execs _ env) _ _ _
    refine wpAny_execs_cons (wpAny_Return_some (wpAny_Compare1 (nm hk hop hn' q2 (wpAny_Constant_int (eq_int ?_)))))
    have h' := h { s' with toks := s'.toks + 1 } ⟨q1, hos'.trans hos, fun z => hbare' (hbare z)⟩
    have : (n == 0) = chk x := q3
    rw [← this] at h'
    exact h'
  · exact ⟨fun b o q => hk₅ b o (up₄ b o q), 0, _, by simp; rfl, rfl⟩
end
end Mine
namespace Mine
open PySem

/-- the figures to the base 16, the last one first to be laid -/
def apF : Nat → Nat → List UInt8 → List UInt8
  | 0, _, acc => acc
  | f + 1, n, acc => if n = 0 then acc else apF f (n / 16) ((65 + n % 16).toUInt8 :: acc)
def ap (n : Nat) : List UInt8 := apF 64 n []

def apAlpha : Array UInt8 := #[65, 66, 67, 68, 69, 70, 71, 72, 73, 74, 75, 76, 77, 78, 79, 80]
theorem ap_letter : ∀ k : Fin 16, KBy.picked apAlpha (some ((k.val : Nat) : Int)) (some ((k.val : Nat) + 1 : Int)) = #[(65 + k.val).toUInt8] := by decide +kernel

structure IntNames (base : Heap) (fA : Addr) : Prop where
  def_ : FnIs base (stmtAt atInt) fA
  lim : base.NoLimit
  glob : ∃ mg, base.Ns mainGlobals mg ∧ mg "int" = none ∧ mg "abs" = none ∧ mg "divmod" = none
  blt : ∃ mb, base.Ns builtinsNs mb ∧ mb "int" = some (.type "int") ∧ mb "abs" = some (.builtin "abs") ∧ mb "divmod" = some (.builtin "divmod")

theorem i1 : ¬ (Str.ofString "num" = Str.ofString "val") := by decide
theorem i2 : ¬ (Str.ofString "num" = Str.ofString "AP") := by decide
theorem i3 : ¬ (Str.ofString "num" = Str.ofString "mod") := by decide
theorem i4 : ¬ (Str.ofString "val" = Str.ofString "AP") := by decide
theorem i5 : ¬ (Str.ofString "val" = Str.ofString "num") := by decide
theorem i6 : ¬ (Str.ofString "val" = Str.ofString "mod") := by decide
theorem i7 : ¬ (Str.ofString "AP" = Str.ofString "val") := by decide
theorem i8 : ¬ (Str.ofString "AP" = Str.ofString "num") := by decide
theorem i9 : ¬ (Str.ofString "AP" = Str.ofString "mod") := by decide
theorem i10 : ¬ (Str.ofString "mod" = Str.ofString "num") := by decide
theorem i11 : ¬ (Str.ofString "mod" = Str.ofString "val") := by decide

def intWhile : Stmt := nthS (defBody (stmtAt atInt)) 3
def whileBody : Stmt → List Stmt
  | .While _ b _ _ => b
  | _ => []

section
variable {prog : Program} {w : World} {A : Around} {E : Value → Shared → Prop} {s : Shared}

theorem litBytes {env : Env} {x : List UInt8} {k : Nat} {pos : Pos} {Q : Value → Shared → Prop} (h : Q (.bytes x.toArray s.toks) { s with toks := s.toks + 1 }) :
    wpAny (model prog w) A (eval (.Constant (.bytes x) k pos) env) Q E s := fun _ _ _ => h

/-- a turn: the last figure is taken off and laid in front -/
theorem int_turn {env : Env} {L : Addr} {h₀ : Heap} (e : EnvFor env (stmtAt atInt) L) (hh : A.handled = none) {mg mb : Str → Option Value} (hg : h₀.Ns mainGlobals mg) (hg3 : mg "divmod" = none) (hbl : h₀.Ns builtinsNs mb) (hbl3 : mb "divmod" = some (.builtin "divmod"))
    {n : Nat} {acc : List UInt8} {t1 t2 t3 : Tok} {m : Str → Option Value} {s₁ : Shared} (hacc : acc.length ≤ 1000)
    (hkeep : ∀ b o, h₀.get? b = some o → s₁.heap.get? b = some o) (hL₀ : h₀.get? L = none) (hn : s₁.heap.Ns L m) (hnum : m "num" = some (.int n t1)) (hval : m "val" = some (.bytes acc.toArray t2)) (hAP : m "AP" = some (.bytes apAlpha t3)) :
    wpAny (model prog w) A (execs (whileBody intWhile) env) (fun f s₂ => f = .next ∧ ∃ h' tk m' t1 t2 t3, s₂ = { s₁ with heap := h', toks := tk } ∧ (∀ b o, h₀.get? b = some o → h'.get? b = some o) ∧ h'.Ns L m' ∧
      m' "num" = some (.int (n / 16 : Nat) t1) ∧ m' "val" = some (.bytes ((65 + n % 16).toUInt8 :: acc).toArray t2) ∧ m' "AP" = some (.bytes apAlpha t3)) E s₁ := by
  have hk : env.scope.kind = .function := e.kind rfl
  rw [← e.locals] at hn
  have keepL : ∀ {h h' : Heap}, (∀ b o, h₀.get? b = some o → h.get? b = some o) → Heap.SameBut env.locals h h' → ∀ b o, h₀.get? b = some o → h'.get? b = some o := fun k hs b o q =>
    hs.extBut b o (fun (z : b = env.locals) => by rw [z, e.locals, hL₀] at q; cases q) (k b o q)
  refine wpAny_execs_cons (Assign_Tuple (Call_Name2 (Calls.Name_function_global hk (e.kindOf (by decide)) (Calls.loadGlobal_builtin (e.globals ▸ hg.keeps hkeep) hg3 (e.builtins ▸ hbl.keeps hkeep) hbl3
    (Calls.callWith_builtin rfl (Calls.evalArgs_plain (Calls.spliced_cons (nm hk (e.kindOf (by decide)) hn hnum (Calls.spliced_cons (wpAny_Constant_int (Calls.spliced_nil (divmod_int (by decide) ?_))))))))))))
  have hd1 : (n : Int).fdiv 16 = ((n / 16 : Nat) : Int) := by
    rw [Int.fdiv_eq_ediv_of_nonneg _ (by decide)]; rfl
  have hd2 : (n : Int).fmod 16 = ((n % 16 : Nat) : Int) := by
    rw [Int.fmod_eq_emod_of_nonneg _ (by decide)]; rfl
  rw [hd1, hd2]
  refine wpAny_assign_Tuple hh ⟨_, Heap.get?_push_size _ rfl, rfl, _, rfl⟩ rfl rfl fun h₂ hx₂ => ?_
  have up₂ : ∀ b o, s₁.heap.get? b = some o → h₂.get? b = some o := fun b o q => by
    have q' := Heap.get?_push_of_some { cls := .type "tuple", data := .seq #[.int ((n / 16 : Nat) : Int) (s₁.toks + 1), .int ((n % 16 : Nat) : Int) (s₁.toks + 1 + 1)] } q
    exact hx₂ b o (Nat.ne_of_lt (Heap.lt_size q')) q'
  have hn₂ : h₂.Ns env.locals m := hn.keeps up₂
  show wpAny _ _ (do holding [.int ((n % 16 : Nat) : Int) _] (assign (.Name "num" _) env (.int ((n / 16 : Nat) : Int) _)); do holding [] (assign (.Name "mod" _) env (.int ((n % 16 : Nat) : Int) _)); pure ()) _ _ _
  refine wpAny_bind (wpAny_holding (wpAny_assign_Name (wpAny_storeName_local (e.kindOf (by decide)) hn₂ (fun h₃ hn₃ hs₃ => ?_) (plainScope hk))))
  replace hs₃ : Heap.SameBut env.locals h₂ h₃ := hs₃
  refine wpAny_bind (wpAny_holding (wpAny_assign_Name (wpAny_storeName_local (e.kindOf (by decide)) hn₃ (fun h₄ hn₄ hs₄ => wpAny_pure ?_) (plainScope hk))))
  replace hs₄ : Heap.SameBut env.locals h₃ h₄ := hs₄
  have keep₄ : ∀ b o, h₀.get? b = some o → h₄.get? b = some o := keepL (keepL (fun b o q => up₂ b o (hkeep b o q)) hs₃) hs₄
  refine wpAny_execs_cons (wpAny_Assign_Name (wpAny_BinOp (Subscript_ (nm hk (e.kindOf (by decide)) hn₄ (v := .bytes apAlpha t3) (by simp [i8, i9, hAP]) (wpAny_Slice (nm hk (e.kindOf (by decide)) hn₄ (v := .int ((n % 16 : Nat) : Int) _) (by simp; rfl)
    (wpAny_BinOp (nm hk (e.kindOf (by decide)) hn₄ (v := .int ((n % 16 : Nat) : Int) _) (by simp; rfl) (wpAny_Constant_int (add_int (wpAny_pure ?_)))))))))))
  have hlet : KBy.picked apAlpha (some ((n % 16 : Nat) : Int)) (some (((n % 16 : Nat) : Int) + 1)) = #[(65 + n % 16).toUInt8] := ap_letter ⟨n % 16, Nat.mod_lt _ (by decide)⟩
  refine tail_of_ItemOn ⟨"bytes", _, FB.slot_bytes_getitem.lookup, typeIs_bytes _ _ _, getItem_meets (typeIs_bytes _ _ _) (by decide) FB.slot_bytes_getitem FB.entry_bytes_getitem (FB.args_bytes_getitem_2 _ _)
    (KBc.meets_slice2 apAlpha t3 _ (IsPart.int _ _) (IsPart.int _ _)) ⟨Heap.IsSliceOf.new _ _ _ _, ?_, fun t' k => ?_⟩⟩ (by with_unfolding_all rfl) (by intro _; with_unfolding_all rfl)
  · rw [hlet]; show 1 ≤ sizeLine; decide
  rw [hlet]
  refine nm hk (e.kindOf (by decide)) (hn₄.push _) (v := .bytes acc.toArray t2) (by simp [i5, i6, hval]) (KBy.add_bytes ?_ fun t'' k' => ?_)
  · simp only [Array.size]; show 1 + acc.length ≤ _; omega
  refine wpAny_storeName_local (e.kindOf (by decide)) (hn₄.push _) (fun h₅ hn₅ hs₅ => wpAny_execs_nil ?_) (plainScope hk)
  rw [e.locals] at hn₅
  refine ⟨rfl, h₅, _, _, _, t'', t3, rfl, keepL (fun b o q => Heap.get?_push_of_some _ (keep₄ b o q)) hs₅, hn₅, by simp [i1, i3]; rfl, ?_, by simp [i7, i8, i9, hAP]⟩
  simp

theorem natAbs_if (n : Int) : (if n < 0 then -n else n) = (n.natAbs : Int) := by split <;> omega

set_option maxHeartbeats 4000000 in
theorem call_int {base : Heap} {fA : Addr} {n : Int} {u : Tok} {Q : Value → Shared → Prop} (N : IntNames base fA) (hb : ∀ b o, base.get? b = some o → s.heap.get? b = some o) (hh : A.handled = none) (hroom : A.depth + 1 < recursionLimit)
    (hsz : n.natAbs < 16 ^ 64) (h : ∀ t s', Ext s s' → Q (.bytes (ap n.natAbs).toArray t) s') : wpAny (model prog w) A (call (.ref fA) [.int n u]) Q E s := by
  refine enterDef (n := "num") (Nat.lt_of_succ_lt hroom) N.def_ N.lim hb ?_ (by decide) (by decide) rfl rfl rfl fun env h₁ e1 e2 e3 e4 e5 hn hk₁ => ?_
  · rintro ⟨name, qualname, params, body, scope, globals, closure, defaults, kwdefaults, doc, pyModule, anns, code, closureTuple, builtins⟩ h1 h2 h3
    dsimp only at h1 h2 h3
    subst h1 h2 h3
    rfl
  have e : EnvFor env (stmtAt atInt) s.heap.objs.size := ⟨e1, e2, e3, e4, e5⟩
  have hk : env.scope.kind = .function := e.kind rfl
  have hh' : (A.deeper env).handled = none := hh
  have hnL : h₁.Ns env.locals (fun y => if y = "num" then some (.int n u) else none) := by rw [e2]; exact hn
  have hL₀ : s.heap.get? env.locals = none := by rw [e2]; exact getAbove _
  have hbL : ∀ b o, s.heap.get? b = some o → b ≠ env.locals := fun b o q z => by rw [z, hL₀] at q; cases q
  obtain ⟨mg, hg, hg1, hg2, hg3⟩ := N.glob
  obtain ⟨mb, hbl, hbl1, hbl2, hbl3⟩ := N.blt
  have hg' := hg.keeps hb
  have hbl' := hbl.keeps hb
  refine wpAny_execs_cons (wpAny_Assign_Name (litBytes (wpAny_storeName_local (e.kindOf (by decide)) hnL (fun h₂ hn₂ hs₂ => ?_) (plainScope hk))))
  replace hs₂ : Heap.SameBut env.locals h₁ h₂ := hs₂
  refine wpAny_execs_cons (wpAny_Assign_Name (litBytes (wpAny_storeName_local (e.kindOf (by decide)) hn₂ (fun h₃ hn₃ hs₃ => ?_) (plainScope hk))))
  replace hs₃ : Heap.SameBut env.locals h₂ h₃ := hs₃
  have up₃ : ∀ b o, s.heap.get? b = some o → h₃.get? b = some o := fun b o q => hs₃.extBut b o (hbL b o q) (hs₂.extBut b o (hbL b o q) (hk₁ b o q))
  refine wpAny_execs_cons (wpAny_Assign_Name (Call_Name1 ?_))
  refine Calls.Name_function_global hk (e.kindOf (by decide)) (Calls.loadGlobal_builtin (e3 ▸ hg'.keeps up₃) hg1 (e4 ▸ hbl'.keeps up₃) hbl1 ?_)
  refine PyProof.Rows.callWith_type rfl (Calls.evalArgs_plain (Calls.spliced_cons (Call_Name1 ?_)))
  refine Calls.Name_function_global hk (e.kindOf (by decide)) (Calls.loadGlobal_builtin (e3 ▸ hg'.keeps up₃) hg2 (e4 ▸ hbl'.keeps up₃) hbl2 ?_)
  refine Calls.callWith_builtin rfl (Calls.evalArgs_plain (Calls.spliced_cons ?_))
  refine nm hk (e.kindOf (by decide)) hn₃ (v := .int n u) (by simp [i1, i2]) (Calls.spliced_nil (call_abs_int fun u' tk' => Calls.spliced_nil (call_int_int ?_)))
  rw [natAbs_if]
  refine wpAny_storeName_local (e.kindOf (by decide)) hn₃ (fun h₄ hn₄ hs₄ => ?_) (plainScope hk)
  replace hs₄ : Heap.SameBut env.locals h₃ h₄ := hs₄
  have up₄ : ∀ b o, s.heap.get? b = some o → h₄.get? b = some o := fun b o q => hs₄.extBut b o (hbL b o q) (up₃ b o q)
  refine wpAny_execs_cons (wpAny_While (codeAny_whileLoop (fun f s' => ∃ k acc m t1 t2 t3, (∃ h' tk, s' = { s with heap := h', toks := tk }) ∧ (∀ b o, s.heap.get? b = some o → s'.heap.get? b = some o) ∧ s'.heap.Ns env.locals m ∧
    m "num" = some (.int (k : Nat) t1) ∧ m "val" = some (.bytes acc.toArray t2) ∧ m "AP" = some (.bytes apAlpha t3) ∧ apF f k acc = ap n.natAbs ∧ k < 16 ^ f ∧ acc.length + f = 64) ?_ 64 ?_))
  · rintro f s' ⟨k, acc, m, t1, t2, t3, ⟨h', tk, rfl⟩, q1, q2, q3, q4, q5, q6, q7, q8⟩
    refine isTrue_plain (nm hk (e.kindOf (by decide)) q2 q3 (truthy_int ?_))
    by_cases hk0 : k = 0
    · subst hk0
      rw [if_neg (by simp)]
      refine wpAny_execs_nil (wpAny_execs_cons (wpAny_Return_some (nm hk (e.kindOf (by decide)) q2 q4 ?_)))
      have hacc : acc = ap n.natAbs := by
        rw [← q6]
        cases f <;> rfl
      rw [hacc]
      exact h t2 { s with heap := h', toks := tk } (Ext.of_heap q1)
    · rw [if_pos (by simpa using hk0)]
      cases f with
      | zero => exact absurd (Nat.lt_one_iff.mp q7) hk0
      | succ f =>
        refine wpAny_mono (int_turn (h₀ := s.heap) e hh' hg' hg3 hbl' hbl3 (by omega) q1 (e2 ▸ hL₀) (e2 ▸ q2) q3 q4 q5) (fun fl s₂ hf => ?_) fun _ _ q => q
        obtain ⟨rfl, h'', tk'', m', t1', t2', t3', rfl, p1, p2, p3, p4, p5⟩ := hf
        refine ⟨f, Nat.lt_succ_self _, k / 16, _, m', t1', t2', t3', ⟨_, _, rfl⟩, p1, e2 ▸ p2, p3, p4, p5, ?_, ?_, ?_⟩
        · rw [← q6]
          show _ = (if k = 0 then acc else _)
          rw [if_neg hk0]
        · rw [Nat.pow_succ] at q7
          omega
        · simp only [List.length_cons]; omega
  · exact ⟨n.natAbs, [], _, _, _, _, ⟨_, _, rfl⟩, up₄, hn₄, by simp; rfl, by simp [i4, i5]; rfl, by simp [i8]; exact ⟨rfl, rfl⟩, rfl, hsz, rfl⟩
end
end Mine
namespace Mine
open PySem
def atTaken : Nat := 7

structure TakenNames (base : Heap) (fC fT : Addr) : Prop where
  def_ : FnIs base (stmtAt atTaken) fT
  glob : ∃ mg, base.Ns mainGlobals mg ∧ mg "isinstance" = none ∧ mg "bool" = none ∧ mg "_check_parenthesis" = some (.ref fC)
  blt : ∃ mb, base.Ns builtinsNs mb ∧ mb "isinstance" = some (.builtin "isinstance") ∧ mb "bool" = some (.type "bool")

section
variable {prog : Program} {w : World} {A : Around} {E : Value → Shared → Prop} {s : Shared}

set_option maxHeartbeats 4000000 in
theorem call_taken {base : Heap} {fI fS fC fT : Addr} {x : Str} {t : Tok} {Q : Value → Shared → Prop} (N : Names base fI fS fC) (N2 : TakenNames base fC fT) (hb : ∀ b o, base.get? b = some o → s.heap.get? b = some o) (hh : A.handled = none) (hroom : A.depth + 3 < recursionLimit)
    (hx : x.length ≤ 1000) (h : ∀ s', Ext s s' → Q (.bool (chk x)) s') : wpAny (model prog w) A (call (.ref fT) [.str x t]) Q E s := by
  refine enterDef (n := "text") (by omega) N2.def_ N.lim hb ?_ (by decide) (by decide) rfl rfl rfl fun env h₁ e1 e2 e3 e4 e5 hn hk₁ => ?_
  · rintro ⟨name, qualname, params, body, scope, globals, closure, defaults, kwdefaults, doc, pyModule, anns, code, closureTuple, builtins⟩ h1 h2 h3
    dsimp only at h1 h2 h3
    subst h1 h2 h3
    rfl
  have e : EnvFor env (stmtAt atTaken) s.heap.objs.size := ⟨e1, e2, e3, e4, e5⟩
  have hk : env.scope.kind = .function := e.kind rfl
  have hh' : (A.deeper env).handled = none := hh
  have hroom' : (A.deeper env).depth + 2 < recursionLimit := by show A.depth + 1 + 2 < _; omega
  have hnL : h₁.Ns env.locals (fun y => if y = "text" then some (.str x t) else none) := by rw [e2]; exact hn
  have hL₀ : s.heap.get? env.locals = none := by rw [e2]; exact getAbove _
  have hbL : ∀ b o, s.heap.get? b = some o → b ≠ env.locals := fun b o q z => by rw [z, hL₀] at q; cases q
  obtain ⟨mg, hg, hg1, hg2, hg3⟩ := N2.glob
  obtain ⟨mb, hbl, hbl1, hbl2⟩ := N2.blt
  have hb₁ : ∀ b o, base.get? b = some o → h₁.get? b = some o := fun b o q => hk₁ b o (hb b o q)
  have htold : env.kindOf "told" = some .local := e.kindOf (by decide)
  refine wpAny_execs_cons (wpAny_Assign_Name (callDef1 hk (e.kindOf (by decide)) (e3 ▸ hg) hg3 N.check hb₁ (nm hk (e.kindOf (by decide)) hnL (v := .str x t) (by simp) ⟨hb₁, call_check N hb₁ hh' hroom' hx fun s₂ x₂ => ?_⟩)))
  have hn₂ : s₂.heap.Ns env.locals (fun y => if y = "text" then some (.str x t) else none) := hnL.at' fun o q => x₂.keep _ o q
  have hk₂ : ∀ b o, s.heap.get? b = some o → s₂.heap.get? b = some o := fun b o q => x₂.keep b o (hk₁ b o q)
  have hos₂ : s₂.os = s.os := x₂.os
  have hbare₂ : AllBare s.gens → AllBare s₂.gens := x₂.bare
  refine wpAny_storeName_local htold hn₂ (fun h₃ hn₃ hs₃ => ?_) (plainScope hk)
  have up₃ : ∀ b o, s.heap.get? b = some o → h₃.get? b = some o := fun b o q => hs₃.extBut b o (hbL b o q) (hk₂ b o q)
  have hb₃ : ∀ b o, base.get? b = some o → h₃.get? b = some o := fun b o q => up₃ b o (hb b o q)
  refine wpAny_execs_cons (wpAny_Return_some (wpAny_IfExp (isTrue_plain (Call_Name2 ?_))))
  refine Calls.Name_function_global hk (e.kindOf (by decide)) (Calls.loadGlobal_builtin (e3 ▸ hg.keeps hb₃) hg1 (e4 ▸ hbl.keeps hb₃) hbl1 ?_)
  refine Calls.callWith_builtin rfl (Calls.evalArgs_plain (Calls.spliced_cons ?_))
  refine nm hk htold hn₃ (v := .bool (chk x)) (by simp) (Calls.spliced_cons ?_)
  refine Calls.Name_function_global hk (e.kindOf (by decide)) (Calls.loadGlobal_builtin (e3 ▸ hg.keeps hb₃) hg2 (e4 ▸ hbl.keeps hb₃) hbl2 ?_)
  refine Calls.spliced_nil (IsiPair.bool_bool (wpAny_truthy_bool ?_))
  show wpAny _ _ (eval _ env) _ _ _
  refine nm hk htold hn₃ (v := .bool (chk x)) (by simp) ?_
  exact h _ ⟨up₃, hos₂, hbare₂⟩
end
end Mine
namespace Mine
open PySem

abbrev Row := Str × Int × Int
def TupRow (h : Heap) (v : Value) (r : Row) : Prop := ∃ T t1 t2 t3, v = .ref T ∧ h.IsTuple T #[.str r.1 t1, .int r.2.1 t2, .int r.2.2 t3]
def RowsAt (h : Heap) (R : Addr) (rows : List Row) : Prop := ∃ items, h.PlainList R items ∧ Paired (TupRow h) items.toList rows

/-- the tuples stand -/
def TupKeep (h h' : Heap) : Prop := ∀ b items, h.IsTuple b items → h'.IsTuple b items
theorem TupKeep.of_keep {h h' : Heap} (k : ∀ b o, h.get? b = some o → h'.get? b = some o) : TupKeep h h' := fun b items ⟨o, ho, r⟩ => ⟨o, k b o ho, r⟩
theorem TupKeep.trans {h h' h'' : Heap} (x : TupKeep h h') (y : TupKeep h' h'') : TupKeep h h'' := fun b items q => y b items (x b items q)
theorem TupKeep.of_ns {h h' : Heap} {L : Addr} {m : Str → Option Value} (hn : h.Ns L m) (k : ∀ b o, b ≠ L → h.get? b = some o → h'.get? b = some o) : TupKeep h h' := fun b items ⟨o, ho, hc, n, hd⟩ =>
  ⟨o, k b o (fun z => by
    obtain ⟨o', es, ep, h1, h2, _⟩ := hn
    rw [z] at ho
    rw [ho] at h1
    cases h1
    rw [hd] at h2
    cases h2) ho, hc, n, hd⟩
theorem TupKeep.of_list {h h' : Heap} {D : Addr} {items : Array Value} (hn : h.PlainList D items) (k : ∀ b o, b ≠ D → h.get? b = some o → h'.get? b = some o) : TupKeep h h' := fun b items ⟨o, ho, hc, n, hd⟩ =>
  ⟨o, k b o (fun z => by
    obtain ⟨n', h1⟩ := hn
    rw [z] at ho
    rw [ho] at h1
    cases h1
    simp at hc) ho, hc, n, hd⟩
theorem TupRow.keep {h h' : Heap} (k : TupKeep h h') {v : Value} {r : Row} (x : TupRow h v r) : TupRow h' v r := let ⟨T, t1, t2, t3, e, q⟩ := x; ⟨T, t1, t2, t3, e, k _ _ q⟩
theorem paired_mono {α β : Type} {F G : α → β → Prop} (hFG : ∀ a b, F a b → G a b) : ∀ {l₁ : List α} {l₂ : List β}, Paired F l₁ l₂ → Paired G l₁ l₂
  | _, _, .nil => .nil
  | _, _, .cons a t => .cons (hFG _ _ a) (paired_mono hFG t)
theorem paired_get {α β : Type} {F : α → β → Prop} : ∀ {l₁ : List α} {l₂ : List β}, Paired F l₁ l₂ → ∀ {j : Nat} {b : β}, l₂[j]? = some b → ∃ a, l₁[j]? = some a ∧ F a b
  | _, _, .nil, j, b, h => by cases j <;> cases h
  | _, _, .cons q t, 0, b, h => by
    simp only [List.getElem?_cons_zero, Option.some.injEq] at h
    subst h
    exact ⟨_, rfl, q⟩
  | _, _, .cons q t, j + 1, b, h => by
    simp only [List.getElem?_cons_succ] at h ⊢
    exact paired_get t h
theorem RowsAt.keep {h h' : Heap} {R : Addr} {rows : List Row} (k : TupKeep h h') (kR : ∀ o, h.get? R = some o → h'.get? R = some o) (x : RowsAt h R rows) : RowsAt h' R rows :=
  let ⟨items, q1, q2⟩ := x; ⟨items, q1.at kR, paired_mono (fun _ _ => TupRow.keep k) q2⟩

section
variable {prog : Program} {w : World} {A : Around} {s : Shared}

/-- a for over a list of triples, by what holds between its turns -/
theorem loop_rows {R' : Result → Shared → Prop} {rows : List Row} {R I : Addr} {env : Env} {n1 n2 n3 : Str} {p1 p2 p3 p4 : Pos} {kk : Nat} {body : List Stmt} {m : Str → Option Value}
    (hh : A.handled = none) (hIL : I ≠ env.locals) (hRI : R ≠ I) (hk : env.scope.kind = .function) (k1 : env.kindOf n1 = some .local) (k2 : env.kindOf n2 = some .local) (k3 : env.kindOf n3 = some .local)
    (J : Nat → (Str → Option Value) → Heap → Prop)
    (hJ : ∀ j m h h', J j m h → (∀ b o, b ≠ env.locals → b ≠ I → h.get? b = some o → h'.get? b = some o) → h.Ns env.locals m → TupKeep h h' → J j m h') (hJR : ∀ j m h, J j m h → RowsAt h R rows)
    (step : ∀ j r t1 t2 t3 m s₁, rows[j]? = some r → J j m s₁.heap → s₁.heap.Ns env.locals (fun y => if y = n3 then some (.int r.2.2 t3) else if y = n2 then some (.int r.2.1 t2) else if y = n1 then some (.str r.1 t1) else m y) →
      wpAny (model prog w) A (execs body env) (fun f s₂ => f = .next ∧ (∃ h' tk, s₂ = { s₁ with heap := h', toks := tk }) ∧ (∀ o, s₁.heap.get? I = some o → o.cls = .type "list_iterator" → s₂.heap.get? I = some o) ∧
        ∃ m₂, s₂.heap.Ns env.locals m₂ ∧ J (j + 1) m₂ s₂.heap) (notedBy (model prog w) A env fun e s' => R' (.error e) s') s₁)
    (hafter : ∀ m' h' tk', h'.Ns env.locals m' → J rows.length m' h' → R' (.ok .next) { s with heap := h', toks := tk' })
    (hit : s.heap.IsListIter I R 0) (hn : s.heap.Ns env.locals m) (h0 : J 0 m s.heap) :
    codeAny (model prog w) A (.forLoop (.Tuple [.Name n1 p1, .Name n2 p2, .Name n3 p3] kk p4) (.ref I) body [] env) R' s := by
  refine codeAny_forLoop_any (fun k s' => ∃ j m' h' tk', s' = { s with heap := h', toks := tk' } ∧ k = rows.length + 1 - j ∧ j ≤ rows.length ∧ h'.IsListIter I R j ∧ h'.Ns env.locals m' ∧ J j m' h') ?_
    (rows.length + 1) ⟨0, m, s.heap, s.toks, rfl, rfl, Nat.zero_le _, hit, hn, h0⟩
  rintro k s' ⟨j, m', h', tk', rfl, rfl, hj, hit', hn', hJ'⟩
  obtain ⟨items, hpl, hpair⟩ := hJR _ _ _ hJ'
  have hlen := hpair.length
  cases hv : rows[j]? with
  | none =>
    have hje : j = rows.length := Nat.le_antisymm hj (by simpa using hv)
    subst hje
    refine wpAny_pyNext_list_end hh hit' hpl.isList (by simp [← hlen]) fun h₁ hx₁ => wpAny_execs_nil ?_
    replace hx₁ : Heap.ExtBut I h' h₁ := hx₁
    refine hafter m' h₁ _ (hn'.at' fun o q => hx₁ _ o (Ne.symm hIL) q) (hJ _ _ _ _ hJ' (fun b o _ hb q => hx₁ b o hb q) hn' ?_)
    rintro b its ⟨o, ho, hc, n, hd⟩
    refine ⟨o, hx₁ b o (fun z => ?_) ho, hc, n, hd⟩
    obtain ⟨oi, ho', hc', _⟩ := hit'
    rw [z, ho'] at ho
    cases ho
    rw [hc'] at hc
    exact absurd hc (by decide)
  | some r =>
    have hlt : j < rows.length := (List.getElem?_eq_some_iff.mp hv).1
    obtain ⟨v, hiv, T, t1, t2, t3, rfl, hT⟩ := paired_get hpair hv
    have hiv' : items[j]? = some (.ref T) := by rw [← Array.getElem?_toList]; exact hiv
    refine wpAny_pyNext_list_item hit' hpl.isList hiv' fun h₁ hit₁ hs₁ => ?_
    replace hs₁ : Heap.SameBut I h' h₁ := hs₁
    have tk₁ : TupKeep h' h₁ := by
      rintro b its ⟨o, ho, hc, n, hd⟩
      refine ⟨o, hs₁.extBut b o (fun z => ?_) ho, hc, n, hd⟩
      obtain ⟨oi, ho', hc', _⟩ := hit'
      rw [z, ho'] at ho
      cases ho
      rw [hc'] at hc
      exact absurd hc (by decide)
    refine wpAny_letOwnedTupleGo_listiter hit₁ ?_
    refine wpAny_assign_Tuple hh (tk₁ _ _ hT) rfl rfl fun h₃ hx₃ => ?_
    replace hx₃ : Heap.ExtBut h₁.objs.size h₁ h₃ := hx₃
    have up₃ : ∀ b o, h₁.get? b = some o → h₃.get? b = some o := fun b o q => hx₃ b o (Nat.ne_of_lt (Heap.lt_size q)) q
    have hn₃ : h₃.Ns env.locals m' := (hn'.at' fun o q => hs₁.extBut _ o (Ne.symm hIL) q).keeps up₃
    show wpAny _ _ (do holding [.int r.2.1 t2, .int r.2.2 t3] (assign (.Name n1 _) env (.str r.1 t1)); do holding [.int r.2.2 t3] (assign (.Name n2 _) env (.int r.2.1 t2)); do holding [] (assign (.Name n3 _) env (.int r.2.2 t3)); pure ()) _ _ _
    refine wpAny_bind (wpAny_holding (wpAny_assign_Name (wpAny_storeName_local k1 hn₃ (fun h₄ hn₄ hs₄ => ?_) (plainScope hk))))
    replace hs₄ : Heap.SameBut env.locals h₃ h₄ := hs₄
    refine wpAny_bind (wpAny_holding (wpAny_assign_Name (wpAny_storeName_local k2 hn₄ (fun h₅ hn₅ hs₅ => ?_) (plainScope hk))))
    replace hs₅ : Heap.SameBut env.locals h₄ h₅ := hs₅
    refine wpAny_bind (wpAny_holding (wpAny_assign_Name (wpAny_storeName_local k3 hn₅ (fun h₆ hn₆ hs₆ => wpAny_pure ?_) (plainScope hk))))
    replace hs₆ : Heap.SameBut env.locals h₅ h₆ := hs₆
    have up₆ : ∀ b o, b ≠ env.locals → h₃.get? b = some o → h₆.get? b = some o := fun b o hb q => hs₆.extBut b o hb (hs₅.extBut b o hb (hs₄.extBut b o hb q))
    have tk₆ : TupKeep h' h₆ := tk₁.trans ((TupKeep.of_keep up₃).trans (.of_ns hn₃ up₆))
    have hJ₆ : J j m' h₆ := hJ _ _ _ _ hJ' (fun b o hbL hbI q => up₆ b o hbL (up₃ b o (hs₁.extBut b o hbI q))) hn' tk₆
    refine wpAny_mono (step j r t1 t2 t3 m' _ hv hJ₆ hn₆) (fun f s₂ hf => ?_) fun _ _ q => q
    obtain ⟨rfl, ⟨h₇, tk₇, rfl⟩, hI, m₂, hn₂, hJ₂⟩ := hf
    refine ⟨rows.length + 1 - (j + 1), by omega, j + 1, m₂, h₇, _, rfl, rfl, hlt, ?_, hn₂, hJ₂⟩
    obtain ⟨oi, ho', hc', hd'⟩ := hit₁
    exact ⟨oi, hI oi (up₆ I oi hIL (up₃ I oi ho')) hc', hc', hd'⟩
end
end Mine
namespace Mine
open PySem

def IntsIn (h : Heap) (l : Addr) (ns : List Int) : Prop := ∃ vs, h.IsList l vs.toArray ∧ IntsAre vs ns
theorem IntsIn.keeps {h h' : Heap} {l : Addr} {ns : List Int} (x : IntsIn h l ns) (k : ∀ o, h.get? l = some o → h'.get? l = some o) : IntsIn h' l ns :=
  let ⟨vs, ⟨o, ho, r⟩, q⟩ := x; ⟨vs, ⟨o, k o ho, r⟩, q⟩

/-- an item of a list of ints, from behind where the place lies below nought -/
def itemAt (ns : List Int) (i : Int) : Int := ns.getD (if i < 0 then i + ns.length else i).toNat 0

section
variable {prog : Program} {w : World} {A : Around} {E : Value → Shared → Prop} {s : Shared}

theorem list_item {value slice : Expr} {l : Addr} {ns : List Int} {i : Int} {u : Tok} {Q : Value → Shared → Prop} (hl : IntsIn s.heap l ns) (h1 : -(ns.length : Int) ≤ i) (h2 : i < ns.length) (hz : ns.length ≤ 1000)
    (h : ∀ t, Q (.int (itemAt ns i) t) s)
    (hs : subscripted slice false (.ref l) (.int i u) = operate [.ref l, .int i u] (getItem (.ref l) (.int i u)) := by with_unfolding_all rfl) :
    wpAny (model prog w) A (subscriptTail value slice (.ref l) (.int i u)) Q E s := by
  obtain ⟨vs, hL, hi⟩ := hl
  have hlen := hi.length
  have key : ∀ k : Nat, k < ns.length → ∃ t, vs.toArray[k]? = some (.int (ns.getD k 0) t) := fun k hk => by
    have := hi.get k (ns.getD k 0) (by rw [List.getD_eq_getElem?_getD, List.getElem?_eq_getElem hk]; rfl)
    simpa using this
  refine tail_any hL.typeIs slot_list_getitem.lookup ?_ hs
  by_cases hneg : i < 0
  · have hk : (i + ns.length).toNat < ns.length := by omega
    obtain ⟨t, ht⟩ := key _ hk
    have h' := h t
    unfold itemAt at h'
    rw [if_pos hneg] at h'
    refine wpAny_getItem_list_neg hL hneg (by simp [hlen]; omega) (by omega) ?_ h'
    rw [show ((vs.toArray.size : Nat) : Int) = ns.length by simp [hlen]]
    exact ht
  · have hk : i.toNat < ns.length := by omega
    obtain ⟨t, ht⟩ := key _ hk
    have h' := h t
    unfold itemAt at h'
    rw [if_neg hneg] at h'
    exact wpAny_getItem_list hL (by omega) (by omega) ht h'

theorem tripleOf {env : Env} {e1 e2 e3 : Expr} {k : Nat} {pos : Pos} {Q : Value → Shared → Prop}
    (h : wpAny (model prog w) A (eval e1 env) (fun v1 s1 => wpAny (model prog w) A (eval e2 env) (fun v2 s2 => wpAny (model prog w) A (eval e3 env) (fun v3 s3 =>
      Q (.ref s3.heap.objs.size) { s3 with heap := s3.heap.push { cls := .type "tuple", data := .seq #[v1, v2, v3] } }) E s2) E s1) E s)
    (h1 : starEach [e1, e2, e3] env = [(false, eval e1 env), (false, eval e2 env), (false, eval e3 env)] := by rfl) :
    wpAny (model prog w) A (eval (.Tuple [e1, e2, e3] k pos) env) Q E s := by
  refine wpAny_Tuple_spliced ?_
  rw [h1]
  refine Calls.spliced_cons (wpAny_mono h (fun v1 s1 hh => ?_) fun _ _ e => e)
  refine Calls.spliced_cons (wpAny_mono hh (fun v2 s2 hh2 => ?_) fun _ _ e => e)
  refine Calls.spliced_cons (wpAny_mono hh2 (fun v3 s3 hh3 => ?_) fun _ _ e => e)
  exact Calls.spliced_nil ⟨by show 3 ≤ sizeLine; decide, hh3⟩

theorem tripleRow {h : Heap} {t1 t2 t3 : Tok} {r : Row} :
    TupRow (h.push { cls := .type "tuple", data := .seq #[.str r.1 t1, .int r.2.1 t2, .int r.2.2 t3] }) (.ref h.objs.size) r :=
  ⟨_, t1, t2, t3, rfl, _, Heap.get?_push_size _ rfl, rfl, _, rfl⟩

def StepD (D : Addr) (s s₂ : Shared) : Prop := ∃ h' tk, s₂ = { s with heap := h', toks := tk } ∧ ∀ b o, b ≠ D → s.heap.get? b = some o → h'.get? b = some o
theorem StepD.trans {D : Addr} {s s₂ s₃ : Shared} (x : StepD D s s₂) (y : StepD D s₂ s₃) : StepD D s s₃ := by
  obtain ⟨h, tk, rfl, k⟩ := x
  obtain ⟨h', tk', rfl, k'⟩ := y
  exact ⟨h', tk', rfl, fun b o hb q => k' b o hb (k b o hb q)⟩

/-- a row laid behind the others, if the test says so -/
theorem if_append {env : Env} {test e : Expr} {n : Str} {p1 p2 p3 p4 p5 : Pos} {c : Bool} {D : Addr} {rows : List Row} {r : Row} {m : Str → Option Value}
    (htest : wpAny (model prog w) A (isTrue test env (eval test env)) (fun b s₁ => b = c ∧ Keeps s s₁) E s)
    (hel : c = true → ∀ s₁, Keeps s s₁ → wpAny (model prog w) A (eval e env) (fun v s₂ => TupRow s₂.heap v r ∧ Keeps s₁ s₂) E s₁)
    (hk : env.scope.kind = .function) (hkn : env.kindOf n = some .local) (hn : s.heap.Ns env.locals m) (hm : m n = some (.ref D)) (hD : RowsAt s.heap D rows) (hz : rows.length ≤ 10000)
    (hi : interactive env = false) (hline : (p2.endLine == p3.line) = true) (hse : starEach [e] env = [(false, eval e env)]) (hsw : swapsWith (.Call (.Attribute (.Name n p1) "append" p2) [e] [] p3) none p4.line env = pure false)
    (hbase : attributeBase (.Name n p1) "append" env (eval (.Name n p1) env) = eval (.Name n p1) env) (hd : (n == ("__debug__" : Str)) = false) :
    wpAny (model prog w) A (exec (.If test [.Expr (.Call (.Attribute (.Name n p1) "append" p2) [e] [] p3) p4] [] p5) env)
      (fun f s₂ => f = .next ∧ StepD D s s₂ ∧ RowsAt s₂.heap D (rows ++ if c = true then [r] else [])) E s := by
  refine wpAny_If (wpAny_mono htest (fun b s₁ hb => ?_) fun _ _ q => q)
  obtain ⟨rfl, h₁, tk₁, rfl, hk₁⟩ := hb
  cases b with
  | false =>
    rw [if_neg Bool.false_ne_true]
    refine wpAny_execs_nil ⟨rfl, ⟨h₁, tk₁, rfl, fun b o _ q => hk₁ b o q⟩, ?_⟩
    rw [if_neg Bool.false_ne_true, List.append_nil]
    exact hD.keep (.of_keep hk₁) fun o q => hk₁ _ o q
  | true =>
    rw [if_pos rfl]
    have hD₁ : RowsAt h₁ D rows := hD.keep (.of_keep hk₁) fun o q => hk₁ _ o q
    obtain ⟨items, hpl, hpair⟩ := hD₁
    refine wpAny_execs_cons (wpAny_Expr ?_ hi hsw)
    refine wpAny_Call_append hbase (by rw [hse]; rfl) hline (by rw [hse]; rfl) (nm hk hkn (hn.keeps hk₁) hm ⟨D, items, rfl, ?_, ?_⟩ hd)
    · obtain ⟨n, hn'⟩ := hpl
      exact ⟨_, n, hn', rfl, rfl, rfl⟩
    refine wpAny_mono (hel rfl _ ⟨h₁, tk₁, rfl, hk₁⟩) (fun v s₂ hv => ?_) fun _ _ q => q
    obtain ⟨hv, h₂, tk₂, rfl, hk₂⟩ := hv
    replace hk₂ : ∀ b o, h₁.get? b = some o → h₂.get? b = some o := hk₂
    have hpl₂ := hpl.at fun o q => hk₂ _ o q
    refine wpAny_list_append_plain hpl₂ (fun h₃ hpl₃ hs₃ => wpAny_execs_nil ?_) (by
      have h1 := hpair.length
      have h2 : items.toList.length = items.size := by simp
      have := sizeLine_eq; omega)
    replace hs₃ : Heap.SameBut D h₂ h₃ := hs₃
    refine ⟨rfl, ⟨h₃, _, rfl, fun b o hb q => hs₃.extBut b o hb (hk₂ b o (hk₁ b o q))⟩, _, hpl₃, ?_⟩
    rw [if_pos rfl, Array.toList_push]
    have tk₃ : TupKeep h₂ h₃ := .of_list hpl₂ fun b o hb q => hs₃.extBut b o hb q
    exact Paired.snoc (paired_mono (fun _ _ q => (q.keep (.of_keep hk₂)).keep tk₃) hpair) (TupRow.keep tk₃ hv)
end
end Mine
namespace Mine
open PySem
def atRows : Nat := 8
def outerFor : Stmt := nthS (defBody (stmtAt atRows)) 2
def innerFor : Stmt := nthS (forBody outerFor) 1

def rowStep (plain : Str) (level down : List Int) (behind : Int) (r : Row) : List Row :=
  (if r.2.1 < behind then [(r.1 ++ Str.ofString "(", r.2.1 + 1, r.2.2)] else []) ++
  (if (if r.2.1 < 0 then -r.2.1 else r.2.1) ≤ behind then [(r.1 ++ plain, r.2.1, r.2.2 * itemAt level r.2.1)] else []) ++
  (if -r.2.1 < behind then [(r.1 ++ Str.ofString ")", r.2.1 - 1, r.2.2 * itemAt down r.2.1)] else [])

structure RowOk (level down : List Int) (behind : Int) (r : Row) : Prop where
  l : (if r.2.1 < 0 then -r.2.1 else r.2.1) ≤ behind → -(level.length : Int) ≤ r.2.1 ∧ r.2.1 < level.length
  d : -r.2.1 < behind → -(down.length : Int) ≤ r.2.1 ∧ r.2.1 < down.length
  t : r.1.length ≤ 800

theorem ifOne {c : Prop} [Decidable c] (r : Row) : (if c then [r] else []).length ≤ 1 := by split <;> simp
theorem keeps_refl (s : Shared) : Keeps s s := ⟨s.heap, s.toks, rfl, fun _ _ q => q⟩
theorem keeps_toks {s : Shared} {tk : Nat} : Keeps s { s with toks := tk } := ⟨s.heap, tk, rfl, fun _ _ q => q⟩

section
variable {prog : Program} {w : World} {A : Around} {E : Value → Shared → Prop} {s : Shared}

theorem small_item {ns : List Int} (h : ∀ n ∈ ns, -1000 ≤ n ∧ n ≤ 1000) (i : Int) : Builtin.Int.intBits (itemAt ns i) ≤ 64 := by
  unfold itemAt
  generalize (if i < 0 then i + (ns.length : Int) else i).toNat = k
  by_cases hk : k < ns.length
  · have := h (ns[k]) (List.getElem_mem hk)
    rw [List.getD_eq_getElem?_getD, List.getElem?_eq_getElem hk]
    exact PySem.intBits_le_64 (by simp; omega) (by simp; omega)
  · rw [List.getD_eq_getElem?_getD, List.getElem?_eq_none (by omega)]
    exact PySem.intBits_le_64 (by simp) (by simp)

set_option maxHeartbeats 2000000 in
theorem rows_turn {base : Heap} {env : Env} {L D la ld : Addr} {plain : Str} {level down : List Int} {behind : Int} {r : Row} {acc : List Row} {t1 t2 t3 tp tb : Tok} {m mg mb : Str → Option Value} (e : EnvFor env (stmtAt atRows) L)
    (hg : base.Ns mainGlobals mg) (hg1 : mg "abs" = none) (hbl : base.Ns builtinsNs mb) (hbl1 : mb "abs" = some (.builtin "abs")) (hb : ∀ b o, base.get? b = some o → s.heap.get? b = some o) (hDb : ∀ o, base.get? D = some o → False)
    (hn : s.heap.Ns L m) (m1 : m "text" = some (.str r.1 t1)) (m2 : m "deep" = some (.int r.2.1 t2)) (m3 : m "weight" = some (.int r.2.2 t3)) (m4 : m "plain" = some (.str plain tp)) (m5 : m "behind" = some (.int behind tb))
    (m6 : m "level" = some (.ref la)) (m7 : m "down" = some (.ref ld)) (m8 : m "longer" = some (.ref D)) (hl : IntsIn s.heap la level) (hd : IntsIn s.heap ld down) (hlD : la ≠ D) (hdD : ld ≠ D) (hLD : L ≠ D)
    (hp : plain.length ≤ 1000) (hls : ∀ n ∈ level, -1000 ≤ n ∧ n ≤ 1000) (hds : ∀ n ∈ down, -1000 ≤ n ∧ n ≤ 1000) (hll : level.length ≤ 1000) (hdl : down.length ≤ 1000) (ok : RowOk level down behind r) (hD : RowsAt s.heap D acc) (hz : acc.length ≤ 9000) :
    wpAny (model prog w) A (execs (forBody innerFor) env) (fun f s₂ => f = .next ∧ StepD D s s₂ ∧ RowsAt s₂.heap D (acc ++ rowStep plain level down behind r)) E s := by
  have hk : env.scope.kind = .function := e.kind rfl
  have kn : ∀ {n : Str}, (defScope (stmtAt atRows)).names.lookup n = some .local → env.kindOf n = some .local := fun h => e.kindOf h
  rw [← e.locals] at hn hLD
  refine wpAny_execs_cons (wpAny_mono (if_append (c := decide (r.2.1 < behind)) (r := (r.1 ++ Str.ofString "(", r.2.1 + 1, r.2.2)) ?_ ?_ hk (kn (by decide)) hn m8 hD (by omega) e.inter rfl rfl rfl rfl (by decide)) (fun f s₂ hf => ?_) fun _ _ q => q)
  · refine wpAny_isTrue_Compare1 (nm hk (kn (by decide)) hn m2 (nm hk (kn (by decide)) hn m5 (lt_int (wpAny_truthy_bool ⟨rfl, ?_⟩))))
    exact keeps_refl _
  · rintro - s₁ ⟨h₁, tk₁, rfl, hk₁⟩
    have hn₁ := hn.keeps hk₁
    refine tripleOf (wpAny_BinOp (nm hk (kn (by decide)) hn₁ m1 (litStr (add_str (fun t' tk' => ?_) ?_))))
    · refine wpAny_BinOp (nm hk (kn (by decide)) hn₁ m2 (wpAny_Constant_int (add_int (nm hk (kn (by decide)) hn₁ m3 ?_))))
      exact ⟨tripleRow (r := (r.1 ++ Str.ofString "(", r.2.1 + 1, r.2.2)), _, _, rfl, fun b o q => Heap.get?_push_of_some _ q⟩
    · have := ok.t; have := sizeLine_eq; rw [show (Str.ofString "(").length = 1 from by decide]; omega
  obtain ⟨rfl, ⟨h₂, tk₂, rfl, hk₂⟩, hD₂⟩ := hf
  have up₂ : ∀ b o, b ≠ D → s.heap.get? b = some o → h₂.get? b = some o := hk₂
  have hn₂ : h₂.Ns env.locals m := hn.at' fun o q => up₂ _ o hLD q
  have hb₂ : ∀ b o, base.get? b = some o → h₂.get? b = some o := fun b o q => up₂ b o (fun z => hDb o (z ▸ q)) (hb b o q)
  have hl₂ : IntsIn h₂ la level := hl.keeps fun o q => up₂ _ o hlD q
  refine wpAny_execs_cons (wpAny_mono (if_append (c := decide ((if r.2.1 < 0 then -r.2.1 else r.2.1) ≤ behind)) (r := (r.1 ++ plain, r.2.1, r.2.2 * itemAt level r.2.1)) ?_ ?_ hk (kn (by decide)) hn₂ m8 hD₂ (by rw [List.length_append]; have := @ifOne (decide (r.2.1 < behind) = true) _ (r.1 ++ Str.ofString "(", r.2.1 + 1, r.2.2); omega) e.inter rfl rfl rfl rfl (by decide)) (fun f s₂ hf => ?_) fun _ _ q => q)
  · refine wpAny_isTrue_Compare1 (Call_Name1 ?_)
    refine Calls.Name_function_global hk (e.kindOf (by decide)) (Calls.loadGlobal_builtin (e.globals ▸ hg.keeps hb₂) hg1 (e.builtins ▸ hbl.keeps hb₂) hbl1 ?_)
    refine Calls.callWith_builtin rfl (Calls.evalArgs_plain (Calls.spliced_cons (nm hk (kn (by decide)) hn₂ m2 (Calls.spliced_nil (call_abs_int fun u' tk' => ?_)))))
    refine nm hk (kn (by decide)) hn₂ m5 (le_int (wpAny_truthy_bool ⟨rfl, ?_⟩))
    exact keeps_toks
  · intro hc s₁ ⟨h₁, tk₁, hs, hk₁⟩
    subst hs
    have hn₁ := hn₂.keeps hk₁
    have hr := ok.l (of_decide_eq_true hc)
    refine tripleOf (wpAny_BinOp (nm hk (kn (by decide)) hn₁ m1 (nm hk (kn (by decide)) hn₁ m4 (add_str (fun t' tk' => ?_) ?_))))
    · refine nm hk (kn (by decide)) hn₁ m2 (wpAny_BinOp (nm hk (kn (by decide)) hn₁ m3 ?_))
      refine Subscript_ (nm hk (kn (by decide)) hn₁ m6 (nm hk (kn (by decide)) hn₁ m2 (list_item (hl₂.keeps fun o q => hk₁ _ o q) hr.1 hr.2 hll fun t4 => ?_)))
      refine mul_int ?_ (.of_right (small_item hls _))
      exact ⟨tripleRow (r := (r.1 ++ plain, r.2.1, r.2.2 * itemAt level r.2.1)), _, _, rfl, fun b o q => Heap.get?_push_of_some _ q⟩
    · have := ok.t; have := sizeLine_eq; omega
  obtain ⟨rfl, ⟨h₃, tk₃, rfl, hk₃⟩, hD₃⟩ := hf
  have up₃ : ∀ b o, b ≠ D → s.heap.get? b = some o → h₃.get? b = some o := fun b o hb q => hk₃ b o hb (up₂ b o hb q)
  have hn₃ : h₃.Ns env.locals m := hn.at' fun o q => up₃ _ o hLD q
  have hd₃ : IntsIn h₃ ld down := hd.keeps fun o q => up₃ _ o hdD q
  refine wpAny_execs_cons (wpAny_mono (if_append (c := decide (-r.2.1 < behind)) (r := (r.1 ++ Str.ofString ")", r.2.1 - 1, r.2.2 * itemAt down r.2.1)) ?_ ?_ hk (kn (by decide)) hn₃ m8 hD₃ (by rw [List.length_append, List.length_append]; have := @ifOne (decide (r.2.1 < behind) = true) _ (r.1 ++ Str.ofString "(", r.2.1 + 1, r.2.2); have := @ifOne (decide ((if r.2.1 < 0 then -r.2.1 else r.2.1) ≤ behind) = true) _ (r.1 ++ plain, r.2.1, r.2.2 * itemAt level r.2.1); omega) e.inter rfl rfl rfl rfl (by decide)) (fun f s₂ hf => ?_) fun _ _ q => q)
  · refine wpAny_isTrue_Compare1 (wpAny_UnaryOp (nm hk (kn (by decide)) hn₃ m2 (neg_int (nm hk (kn (by decide)) hn₃ m5 (lt_int (wpAny_truthy_bool ⟨rfl, ?_⟩))))))
    exact keeps_toks
  · intro hc s₁ ⟨h₁, tk₁, hs, hk₁⟩
    subst hs
    have hn₁ := hn₃.keeps hk₁
    have hr := ok.d (of_decide_eq_true hc)
    refine tripleOf (wpAny_BinOp (nm hk (kn (by decide)) hn₁ m1 (litStr (add_str (fun t' tk' => ?_) ?_))))
    · refine wpAny_BinOp (nm hk (kn (by decide)) hn₁ m2 (wpAny_Constant_int (sub_int (wpAny_BinOp (nm hk (kn (by decide)) hn₁ m3 ?_)))))
      refine Subscript_ (nm hk (kn (by decide)) hn₁ m7 (nm hk (kn (by decide)) hn₁ m2 (list_item (hd₃.keeps fun o q => hk₁ _ o q) hr.1 hr.2 hdl fun t4 => ?_)))
      refine mul_int ?_ (.of_right (small_item hds _))
      exact ⟨tripleRow (r := (r.1 ++ Str.ofString ")", r.2.1 - 1, r.2.2 * itemAt down r.2.1)), _, _, rfl, fun b o q => Heap.get?_push_of_some _ q⟩
    · have := ok.t; have := sizeLine_eq; rw [show (Str.ofString ")").length = 1 from by decide]; omega
  obtain ⟨rfl, ⟨h₄, tk₄, rfl, hk₄⟩, hD₄⟩ := hf
  refine wpAny_execs_nil ⟨rfl, ⟨h₄, _, rfl, fun b o hb q => hk₄ b o hb (up₃ b o hb q)⟩, ?_⟩
  unfold rowStep
  simpa using hD₄
end
end Mine
namespace Mine
open PySem

section
variable {prog : Program} {w : World} {A : Around} {E : Value → Shared → Prop} {R : Result → Shared → Prop} {s : Shared}

/-- a list comprehension's loop, whatever its target -/
theorem compLoop_any {elt target iter : Expr} {ifs : List Expr} {scope : Scope} {pos : Pos} {it acc : Value} {env : Env} (I : Nat → Shared → Prop)
    (turn : ∀ n s, I n s → wpAny (model prog w) A (pyNext it) (fun r s₁ => match r with
      | none => R (.ok .next) s₁
      | some v => wpAny (model prog w) A (letOwnedTupleGo target it v) (fun _ s₁' => wpAny (model prog w) A (assign target env v) (fun _ s₂ =>
          wpAny (model prog w) A (forIn ifs true fun c r => if r = true then do let ok ← isTrue c env (eval c env); pure (ForInStep.yield ok) else pure (ForInStep.yield r)) (fun ok s₃ =>
            if ok = true then wpAny (model prog w) A (eval elt env) (fun x s₄ =>
              wpAny (model prog w) A (call (.builtin "list.append") [acc, x]) (fun _ s₅ => ∃ m, m < n ∧ I m s₅) (notedBy (model prog w) A env fun e s' => R (.error e) s') s₄) (notedBy (model prog w) A env fun e s' => R (.error e) s') s₃
            else ∃ m, m < n ∧ I m s₃) (notedBy (model prog w) A env fun e s' => R (.error e) s') s₂) (notedBy (model prog w) A env fun e s' => R (.error e) s') s₁') (notedBy (model prog w) A env fun e s' => R (.error e) s') s₁) (notedBy (model prog w) A env fun e s' => R (.error e) s') s)
    (n : Nat) (h : I n s) :
    codeAny (model prog w) A (.compLoop (.ListComp elt [⟨target, iter, ifs, 0⟩] scope pos) 0 it acc env) R s := by
  refine codeAny_loop rfl I (fun n s hI => ?_) n h
  show wpAny _ A ((compTurn (.ListComp elt [⟨target, iter, ifs, 0⟩] scope pos) 0 it acc env).onRaise (fun x => do noteFrame x env; theTreesLotGoes x)) _ _ s
  refine wpAny_noted ?_
  rw [compTurn_list]
  refine wpAny_bind (wpAny_standAt (wpAny_bind (wpAny_mono (turn n s hI) (fun r s₁ h₁ => ?_) fun _ _ h' => h')))
  cases r with
  | none => exact wpAny_pure h₁
  | some v =>
    refine wpAny_bind (wpAny_mono h₁ (fun _ s₁' h₁' => ?_) fun _ _ h' => h')
    refine wpAny_bind (wpAny_mono h₁' (fun _ s₂ h₂ => wpAny_bind (wpAny_mono h₂ (fun ok s₃ h₃ => ?_) fun _ _ h' => h')) fun _ _ h' => h')
    cases ok with
    | false => exact wpAny_pure ⟨rfl, h₃⟩
    | true =>
      exact wpAny_bind (wpAny_bind (wpAny_mono h₃ (fun x s₄ h₄ => wpAny_bind (wpAny_mono h₄ (fun _ s₅ h₅ => wpAny_pure (wpAny_pure ⟨rfl, h₅⟩)) fun _ _ h' => h')) fun _ _ h' => h'))

/-- a list comprehension over what a name holds, its own frame laid -/
theorem comp_start {env : Env} {elt target iter : Expr} {ifs : List Expr} {scope : Scope} {pos : Pos} {Q : Value → Shared → Prop}
    (hfree : ∀ x ∈ scope.names, x.2 ≠ .free) (hcell : ∀ x ∈ scope.names, x.2 ≠ .cell) (hkind : scope.kind = .function) (hnames : ∀ x ∈ scope.names, x.2 = .local → scope.names.lookup x.1 = some .local)
    (h : wpAny (model prog w) A (eval iter env) (fun x s₁ => wpAny (model prog w) A (pyIter x) (fun it s₂ =>
      ∀ h₃ tk₃, (∀ b o, s₂.heap.get? b = some o → h₃.get? b = some o) → h₃.PlainList s₂.heap.objs.size #[] → h₃.Ns (s₂.heap.objs.size + 1) (fun _ => none) →
        wpAny (model prog w) A (pyIter it) (fun it' s' => it' = it ∧ s' = { s₂ with heap := h₃, toks := tk₃ }) (fun _ _ => False) { s₂ with heap := h₃, toks := tk₃ } ∧
        codeAny (model prog w) A (.compLoop (.ListComp elt [⟨target, iter, ifs, 0⟩] scope pos) 0 it (.ref s₂.heap.objs.size) (compEnv scope (s₂.heap.objs.size + 1) env))
          (fun r s' => r = .ok .next ∧ ∃ m, s'.heap.Ns (s₂.heap.objs.size + 1) m ∧ ∀ h', Heap.SameBut (s₂.heap.objs.size + 1) s'.heap h' → Q (.ref s₂.heap.objs.size) { s' with heap := h' }) { s₂ with heap := h₃, toks := tk₃ }) E s₁) E s)
    (hs : ∀ x, foldedSetIterable iter env x = pure x := by intro _; rfl) :
    wpAny (model prog w) A (eval (.ListComp elt [⟨target, iter, ifs, 0⟩] scope pos) env) Q E s := by
  refine wpAny_ListComp hfree hkind hnames (wpAny_mono h (fun xv s₁ h₁ => wpAny_mono h₁ (fun it s₂ h₂ => ?_) fun _ _ e => e) fun _ _ e => e) hs
  refine wpAny_newObj_type (wpAny_newFunctionEnv hcell (by intro y hy; simp at hy) (fun h₁ hns₁ hsb₁ => ?_) hkind)
  dsimp only at hns₁ hsb₁ ⊢
  have hC : (s₂.heap.push { cls := .type "list", data := .seq ([] : List Value).toArray }).objs.size = s₂.heap.objs.size + 1 := by rw [Heap.size_push]
  rw [hC] at hns₁ hsb₁ ⊢
  have keep : ∀ b o, s₂.heap.get? b = some o → h₁.get? b = some o := fun b o q => hsb₁.extBut b o (Nat.ne_of_lt (Nat.lt_succ_of_lt (Heap.lt_size q))) (Heap.get?_push_of_some _ (Heap.get?_push_of_some _ q))
  have hacc : h₁.PlainList s₂.heap.objs.size #[] := ⟨_, hsb₁.extBut _ _ (Nat.ne_of_lt (Nat.lt_succ_self _)) (Heap.get?_push_of_some _ (Heap.get?_push_size _ rfl))⟩
  obtain ⟨hi, hc⟩ := h₂ h₁ (s₂.toks + ([] : List (Str × Value)).length) keep hacc hns₁
  have loop := codeAny_mono (R' := fun (r : Result) s' => ∃ m, s'.heap.Ns (s₂.heap.objs.size + 1) m ∧ ∀ h', Heap.SameBut (s₂.heap.objs.size + 1) s'.heap h' →
    match r with | .ok _ => Q (.ref s₂.heap.objs.size) { s' with heap := h' } | .error x => wpAny (model prog w) A (passOn "comprehension.variables-let-go" x (compEnv scope (s₂.heap.objs.size + 1) env)) Q E { s' with heap := h' }) hc
    (fun r s' hr => by
      obtain ⟨rfl, m, q1, q2⟩ := hr
      exact ⟨m, q1, q2⟩)
  refine codeAny_compStart_list loop (wpAny_mono hi (fun it' s' hq => ?_) fun _ _ q => q.elim)
  obtain ⟨rfl, rfl⟩ := hq
  exact loop
end
end Mine
namespace Mine
open PySem

theorem takeFilter {rows : List Row} {f : Row → Bool} {j : Nat} {r : Row} (h : rows[j]? = some r) : ((rows.take (j + 1)).filter f).map (·.2.2) = ((rows.take j).filter f).map (·.2.2) ++ (if f r = true then [r.2.2] else []) := by
  rw [take_succ_filter f rows j r h, List.map_append]
  cases f r <;> simp

section
variable {prog : Program} {w : World} {A : Around} {E : Value → Shared → Prop} {s : Shared}

/-- the third of each row that passes, as a new list -/
theorem comp_rows {env : Env} {R : Addr} {rows : List Row} {f : Row → Bool} {nR n1 n2 n3 : Str} {p0 p1 p2 p3 p4 p5 : Pos} {kk : Nat} {test : Expr} {scope : Scope} {pos : Pos} {m : Str → Option Value} {Q : Value → Shared → Prop} (hh : A.handled = none)
    (hfree : ∀ x ∈ scope.names, x.2 ≠ .free) (hcell : ∀ x ∈ scope.names, x.2 ≠ .cell) (hkind : scope.kind = .function) (hnames : ∀ x ∈ scope.names, x.2 = .local → scope.names.lookup x.1 = some .local)
    (k1 : scope.names.lookup n1 = some .local) (k2 : scope.names.lookup n2 = some .local) (k3 : scope.names.lookup n3 = some .local) (hd3 : (n3 == ("__debug__" : Str)) = false) (hdR : (nR == ("__debug__" : Str)) = false)
    (hk : env.scope.kind = .function) (hkR : env.kindOf nR = some .local) (hn : s.heap.Ns env.locals m) (hm : m nR = some (.ref R)) (hR : RowsAt s.heap R rows) (hz : rows.length ≤ 10000)
    (htest : ∀ (r : Row) (t1 t2 t3 : Tok) (m₁ : Str → Option Value) (C : Addr) (s₁ : Shared), r ∈ rows → (∀ b o, s.heap.get? b = some o → s₁.heap.get? b = some o) → s₁.heap.Ns C (fun y => if y = n3 then some (.int r.2.2 t3) else if y = n2 then some (.int r.2.1 t2) else if y = n1 then some (.str r.1 t1) else m₁ y) →
      wpAny (model prog w) A (isTrue test (compEnv scope C env) (eval test (compEnv scope C env))) (fun b s₂ => b = f r ∧ Ext s₁ s₂) (fun _ _ => False) s₁)
    (h : ∀ D s' items, Ext s s' → s.heap.get? D = none → s'.heap.PlainList D items → IntsAre items.toList ((rows.filter f).map (·.2.2)) → Q (.ref D) s') :
    wpAny (model prog w) A (eval (.ListComp (.Name n3 p5) [⟨.Tuple [.Name n1 p1, .Name n2 p2, .Name n3 p3] kk p4, .Name nR p0, [test], 0⟩] scope pos) env) Q E s := by
  obtain ⟨ritems, hpl, hpair⟩ := hR
  have hlen := hpair.length
  refine comp_start hfree hcell hkind hnames (nm hk hkR hn hm (wpAny_pyIter_list hpl.isList ?_) hdR)
  intro h₃ tk₃ keep₃ hD₃ hC₃
  have hsz : (s.heap.push { cls := .type "list_iterator", data := .fields #[.ref R, .int 0 0] }).objs.size = s.heap.objs.size + 1 := Heap.size_push ..
  dsimp only at keep₃ hD₃ hC₃ ⊢
  rw [hsz] at hD₃ hC₃ ⊢
  have hit₃ : h₃.IsListIter s.heap.objs.size R 0 := ⟨_, keep₃ _ _ (Heap.get?_push_size _ rfl), rfl, rfl⟩
  have old₃ : ∀ b o, s.heap.get? b = some o → h₃.get? b = some o := fun b o q => keep₃ b o (Heap.get?_push_of_some _ q)
  refine ⟨wpAny_pyIter_listiter hit₃ ⟨rfl, rfl⟩, ?_⟩
  have ck : ∀ {n : Str}, scope.names.lookup n = some .local → (compEnv scope (s.heap.objs.size + 1 + 1) env).kindOf n = some .local := fun h => h
  have ckind : (compEnv scope (s.heap.objs.size + 1 + 1) env).scope.kind = .function := hkind
  have lt1 : ∀ b o, s.heap.get? b = some o → b ≠ s.heap.objs.size := fun b o q => Nat.ne_of_lt (Heap.lt_size q)
  have lt2 : ∀ b o, s.heap.get? b = some o → b ≠ s.heap.objs.size + 1 := fun b o q => Nat.ne_of_lt (Nat.lt_succ_of_lt (Heap.lt_size q))
  have lt3 : ∀ b o, s.heap.get? b = some o → b ≠ s.heap.objs.size + 1 + 1 := fun b o q => Nat.ne_of_lt (Nat.lt_succ_of_lt (Nat.lt_succ_of_lt (Heap.lt_size q)))
  have n12 : s.heap.objs.size ≠ s.heap.objs.size + 1 := Nat.ne_of_lt (Nat.lt_succ_self _)
  have n13 : s.heap.objs.size ≠ s.heap.objs.size + 1 + 1 := Nat.ne_of_lt (Nat.lt_succ_of_lt (Nat.lt_succ_self _))
  have n23 : s.heap.objs.size + 1 ≠ s.heap.objs.size + 1 + 1 := Nat.ne_of_lt (Nat.lt_succ_self _)
  refine compLoop_any (fun k s' => ∃ j m' items, k = rows.length + 1 - j ∧ j ≤ rows.length ∧ (∀ b o, s.heap.get? b = some o → s'.heap.get? b = some o) ∧ s'.heap.IsListIter s.heap.objs.size R j ∧ s'.heap.Ns (s.heap.objs.size + 1 + 1) m' ∧
    s'.heap.PlainList (s.heap.objs.size + 1) items ∧ IntsAre items.toList (((rows.take j).filter f).map (·.2.2)) ∧ s'.os = s.os ∧ (AllBare s.gens → AllBare s'.gens)) ?_
    (rows.length + 1) ⟨0, _, #[], rfl, Nat.zero_le _, old₃, hit₃, hC₃, hD₃, .nil, rfl, id⟩
  rintro k s' ⟨j, m', items, rfl, hj, old', hit', hn', hD', hI', hos', hbare'⟩
  have hpl' : s'.heap.PlainList R ritems := hpl.at fun o q => old' _ o q
  cases hv : rows[j]? with
  | none =>
    have hje : j = rows.length := Nat.le_antisymm hj (by simpa using hv)
    subst hje
    refine wpAny_pyNext_list_end hh hit' hpl'.isList (by simp [← hlen]) fun h₁ hx₁ => ?_
    replace hx₁ : Heap.ExtBut s.heap.objs.size s'.heap h₁ := hx₁
    refine ⟨rfl, m', hn'.at' fun o q => hx₁ _ o (Ne.symm n13) q, fun h₂ hs₂ => ?_⟩
    replace hs₂ : Heap.SameBut (s.heap.objs.size + 1 + 1) h₁ h₂ := hs₂
    rw [List.take_length] at hI'
    refine h _ _ items ⟨fun b o q => hs₂.extBut b o (lt3 b o q) (hx₁ b o (lt1 b o q) (old' b o q)), hos', hbare'⟩ ?_ (hD'.at fun o q => hs₂.extBut _ o n23 (hx₁ _ o (Ne.symm n12) q)) hI'
    cases q : s.heap.get? (s.heap.objs.size + 1) with
    | none => rfl
    | some o => exact absurd rfl (lt2 _ _ q)
  | some r =>
    have hlt : j < rows.length := (List.getElem?_eq_some_iff.mp hv).1
    obtain ⟨v, hiv, T, t1, t2, t3, rfl, hT⟩ := paired_get hpair hv
    have hiv' : ritems[j]? = some (.ref T) := by rw [← Array.getElem?_toList]; exact hiv
    refine wpAny_pyNext_list_item hit' hpl'.isList hiv' fun h₁ hit₁ hs₁ => ?_
    replace hs₁ : Heap.SameBut s.heap.objs.size s'.heap h₁ := hs₁
    have old₁ : ∀ b o, s.heap.get? b = some o → h₁.get? b = some o := fun b o q => hs₁.extBut b o (lt1 b o q) (old' b o q)
    refine wpAny_letOwnedTupleGo_listiter hit₁ ?_
    refine wpAny_assign_Tuple hh (TupKeep.of_keep old₁ _ _ hT) rfl rfl fun h₂ hx₂ => ?_
    replace hx₂ : Heap.ExtBut h₁.objs.size h₁ h₂ := hx₂
    have up₂ : ∀ b o, h₁.get? b = some o → h₂.get? b = some o := fun b o q => hx₂ b o (Nat.ne_of_lt (Heap.lt_size q)) q
    have hn₂ : h₂.Ns (s.heap.objs.size + 1 + 1) m' := (hn'.at' fun o q => hs₁.extBut _ o (Ne.symm n13) q).keeps up₂
    show wpAny _ _ (do holding [.int r.2.1 t2, .int r.2.2 t3] (assign (.Name n1 _) _ (.str r.1 t1)); do holding [.int r.2.2 t3] (assign (.Name n2 _) _ (.int r.2.1 t2)); do holding [] (assign (.Name n3 _) _ (.int r.2.2 t3)); pure ()) _ _ _
    refine wpAny_bind (wpAny_holding (wpAny_assign_Name (wpAny_storeName_local (ck k1) hn₂ (fun h₄ hn₄ hs₄ => ?_) (plainScope ckind))))
    replace hs₄ : Heap.SameBut (s.heap.objs.size + 1 + 1) h₂ h₄ := hs₄
    refine wpAny_bind (wpAny_holding (wpAny_assign_Name (wpAny_storeName_local (ck k2) hn₄ (fun h₅ hn₅ hs₅ => ?_) (plainScope ckind))))
    replace hs₅ : Heap.SameBut (s.heap.objs.size + 1 + 1) h₄ h₅ := hs₅
    refine wpAny_bind (wpAny_holding (wpAny_assign_Name (wpAny_storeName_local (ck k3) hn₅ (fun h₆ hn₆ hs₆ => wpAny_pure ?_) (plainScope ckind))))
    replace hs₆ : Heap.SameBut (s.heap.objs.size + 1 + 1) h₅ h₆ := hs₆
    have up₆ : ∀ b o, b ≠ s.heap.objs.size + 1 + 1 → h₁.get? b = some o → h₆.get? b = some o := fun b o hb q => hs₆.extBut b o hb (hs₅.extBut b o hb (hs₄.extBut b o hb (up₂ b o q)))
    have old₆ : ∀ b o, s.heap.get? b = some o → h₆.get? b = some o := fun b o q => up₆ b o (lt3 b o q) (old₁ b o q)
    refine wpAny_tests_one (wpAny_mono (htest r t1 t2 t3 m' _ _ (List.mem_of_getElem? hv) old₆ hn₆) (fun b s₇ hb => ?_) fun _ _ q => q.elim)
    obtain ⟨rfl, x₇⟩ := hb
    have keep₇ : ∀ b o, h₆.get? b = some o → s₇.heap.get? b = some o := x₇.keep
    have hos₇ : s₇.os = s.os := x₇.os.trans hos'
    have hbare₇ : AllBare s.gens → AllBare s₇.gens := fun q => x₇.bare (hbare' q)
    have hit₇ : s₇.heap.IsListIter s.heap.objs.size R (j + 1) := by
      obtain ⟨o, ho, q⟩ := hit₁
      exact ⟨o, keep₇ _ o (up₆ _ o n13 ho), q⟩
    have hn₇ := hn₆.keeps keep₇
    have hD₇ : s₇.heap.PlainList (s.heap.objs.size + 1) items := hD'.at fun o q => keep₇ _ o (up₆ _ o n23 (hs₁.extBut _ o (Ne.symm n12) q))
    have htf := takeFilter (f := f) hv
    cases hf : f r with
    | false =>
      rw [if_neg Bool.false_ne_true]
      rw [hf, if_neg Bool.false_ne_true, List.append_nil] at htf
      exact ⟨rows.length + 1 - (j + 1), by omega, j + 1, _, items, rfl, hlt, fun b o q => keep₇ b o (old₆ b o q), hit₇, hn₇, hD₇, htf ▸ hI', hos₇, hbare₇⟩
    | true =>
      rw [if_pos rfl]
      rw [hf, if_pos rfl] at htf
      refine nm ckind (ck k3) hn₇ (v := .int r.2.2 t3) (by simp) (wpAny_list_append_plain hD₇ (fun h₈ hD₈ hs₈ => ?_) ?_) hd3
      · replace hs₈ : Heap.SameBut (s.heap.objs.size + 1) s₇.heap h₈ := hs₈
        refine ⟨rows.length + 1 - (j + 1), by omega, j + 1, _, _, rfl, hlt, fun b o q => hs₈.extBut b o (lt2 b o q) (keep₇ b o (old₆ b o q)), ?_, hn₇.sameBut hs₈ (Ne.symm n23), hD₈, ?_, hos₇, hbare₇⟩
        · obtain ⟨o, ho, q⟩ := hit₇
          exact ⟨o, hs₈.extBut _ o n12 ho, q⟩
        · rw [htf, Array.toList_push]
          exact hI'.append (.cons _ _ .nil)
      · have h1 := hI'.length
        have h2 : items.toList.length = items.size := by simp
        have h3 : (((rows.take j).filter f).map (·.2.2)).length ≤ rows.length := by
          rw [List.length_map]
          exact Nat.le_trans (List.length_filter_le _ _) (by rw [List.length_take]; omega)
        have := sizeLine_eq; omega
end
end Mine
namespace Mine
open PySem

def bindFn (binds : List (Str × Value)) : Str → Option Value := fun y => binds.reverse.lookup y

section
variable {prog : Program} {w : World} {A : Around} {E : Value → Shared → Prop} {s : Shared}

/-- the def's own frame, whatever the number of its parameters -/
theorem enterDefs {st : Stmt} {f : Addr} {base : Heap} {vs : List Value} {binds : List (Str × Value)} {Q : Value → Shared → Prop} (hroom : A.depth < recursionLimit) (fn : FnIs base st f) (hl : base.NoLimit) (hb : ∀ b o, base.get? b = some o → s.heap.get? b = some o)
    (hbind : ∀ fd : FuncData, fd.params = defArgs st → fd.defaults = .none → fd.kwdefaults = .none → bindArgs fd ⟨vs, []⟩ = pure binds)
    (hcell : ∀ y ∈ (defScope st).names, y.2 ≠ .cell) (hloc : ∀ y ∈ binds, (defScope st).names.lookup y.1 = some .local) (hco : (defScope st).isCoroutine = false) (hgen : (defScope st).isGenerator = false) (hk : (defScope st).kind = .function)
    (h : ∀ env h₁, env.scope = defScope st → env.locals = s.heap.objs.size → env.globals = mainGlobals → env.builtins = builtinsNs → interactive env = false →
      h₁.Ns s.heap.objs.size (bindFn binds) → (∀ b o, s.heap.get? b = some o → h₁.get? b = some o) →
      wpAny (model prog w) (A.deeper env) (execs (defBody st) env) (fun fl s' => Q (match fl with | .ret v => v | _ => .none) s') (fun _ _ => False) { s with heap := h₁, toks := s.toks + binds.length }) :
    wpAny (model prog w) A (call (.ref f) vs) Q E s := by
  obtain ⟨o, fd, h1, h2, h3, h4, h5, h6, h7, h8, h9, h10, h11⟩ := fn.out
  refine wpAny_call (codeAny_call_def (binds := binds) hroom (hb _ _ h1) h2 (hl.keeps hb) (h11.keeps hb) h4 (BindsTo.of_eq (hbind fd h5 h9 h10)) (by rw [h3]; exact hcell) (by rw [h3]; exact hloc)
    (fun h₁ hn hk₁ => ?_) (by rw [h3]; exact hco) (by rw [h3]; exact hgen) (by rw [h3]; exact hk))
  refine wpAny_mono (h (callEnv fd s.heap.objs.size f) h₁ h3 rfl h7 h8 ?_ hn hk₁) (fun fl s' q => q) fun _ _ q => q.elim
  show interactive (callEnv fd s.heap.objs.size f) = false
  unfold interactive callEnv newEnv
  dsimp only
  rw [h3, hk]
  rfl

theorem sum_keep {l : Addr} {ns : List Int} {Q : Value → Shared → Prop} (hh : A.handled = none) (hl : IntsIn s.heap l ns)
    (h : ∀ h' tk t', (∀ b o, s.heap.get? b = some o → h'.get? b = some o) → Q (.int ns.sum t') { s with heap := h', toks := tk }) : wpAny (model prog w) A (call (.builtin "sum") [.ref l]) Q E s := by
  obtain ⟨vs, hL, hi⟩ := hl
  obtain ⟨xs, hx⟩ := hi.allInts.items
  have hl' : s.heap.IsList l (intItems xs) := hx ▸ hL
  refine sum_intListG hh hl' fun h' tk t' hk => ?_
  have e1 : ns = xs.toList.map (·.1) := by
    rw [← nums_intItems, ← hx]
    exact (show numsOf vs.toArray.toList = ns from hi.numsOf).symm
  have e2 : preSum (numAt xs) xs.size = ns.sum := by
    rw [preSum_eq, List.take_of_length_le (by simp), e1]
  rw [e2]
  exact h h' tk t' hk

/-- x.append(..) as a statement -/
theorem append_stmt {env : Env} {e : Expr} {n : Str} {p1 p2 p3 p4 : Pos} {D : Addr} {m : Str → Option Value} {items : Array Value} {Q : Flow → Shared → Prop}
    (hk : env.scope.kind = .function) (hkn : env.kindOf n = some .local) (hn : s.heap.Ns env.locals m) (hm : m n = some (.ref D)) (hD : s.heap.PlainList D items)
    (hel : wpAny (model prog w) A (eval e env) (fun v s₂ => ∃ items', s₂.heap.PlainList D items' ∧ items'.size ≤ sizeLine ∧ ∀ h', h'.PlainList D (items'.push v) → Heap.SameBut D s₂.heap h' → Q .next { s₂ with heap := h' }) E s)
    (hi : interactive env = false) (hline : (p2.endLine == p3.line) = true) (hse : starEach [e] env = [(false, eval e env)]) (hsw : swapsWith (.Call (.Attribute (.Name n p1) "append" p2) [e] [] p3) none p4.line env = pure false)
    (hbase : attributeBase (.Name n p1) "append" env (eval (.Name n p1) env) = eval (.Name n p1) env) (hd : (n == ("__debug__" : Str)) = false) :
    wpAny (model prog w) A (exec (.Expr (.Call (.Attribute (.Name n p1) "append" p2) [e] [] p3) p4) env) Q E s := by
  refine wpAny_Expr ?_ hi hsw
  refine wpAny_Call_append hbase (by rw [hse]; rfl) hline (by rw [hse]; rfl) (nm hk hkn hn hm ⟨D, items, rfl, ?_, ?_⟩ hd)
  · obtain ⟨n, hn'⟩ := hD
    exact ⟨_, n, hn', rfl, rfl, rfl⟩
  refine wpAny_mono hel (fun v s₂ hv => ?_) fun _ _ q => q
  obtain ⟨items', h1, h2, h3⟩ := hv
  exact wpAny_list_append_plain h1 (fun h' q1 q2 => h3 h' q1 q2) h2
end
end Mine
namespace Mine
open PySem

structure RowsNames (base : Heap) (fR fT : Addr) : Prop where
  def_ : FnIs base (stmtAt atRows) fR
  glob : ∃ mg, base.Ns mainGlobals mg ∧ mg "abs" = none ∧ mg "sum" = none ∧ mg "_law_taken" = some (.ref fT)
  blt : ∃ mb, base.Ns builtinsNs mb ∧ mb "abs" = some (.builtin "abs") ∧ mb "sum" = some (.builtin "sum")

structure RowsOk (level down : List Int) (plain : Str) : Prop where
  p : plain.length ≤ 100
  l : ∀ n ∈ level, -1000 ≤ n ∧ n ≤ 1000
  d : ∀ n ∈ down, -1000 ≤ n ∧ n ≤ 1000
  ll : level.length ≤ 1000
  dl : down.length ≤ 1000

theorem rowStep_len (plain : Str) (level down : List Int) (b : Int) (r : Row) : (rowStep plain level down b r).length ≤ 3 := by
  unfold rowStep
  rw [List.length_append, List.length_append]
  have h1 := @ifOne (r.2.1 < b) _ (r.1 ++ Str.ofString "(", r.2.1 + 1, r.2.2)
  have h2 := @ifOne ((if r.2.1 < 0 then -r.2.1 else r.2.1) ≤ b) _ (r.1 ++ plain, r.2.1, r.2.2 * itemAt level r.2.1)
  have h3 := @ifOne (-r.2.1 < b) _ (r.1 ++ Str.ofString ")", r.2.1 - 1, r.2.2 * itemAt down r.2.1)
  omega
theorem mem_iteOne {c : Prop} [Decidable c] {x y : Row} (h : x ∈ if c then [y] else []) : x = y := by
  split at h
  · exact List.mem_singleton.mp h
  · cases h
theorem rowStep_text {plain : Str} {level down : List Int} {b : Int} {r r' : Row} (h : r' ∈ rowStep plain level down b r) : r'.1.length ≤ r.1.length + plain.length + 1 := by
  unfold rowStep at h
  have l1 : (Str.ofString "(").length = 1 := by decide
  have l2 : (Str.ofString ")").length = 1 := by decide
  rcases List.mem_append.mp h with h | h
  · rcases List.mem_append.mp h with h | h
    · rw [mem_iteOne h, Str.length_append, l1]; omega
    · rw [mem_iteOne h, Str.length_append]; omega
  · rw [mem_iteOne h, Str.length_append, l2]; omega
theorem flat_len {g : Row → List Row} (hg : ∀ r, (g r).length ≤ 3) : ∀ l : List Row, (l.flatMap g).length ≤ 3 * l.length
  | [] => Nat.le_refl _
  | r :: l => by
    rw [List.flatMap_cons, List.length_append, List.length_cons]
    have := hg r
    have := flat_len hg l
    omega
theorem take_flat {g : Row → List Row} {rows : List Row} {j : Nat} {r : Row} (h : rows[j]? = some r) : (rows.take (j + 1)).flatMap g = (rows.take j).flatMap g ++ g r := by
  have : rows.take (j + 1) = rows.take j ++ [r] := by rw [List.take_succ, h]; rfl
  rw [this, List.flatMap_append, List.flatMap_cons, List.flatMap_nil, List.append_nil]

theorem q1 : ¬ (Str.ofString "plain" = Str.ofString "weight") := by decide
theorem q2 : ¬ (Str.ofString "plain" = Str.ofString "deep") := by decide
theorem q3 : ¬ (Str.ofString "plain" = Str.ofString "text") := by decide
theorem q4 : ¬ (Str.ofString "level" = Str.ofString "weight") := by decide
theorem q5 : ¬ (Str.ofString "level" = Str.ofString "deep") := by decide
theorem q6 : ¬ (Str.ofString "level" = Str.ofString "text") := by decide
theorem q7 : ¬ (Str.ofString "down" = Str.ofString "weight") := by decide
theorem q8 : ¬ (Str.ofString "down" = Str.ofString "deep") := by decide
theorem q9 : ¬ (Str.ofString "down" = Str.ofString "text") := by decide
theorem q10 : ¬ (Str.ofString "longer" = Str.ofString "weight") := by decide
theorem q11 : ¬ (Str.ofString "longer" = Str.ofString "deep") := by decide
theorem q12 : ¬ (Str.ofString "longer" = Str.ofString "text") := by decide
theorem q13 : ¬ (Str.ofString "behind" = Str.ofString "weight") := by decide
theorem q14 : ¬ (Str.ofString "behind" = Str.ofString "deep") := by decide
theorem q15 : ¬ (Str.ofString "behind" = Str.ofString "text") := by decide
theorem q16 : ¬ (Str.ofString "sums" = Str.ofString "weight") := by decide
theorem q17 : ¬ (Str.ofString "sums" = Str.ofString "deep") := by decide
theorem q18 : ¬ (Str.ofString "sums" = Str.ofString "text") := by decide
theorem q19 : ¬ (Str.ofString "text" = Str.ofString "weight") := by decide
theorem q20 : ¬ (Str.ofString "text" = Str.ofString "deep") := by decide
theorem q21 : ¬ (Str.ofString "deep" = Str.ofString "weight") := by decide
theorem q22 : ¬ (Str.ofString "plain" = Str.ofString "longer") := by decide
theorem q23 : ¬ (Str.ofString "level" = Str.ofString "longer") := by decide
theorem q24 : ¬ (Str.ofString "down" = Str.ofString "longer") := by decide
theorem q25 : ¬ (Str.ofString "sums" = Str.ofString "longer") := by decide
theorem q26 : ¬ (Str.ofString "behind" = Str.ofString "longer") := by decide
theorem q27 : ¬ (Str.ofString "rows" = Str.ofString "longer") := by decide
theorem q28 : ¬ (Str.ofString "plain" = Str.ofString "rows") := by decide
theorem q29 : ¬ (Str.ofString "level" = Str.ofString "rows") := by decide
theorem q30 : ¬ (Str.ofString "down" = Str.ofString "rows") := by decide
theorem q31 : ¬ (Str.ofString "sums" = Str.ofString "rows") := by decide

/-- the names that stay through a turn of the outer loop -/
structure Stay (m m' : Str → Option Value) : Prop where
  plain : m' "plain" = m "plain"
  level : m' "level" = m "level"
  down : m' "down" = m "down"
  sums : m' "sums" = m "sums"

section
variable {prog : Program} {w : World} {A : Around} {E : Value → Shared → Prop} {s : Shared}

set_option maxHeartbeats 2000000 in
theorem outer_turn {base : Heap} {fI fS fC fT fR : Addr} {env : Env} {L R S la ld : Addr} {plain : Str} {level down : List Int} {behind : Int} {rows : List Row} {sums : List Int} {tp tb : Tok} {m : Str → Option Value} {sitems : Array Value}
    (N : Names base fI fS fC) (N2 : TakenNames base fC fT) (N3 : RowsNames base fR fT) (e : EnvFor env (stmtAt atRows) L) (hh : A.handled = none) (hroom : A.depth + 3 < recursionLimit)
    (hb : ∀ b o, base.get? b = some o → s.heap.get? b = some o) (hLb : base.get? L = none)
    (hn : s.heap.Ns L m) (m4 : m "plain" = some (.str plain tp)) (m5 : m "behind" = some (.int behind tb)) (m6 : m "level" = some (.ref la)) (m7 : m "down" = some (.ref ld)) (m8 : m "rows" = some (.ref R)) (m9 : m "sums" = some (.ref S))
    (hl : IntsIn s.heap la level) (hd : IntsIn s.heap ld down) (hlL : la ≠ L) (hdL : ld ≠ L) (hRL : R ≠ L) (hSL : S ≠ L)
    (ok : RowsOk level down plain) (hok : ∀ r ∈ rows, RowOk level down behind r) (hR : RowsAt s.heap R rows) (hS : s.heap.PlainList S sitems) (hSi : IntsAre sitems.toList sums) (hSb : base.get? S = none) (hz : rows.length ≤ 1000) (hz2 : sums.length ≤ 1000) :
    wpAny (model prog w) A (execs (forBody outerFor) env) (fun f s₂ => f = .next ∧ (∀ b o, b ≠ L → b ≠ S → s.heap.get? b = some o → s₂.heap.get? b = some o) ∧ s₂.os = s.os ∧ (AllBare s.gens → AllBare s₂.gens) ∧
      ∃ m₂ R' sitems', s₂.heap.Ns L m₂ ∧ Stay m m₂ ∧ m₂ "rows" = some (.ref R') ∧ R' ≠ L ∧ R' ≠ S ∧ RowsAt s₂.heap R' (rows.flatMap (rowStep plain level down behind)) ∧ s₂.heap.PlainList S sitems' ∧
        IntsAre sitems'.toList (sums ++ [(((rows.flatMap (rowStep plain level down behind)).filter fun r => chk r.1).map (·.2.2)).sum])) E s := by
  have hk : env.scope.kind = .function := e.kind rfl
  have kn : ∀ {n : Str}, (defScope (stmtAt atRows)).names.lookup n = some .local → env.kindOf n = some .local := fun h => e.kindOf h
  obtain ⟨mg, hg, hg1, hg2, hg3⟩ := N3.glob
  obtain ⟨mb, hbl, hbl1, hbl2⟩ := N3.blt
  have hloc := e.locals
  refine wpAny_execs_cons (wpAny_Assign_Name (wpAny_List_spliced (Calls.spliced_nil ⟨Nat.zero_le _, wpAny_storeName_local (kn (by decide)) (hloc ▸ hn.push _) (fun h₁ hn₁ hs₁ => ?_) (plainScope hk)⟩)))
  replace hs₁ : Heap.SameBut env.locals (s.heap.push { cls := .type "list", data := .seq ([] : List Value).toArray }) h₁ := hs₁
  rw [hloc] at hn₁ hs₁
  have hLs : L < s.heap.objs.size := hn.lt
  have up₁ : ∀ b o, b ≠ L → s.heap.get? b = some o → h₁.get? b = some o := fun b o hb q => hs₁.extBut b o hb (Heap.get?_push_of_some _ q)
  have hD₁ : RowsAt h₁ s.heap.objs.size [] := ⟨#[], ⟨0, hs₁.extBut _ _ (Nat.ne_of_gt hLs) (Heap.get?_push_size _ rfl)⟩, .nil⟩
  have hDL : s.heap.objs.size ≠ L := Nat.ne_of_gt hLs
  have neD : ∀ b o, s.heap.get? b = some o → b ≠ s.heap.objs.size := fun b o q => Nat.ne_of_lt (Heap.lt_size q)
  have tup₁ : TupKeep s.heap h₁ := .of_ns hn up₁
  obtain ⟨ritems, hRp, hRpair⟩ := id hR
  have hR₁ : RowsAt h₁ R rows := hR.keep tup₁ fun o q => up₁ R o hRL q
  have hRD : R ≠ s.heap.objs.size := by obtain ⟨n, q⟩ := hRp; exact neD _ _ q
  have hlD : la ≠ s.heap.objs.size := by obtain ⟨vs, ⟨o, q, _⟩, _⟩ := hl; exact neD _ _ q
  have hdD : ld ≠ s.heap.objs.size := by obtain ⟨vs, ⟨o, q, _⟩, _⟩ := hd; exact neD _ _ q
  have hSD : S ≠ s.heap.objs.size := by obtain ⟨n, q⟩ := hS; exact neD _ _ q
  -- the inner loop
  refine wpAny_execs_cons (wpAny_For (nm hk (kn (by decide)) (hloc ▸ hn₁) (v := .ref R) (by simp [q27, m8]) (wpAny_pyIter_list hR₁.choose_spec.1.isList ?_)))
  have hIs : h₁.objs.size ≠ L := Nat.ne_of_gt hn₁.lt
  have hD₁lt : s.heap.objs.size < h₁.objs.size := by rw [hs₁.1, Heap.size_push]; exact Nat.lt_succ_self _
  have neI : ∀ b o, h₁.get? b = some o → b ≠ h₁.objs.size := fun b o q => Nat.ne_of_lt (Heap.lt_size q)
  have hDI : s.heap.objs.size ≠ h₁.objs.size := Nat.ne_of_lt hD₁lt
  have hRI : R ≠ h₁.objs.size := by obtain ⟨its, ⟨n, q⟩, _⟩ := hR₁; exact neI _ _ q
  have neI' : ∀ b o, s.heap.get? b = some o → b ≠ h₁.objs.size := fun b o q => Nat.ne_of_lt (Nat.lt_trans (Heap.lt_size q) hD₁lt)
  have push₁ : ∀ b o, h₁.get? b = some o → (h₁.push { cls := .type "list_iterator", data := .fields #[.ref R, .int 0 0] }).get? b = some o := fun b o q => Heap.get?_push_of_some _ q
  refine loop_rows (rows := rows) (R := R) (I := h₁.objs.size) (m := fun x => if x = Str.ofString "longer" then some (.ref s.heap.objs.size) else m x) hh (hloc ▸ hIs) hRI hk (kn (by decide)) (kn (by decide)) (kn (by decide))
    (fun j m' h => (∀ b o, b ≠ L → b ≠ s.heap.objs.size → b ≠ h₁.objs.size → h₁.get? b = some o → h.get? b = some o) ∧ TupKeep h₁ h ∧ Stay m m' ∧ m' "longer" = some (.ref s.heap.objs.size) ∧ m' "behind" = some (.int behind tb) ∧
      RowsAt h s.heap.objs.size ((rows.take j).flatMap (rowStep plain level down behind))) ?_ ?_ ?_ ?_ ⟨_, Heap.get?_push_size _ rfl, rfl, rfl⟩ (hloc ▸ hn₁.push _) ?_
  · rintro j m' h h' ⟨p1, p2, p3, p4, p5, p6⟩ hk' hnn htk
    rw [hloc] at hk'
    exact ⟨fun b o x1 x2 x3 q => hk' b o x1 x3 (p1 b o x1 x2 x3 q), p2.trans htk, p3, p4, p5, p6.keep htk fun o q => hk' _ o hDL hDI q⟩
  · rintro j m' h ⟨p1, p2, p3, p4, p5, p6⟩
    exact hR₁.keep p2 fun o q => p1 R o hRL hRD hRI q
  · rintro j r t1 t2 t3 m' s₁ hr ⟨p1, p2, p3, p4, p5, p6⟩ hn'
    have hjlt : j < rows.length := (List.getElem?_eq_some_iff.mp hr).1
    have old : ∀ b o, b ≠ L → s.heap.get? b = some o → s₁.heap.get? b = some o := fun b o x q => p1 b o x (neD b o q) (neI' b o q) (up₁ b o x q)
    have hrow := rows_turn (A := A) (prog := prog) (w := w) (E := notedBy (model prog w) A env fun e s' => cameBackBy (model prog w) A env E e s') (s := s₁) (base := base) (D := s.heap.objs.size) (la := la) (ld := ld) (plain := plain) (level := level) (down := down) (behind := behind) (r := r)
      (acc := (rows.take j).flatMap (rowStep plain level down behind)) (t1 := t1) (t2 := t2) (t3 := t3) (tp := tp) (tb := tb) e hg hg1 hbl hbl1
      (fun b o q => old b o (fun z => by rw [z, hLb] at q; cases q) (hb b o q)) (fun o q => neD _ _ (hb _ _ q) rfl) (hloc ▸ hn')
      (by simp [q19, q20]) (by simp [q21]) (by simp) (by simp [q1, q2, q3, p3.plain, m4]) (by simp [q13, q14, q15, p5]) (by simp [q4, q5, q6, p3.level, m6]) (by simp [q7, q8, q9, p3.down, m7]) (by simp [q10, q11, q12, p4])
      (hl.keeps fun o q => old _ o hlL q) (hd.keeps fun o q => old _ o hdL q) hlD hdD (Ne.symm hDL) (Nat.le_trans ok.p (by decide)) ok.l ok.d ok.ll ok.dl (hok r (List.mem_of_getElem? hr)) p6 (by
        have := flat_len (rowStep_len plain level down behind) (rows.take j)
        have h2 : (rows.take j).length ≤ rows.length := by rw [List.length_take]; omega
        omega)
    refine wpAny_mono hrow (fun f s₂ hf => ?_) fun _ _ q => q
    obtain ⟨rfl, ⟨h₂, tk₂, rfl, hk₂⟩, hD₂⟩ := hf
    obtain ⟨its, hpl, _⟩ := id p6
    refine ⟨rfl, ⟨h₂, tk₂, rfl⟩, fun o q _ => hk₂ _ o (Ne.symm hDI) q, _, hn'.at' fun o q => hk₂ _ o (hloc ▸ Ne.symm hDL) q, ?_⟩
    refine ⟨fun b o x1 x2 x3 q => hk₂ b o x2 (p1 b o x1 x2 x3 q), p2.trans (.of_list hpl fun b o x q => hk₂ b o x q), ⟨by simp [q1, q2, q3, p3.plain], by simp [q4, q5, q6, p3.level], by simp [q7, q8, q9, p3.down], by simp [q16, q17, q18, p3.sums]⟩,
      by simp [q10, q11, q12, p4], by simp [q13, q14, q15, p5], ?_⟩
    rw [take_flat hr]
    exact hD₂
  · rintro m' h' tk' hn' ⟨p1, p2, p3, p4, p5, p6⟩
    rw [List.take_length] at p6
    have old : ∀ b o, b ≠ L → s.heap.get? b = some o → h'.get? b = some o := fun b o x q => p1 b o x (neD b o q) (neI' b o q) (up₁ b o x q)
    show wpAny _ _ (execs _ env) _ _ _
    refine wpAny_execs_cons (wpAny_Assign_Name (nm hk (kn (by decide)) hn' p4 (wpAny_storeName_local (kn (by decide)) hn' (fun h₄ hn₄ hs₄ => ?_) (plainScope hk))))
    replace hs₄ : Heap.SameBut L h' h₄ := hloc ▸ hs₄
    rw [hloc] at hn' hn₄
    have old₄ : ∀ b o, b ≠ L → s.heap.get? b = some o → h₄.get? b = some o := fun b o x q => hs₄.extBut b o x (old b o x q)
    have hb₄ : ∀ b o, base.get? b = some o → h₄.get? b = some o := fun b o q => old₄ b o (fun z => by rw [z, hLb] at q; cases q) (hb b o q)
    have hR₄ : RowsAt h₄ s.heap.objs.size (rows.flatMap (rowStep plain level down behind)) := p6.keep (.of_ns hn' fun b o x q => hs₄.extBut b o x q) fun o q => hs₄.extBut _ o hDL q
    have hS₄ : h₄.PlainList S sitems := hS.at fun o q => old₄ S o hSL q
    have hlen := flat_len (rowStep_len plain level down behind) rows
    refine wpAny_execs_cons (append_stmt hk (kn (by decide)) (hloc ▸ hn₄) (m := fun x => if x = Str.ofString "rows" then some (.ref s.heap.objs.size) else m' x) (by simp [q31, p3.sums, m9]) hS₄ ?_ e.inter rfl rfl rfl rfl (by decide))
    refine Call_Name1 ?_
    refine Calls.Name_function_global hk (e.kindOf (by decide)) (Calls.loadGlobal_builtin (e.globals ▸ hg.keeps hb₄) hg2 (e.builtins ▸ hbl.keeps hb₄) hbl2 ?_)
    refine Calls.callWith_builtin rfl (Calls.evalArgs_plain (Calls.spliced_cons ?_))
    refine comp_rows (f := fun r => chk r.1) (rows := rows.flatMap (rowStep plain level down behind)) (R := s.heap.objs.size) hh (by decide) (by decide) rfl (by decide) (by decide) (by decide) (by decide) (by decide) (by decide) hk (kn (by decide)) (hloc ▸ hn₄) (by simp) hR₄ (by omega) ?_ ?_
    · intro r t1 t2 t3 m₁ C s₁ hr hk₁ hn₁
      have hb' : ∀ b o, base.get? b = some o → s₁.heap.get? b = some o := fun b o q => hk₁ b o (hb₄ b o q)
      have hsc : r.1.length ≤ 1000 := by
        obtain ⟨r₀, hr₀, hr₁⟩ := List.mem_flatMap.mp hr
        have h1 := rowStep_text hr₁
        have h2 := (hok r₀ hr₀).t
        have h3 := ok.p
        omega
      refine isTrue_plain (callDef1 (base := base) (mg := mg) rfl rfl (by show base.Ns env.globals mg; rw [e.globals]; exact hg) hg3 N2.def_ hb' (nm rfl rfl hn₁ (v := .str r.1 t1) (by simp [q19, q20]) ⟨hb', ?_⟩))
      exact call_taken N N2 hb' hh hroom hsc fun s₂ x₂ => wpAny_truthy_bool ⟨rfl, x₂⟩
    · intro D' s₅ items x₅ hD'₀ hD'₅ hI₅
      refine Calls.spliced_nil (sum_keep hh ⟨_, hD'₅.isList, hI₅⟩ fun h₆ tk₆ t₆ hk₆ => ?_)
      have keep₆ : ∀ b o, h₄.get? b = some o → h₆.get? b = some o := fun b o q => hk₆ b o (x₅.keep b o q)
      refine ⟨sitems, hS₄.at fun o q => keep₆ _ o q, ?_, fun h₇ hS₇ hs₇ => ?_⟩
      · have h1 := hSi.length
        have h2 : sitems.toList.length = sitems.size := by simp
        have := sizeLine_eq; omega
      replace hs₇ : Heap.SameBut S h₆ h₇ := hs₇
      refine wpAny_execs_nil ⟨rfl, fun b o x1 x2 q => hs₇.extBut b o x2 (keep₆ b o (old₄ b o x1 q)), x₅.os, x₅.bare, _, s.heap.objs.size, _, (hn₄.keeps keep₆).sameBut hs₇ (Ne.symm hSL), ⟨by simp [q28, p3.plain], by simp [q29, p3.level], by simp [q30, p3.down], by simp [q31, p3.sums]⟩, by simp, hDL, Ne.symm hSD, ?_, hS₇, ?_⟩
      · exact (hR₄.keep (.of_keep keep₆) fun o q => keep₆ _ o q).keep (.of_list (hS₄.at fun o q => keep₆ _ o q) fun b o x q => hs₇.extBut b o x q) fun o q => hs₇.extBut _ o (Ne.symm hSD) q
      · rw [Array.toList_push]
        exact hSi.append (.cons _ _ .nil)
  · exact ⟨fun b o _ _ _ q => push₁ b o q, .of_keep push₁, ⟨by simp [q22], by simp [q23], by simp [q24], by simp [q25]⟩, by simp, by simp [q26, m5], hD₁.keep (.of_keep push₁) fun o q => push₁ _ o q⟩
end
end Mine
namespace Mine
open PySem

def rowsAt (plain : Str) (level down : List Int) : Nat → List Row
  | 0 => [(Str.ofString "", 0, 1)]
  | j + 1 => (rowsAt plain level down j).flatMap (rowStep plain level down (3 - (j : Int)))
def weigh (plain : Str) (level down : List Int) (j : Nat) : Int := (((rowsAt plain level down j).filter fun r => chk r.1).map (·.2.2)).sum
def sumsAt (plain : Str) (level down : List Int) : Nat → List Int
  | 0 => [1]
  | j + 1 => sumsAt plain level down j ++ [weigh plain level down (j + 1)]
theorem sumsAt_len (plain : Str) (level down : List Int) : ∀ j, (sumsAt plain level down j).length = j + 1
  | 0 => rfl
  | j + 1 => by
    show (sumsAt plain level down j ++ [_]).length = _
    rw [List.length_append, sumsAt_len]; rfl

theorem q32 : ¬ (Str.ofString "rows" = Str.ofString "behind") := by decide
theorem q33 : ¬ (Str.ofString "sums" = Str.ofString "behind") := by decide
theorem q34 : ¬ (Str.ofString "plain" = Str.ofString "behind") := by decide
theorem q35 : ¬ (Str.ofString "level" = Str.ofString "behind") := by decide
theorem q36 : ¬ (Str.ofString "down" = Str.ofString "behind") := by decide
theorem q37 : ¬ (Str.ofString "plain" = Str.ofString "sums") := by decide
theorem q38 : ¬ (Str.ofString "level" = Str.ofString "sums") := by decide
theorem q39 : ¬ (Str.ofString "down" = Str.ofString "sums") := by decide
theorem q40 : ¬ (Str.ofString "rows" = Str.ofString "sums") := by decide
theorem q41 : ¬ (Str.ofString "plain" = Str.ofString "level") := by decide
theorem q42 : ¬ (Str.ofString "plain" = Str.ofString "down") := by decide
theorem q43 : ¬ (Str.ofString "level" = Str.ofString "down") := by decide
theorem q44 : ¬ (Str.ofString "level" = Str.ofString "plain") := by decide
theorem q45 : ¬ (Str.ofString "down" = Str.ofString "plain") := by decide
theorem q46 : ¬ (Str.ofString "down" = Str.ofString "level") := by decide

theorem beqF {a b : Str} (h : ¬ a = b) : (a == b) = false := by simpa using h

section
variable {prog : Program} {w : World} {A : Around} {E : Value → Shared → Prop} {s : Shared}

/-- an item of the ints' list that a for walks -/
theorem ints_get {h : Heap} {B : Addr} {ns : List Int} (hB : IntsIn h B ns) : ∃ items, h.IsList B items ∧ items.size = ns.length ∧ ∀ (j : Nat) (n : Int), ns[j]? = some n → ∃ t, items[j]? = some (.int n t) := by
  obtain ⟨vs, hL, hi⟩ := hB
  exact ⟨vs.toArray, hL, by simp [hi.length], fun j n h => by simpa using hi.get j n h⟩

theorem behinds {j : Nat} {n : Int} (h : ([3, 2, 1, 0] : List Int)[j]? = some n) : j < 4 ∧ n = 3 - (j : Int) := by
  match j, h with
  | 0, h => simp at h; subst h; exact ⟨by decide, by decide⟩
  | 1, h => simp at h; subst h; exact ⟨by decide, by decide⟩
  | 2, h => simp at h; subst h; exact ⟨by decide, by decide⟩
  | 3, h => simp at h; subst h; exact ⟨by decide, by decide⟩
  | j + 4, h => simp at h

set_option maxHeartbeats 4000000 in
theorem outer_loop {R' : Result → Shared → Prop} {base h₀ : Heap} {fI fS fC fT fR : Addr} {env : Env} {L R S I B la ld : Addr} {plain : Str} {level down : List Int} {tp : Tok} {m : Str → Option Value} {sit : Array Value}
    (N : Names base fI fS fC) (N2 : TakenNames base fC fT) (N3 : RowsNames base fR fT) (e : EnvFor env (stmtAt atRows) L) (hh : A.handled = none) (hroom : A.depth + 3 < recursionLimit)
    (hb : ∀ b o, base.get? b = some o → h₀.get? b = some o) (hL₀ : h₀.get? L = none) (hS₀ : h₀.get? S = none) (hold : ∀ b o, h₀.get? b = some o → s.heap.get? b = some o)
    (hl : IntsIn h₀ la level) (hd : IntsIn h₀ ld down) (ok : RowsOk level down plain) (hrows : ∀ j, j < 4 → (∀ r ∈ rowsAt plain level down j, RowOk level down (3 - (j : Int)) r) ∧ (rowsAt plain level down j).length ≤ 1000)
    (hn : s.heap.Ns L m) (m4 : m "plain" = some (.str plain tp)) (m6 : m "level" = some (.ref la)) (m7 : m "down" = some (.ref ld)) (m8 : m "rows" = some (.ref R)) (m9 : m "sums" = some (.ref S))
    (hRL : R ≠ L) (hSL : S ≠ L) (hRS : R ≠ S) (hR : RowsAt s.heap R (rowsAt plain level down 0)) (hS : s.heap.PlainList S sit) (hSi : IntsAre sit.toList [1])
    (hit : s.heap.IsListIter I B 0) (hB : IntsIn s.heap B [3, 2, 1, 0]) (hIL : I ≠ L) (hBL : B ≠ L) (hIS : I ≠ S) (hBS : B ≠ S) (hIB : B ≠ I) (hIR : R ≠ I) (hI₀ : h₀.get? I = none)
    (hafter : ∀ m' s' sit', s'.heap.Ns L m' → m' "sums" = some (.ref S) → (∀ b o, h₀.get? b = some o → s'.heap.get? b = some o) → s'.os = s.os → (AllBare s.gens → AllBare s'.gens) → s'.heap.PlainList S sit' → IntsAre sit'.toList (sumsAt plain level down 4) → R' (.ok .next) s') :
    codeAny (model prog w) A (.forLoop (forTgt outerFor) (.ref I) (forBody outerFor) [] env) R' s := by
  have hk : env.scope.kind = .function := e.kind rfl
  have hloc := e.locals
  refine codeAny_forLoop (fun k s' => ∃ j m' R₁ sit', k = 5 - j ∧ j ≤ 4 ∧ (∀ b o, h₀.get? b = some o → s'.heap.get? b = some o) ∧ s'.os = s.os ∧ (AllBare s.gens → AllBare s'.gens) ∧ s'.heap.IsListIter I B j ∧ IntsIn s'.heap B [3, 2, 1, 0] ∧ s'.heap.Ns L m' ∧
    m' "plain" = some (.str plain tp) ∧ m' "level" = some (.ref la) ∧ m' "down" = some (.ref ld) ∧ m' "rows" = some (.ref R₁) ∧ m' "sums" = some (.ref S) ∧ R₁ ≠ L ∧ R₁ ≠ S ∧ R₁ ≠ I ∧ RowsAt s'.heap R₁ (rowsAt plain level down j) ∧
    s'.heap.PlainList S sit' ∧ IntsAre sit'.toList (sumsAt plain level down j)) ?_ 5 ⟨0, m, R, sit, rfl, by decide, hold, rfl, id, hit, hB, hn, m4, m6, m7, m8, m9, hRL, hRS, hIR, hR, hS, hSi⟩
  rintro k s' ⟨j, m', R₁, sit', rfl, hj, p1, p2, p3, p4, p5, p6, p7, p8, p9, p10, p11, p12, p13, p14, p15, p16, p17⟩
  obtain ⟨items, hBl, hBs, hBi⟩ := ints_get p5
  cases hv : ([3, 2, 1, 0] : List Int)[j]? with
  | none =>
    have hje : j = 4 := by
      have : ([3, 2, 1, 0] : List Int).length ≤ j := by simpa using hv
      simp at this; omega
    subst hje
    refine wpAny_pyNext_list_end hh p4 hBl (by simp [hBs]) fun h₁ hx₁ => wpAny_execs_nil ?_
    replace hx₁ : Heap.ExtBut I s'.heap h₁ := hx₁
    exact hafter m' _ sit' (p6.at' fun o q => hx₁ _ o (Ne.symm hIL) q) p11 (fun b o q => hx₁ b o (fun z => by rw [z, hI₀] at q; cases q) (p1 b o q)) p2 p3 (p16.at fun o q => hx₁ _ o (Ne.symm hIS) q) p17
  | some n =>
    obtain ⟨hj4, rfl⟩ := behinds hv
    obtain ⟨tb, hbi⟩ := hBi j _ hv
    refine wpAny_pyNext_list_item p4 hBl hbi fun h₁ hit₁ hs₁ => ?_
    replace hs₁ : Heap.SameBut I s'.heap h₁ := hs₁
    refine wpAny_assign_Name (wpAny_storeName_local (e.kindOf (by decide)) (hloc ▸ p6.sameBut hs₁ (Ne.symm hIL)) (fun h₂ hn₂ hs₂ => ?_) (plainScope hk))
    replace hs₂ : Heap.SameBut L h₁ h₂ := hloc ▸ hs₂
    rw [hloc] at hn₂
    have old₂ : ∀ b o, b ≠ I → b ≠ L → s'.heap.get? b = some o → h₂.get? b = some o := fun b o x1 x2 q => hs₂.extBut b o x2 (hs₁.extBut b o x1 q)
    have h0₂ : ∀ b o, h₀.get? b = some o → h₂.get? b = some o := fun b o q => old₂ b o (fun z => by rw [z, hI₀] at q; cases q) (fun z => by rw [z, hL₀] at q; cases q) (p1 b o q)
    have tk₁ : TupKeep s'.heap h₁ := by
      rintro b its ⟨o, ho, hc, n, hd⟩
      refine ⟨o, hs₁.extBut b o (fun z => ?_) ho, hc, n, hd⟩
      obtain ⟨oi, ho', hc', _⟩ := p4
      rw [z, ho'] at ho
      cases ho
      rw [hc'] at hc
      exact absurd hc (by decide)
    have hla : ∀ {x : Addr} {ns : List Int}, IntsIn h₀ x ns → x ≠ L := fun {x ns} ⟨vs, ⟨o, q, _⟩, _⟩ z => by rw [z, hL₀] at q; cases q
    obtain ⟨ok1, ok2⟩ := hrows j hj4
    refine wpAny_mono (outer_turn (E := notedBy (model prog w) A env fun e s' => R' (.error e) s') (S := S) (R := R₁) (behind := 3 - (j : Int)) (tb := tb) (tp := tp) (plain := plain) (la := la) (ld := ld) (sums := sumsAt plain level down j) N N2 N3 e hh hroom (fun b o q => h0₂ b o (hb b o q)) (by cases q : base.get? L with
        | none => rfl
        | some o => rw [hb _ _ q] at hL₀; cases hL₀) hn₂ (by simp [q34, p7]) (by simp) (by simp [q35, p8]) (by simp [q36, p9]) (by simp [q32, p10]) (by simp [q33, p11])
      (hl.keeps fun o q => h0₂ _ o q) (hd.keeps fun o q => h0₂ _ o q) (hla hl) (hla hd) p12 hSL ok ok1 ((p15.keep tk₁ fun o q => hs₁.extBut _ o p14 q).keep (.of_ns (p6.sameBut hs₁ (Ne.symm hIL)) fun b o x q => hs₂.extBut b o x q) fun o q => hs₂.extBut _ o p12 q)
      (p16.at fun o q => old₂ _ o (Ne.symm hIS) hSL q) p17 (by cases q : base.get? S with
        | none => rfl
        | some o => rw [hb _ _ q] at hS₀; cases hS₀) ok2 (by rw [sumsAt_len]; omega)) (fun f s₃ hf => ?_) fun _ _ q => q
    obtain ⟨rfl, r1, r2, r3, m₂, R₂, sit₂, r4, r5, r6, r7, r8, r9, r10, r11⟩ := hf
    have itp : s₃.heap.IsListIter I B (j + 1) := by
      obtain ⟨o, ho, q⟩ := hit₁
      exact ⟨o, r1 _ o hIL hIS (hs₂.extBut _ o hIL ho), q⟩
    refine ⟨5 - (j + 1), by omega, j + 1, m₂, R₂, sit₂, rfl, hj4, fun b o q => r1 b o (fun z => by rw [z, hL₀] at q; cases q) (fun z => by rw [z, hS₀] at q; cases q) (h0₂ b o q), r2.trans p2, fun q => r3 (p3 q), itp, ?_, r4,
      by rw [r5.plain]; simp [q34, p7], by rw [r5.level]; simp [q35, p8], by rw [r5.down]; simp [q36, p9], r6, by rw [r5.sums]; simp [q33, p11], r7, r8, ?_, r9, r10, r11⟩
    · exact p5.keeps fun o q => r1 _ o hBL hBS (old₂ _ o hIB hBL q)
    · rintro rfl
      obtain ⟨its, ⟨n, q⟩, _⟩ := r9
      obtain ⟨oi, ho', hc', _⟩ := itp
      rw [q] at ho'
      cases ho'
      simp at hc'

set_option maxHeartbeats 4000000 in
theorem call_rows {base : Heap} {fI fS fC fT fR : Addr} {la ld : Addr} {plain : Str} {level down : List Int} {tp : Tok} {Q : Value → Shared → Prop}
    (N : Names base fI fS fC) (N2 : TakenNames base fC fT) (N3 : RowsNames base fR fT) (hh : A.handled = none) (hroom : A.depth + 4 < recursionLimit)
    (hb : ∀ b o, base.get? b = some o → s.heap.get? b = some o) (hl : IntsIn s.heap la level) (hd : IntsIn s.heap ld down) (ok : RowsOk level down plain)
    (hrows : ∀ j, j < 4 → (∀ r ∈ rowsAt plain level down j, RowOk level down (3 - (j : Int)) r) ∧ (rowsAt plain level down j).length ≤ 1000)
    (h : ∀ S s' items, Ext s s' → s.heap.get? S = none → s'.heap.PlainList S items → IntsAre items.toList (sumsAt plain level down 4) → Q (.ref S) s') :
    wpAny (model prog w) A (call (.ref fR) [.str plain tp, .ref la, .ref ld]) Q E s := by
  refine enterDefs (binds := [("plain", .str plain tp), ("level", .ref la), ("down", .ref ld)]) (by omega) N3.def_ N.lim hb ?_ (by decide) ?_ rfl rfl rfl fun env h₁ e1 e2 e3 e4 e5 hn hk₁ => ?_
  · rintro ⟨name, qualname, params, body, scope, globals, closure, defaults, kwdefaults, doc, pyModule, anns, code, closureTuple, builtins⟩ h1 h2 h3
    dsimp only at h1 h2 h3
    subst h1 h2 h3
    rfl
  · intro y hy
    rcases List.mem_cons.mp hy with rfl | hy
    · show (defScope (stmtAt atRows)).names.lookup (Str.ofString "plain") = _; decide
    rcases List.mem_cons.mp hy with rfl | hy
    · show (defScope (stmtAt atRows)).names.lookup (Str.ofString "level") = _; decide
    rcases List.mem_cons.mp hy with rfl | hy
    · show (defScope (stmtAt atRows)).names.lookup (Str.ofString "down") = _; decide
    cases hy
  have e : EnvFor env (stmtAt atRows) s.heap.objs.size := ⟨e1, e2, e3, e4, e5⟩
  have hk : env.scope.kind = .function := e.kind rfl
  have kn : ∀ {n : Str}, (defScope (stmtAt atRows)).names.lookup n = some .local → env.kindOf n = some .local := fun h => e.kindOf h
  have hh' : (A.deeper env).handled = none := hh
  have hroom' : (A.deeper env).depth + 3 < recursionLimit := by show A.depth + 1 + 3 < _; omega
  have b1 : bindFn [("plain", .str plain tp), ("level", .ref la), ("down", .ref ld)] "plain" = some (.str plain tp) := by simp [bindFn, List.lookup, beqF q41, beqF q42]
  have b2 : bindFn [("plain", .str plain tp), ("level", .ref la), ("down", .ref ld)] "level" = some (.ref la) := by simp [bindFn, List.lookup, beqF q43]
  have b3 : bindFn [("plain", .str plain tp), ("level", .ref la), ("down", .ref ld)] "down" = some (.ref ld) := by simp [bindFn, List.lookup]
  generalize bindFn [("plain", .str plain tp), ("level", .ref la), ("down", .ref ld)] = m₀ at hn b1 b2 b3
  have hL₀ : s.heap.get? s.heap.objs.size = none := getAbove _
  have hbL : ∀ b o, s.heap.get? b = some o → b ≠ s.heap.objs.size := fun b o q => Nat.ne_of_lt (Heap.lt_size q)
  -- rows
  refine wpAny_execs_cons (wpAny_Assign_Name (wpAny_List_spliced (spliced_more (tripleOf (litStr (wpAny_Constant_int (wpAny_Constant_int (Calls.spliced_nil ⟨by show 1 ≤ sizeLine; decide, ?_⟩))))))))
  refine wpAny_storeName_local (kn (by decide)) (e2 ▸ (hn.push _).push _) (fun h₂ hn₂ hs₂ => ?_) (plainScope hk)
  obtain ⟨T, hT⟩ : ∃ T, T = h₁.push { cls := .type "tuple", data := .seq #[.str (Str.ofString "") (s.toks + [((Str.ofString "plain"), Value.str plain tp), ((Str.ofString "level"), Value.ref la), ((Str.ofString "down"), Value.ref ld)].length),
    .int 0 (s.toks + [((Str.ofString "plain"), Value.str plain tp), ((Str.ofString "level"), Value.ref la), ((Str.ofString "down"), Value.ref ld)].length + 1), .int 1 (s.toks + [((Str.ofString "plain"), Value.str plain tp), ((Str.ofString "level"), Value.ref la), ((Str.ofString "down"), Value.ref ld)].length + 1 + 1)] } := ⟨_, rfl⟩
  replace hs₂ : Heap.SameBut s.heap.objs.size (T.push { cls := .type "list", data := .seq [Value.ref h₁.objs.size].toArray }) h₂ := by rw [hT, ← e2]; exact hs₂
  have hrow : TupRow T (.ref h₁.objs.size) (Str.ofString "", 0, 1) := by rw [hT]; exact tripleRow (r := (Str.ofString "", 0, 1))
  have hTs : T.objs.size = h₁.objs.size + 1 := by rw [hT, Heap.size_push]
  have upT : ∀ b o, h₁.get? b = some o → T.get? b = some o := fun b o q => by rw [hT]; exact Heap.get?_push_of_some _ q
  have hsz₁ : s.heap.objs.size < h₁.objs.size := hn.lt
  have hTL : T.objs.size ≠ s.heap.objs.size := by rw [hTs]; exact Nat.ne_of_gt (Nat.lt_succ_of_lt hsz₁)
  have nT := (hn.keeps upT).push { cls := .type "list", data := .seq [Value.ref h₁.objs.size].toArray }
  have up₂ : ∀ b o, b ≠ s.heap.objs.size → h₁.get? b = some o → h₂.get? b = some o := fun b o x q => hs₂.extBut b o x (Heap.get?_push_of_some _ (upT b o q))
  have hR₂ : RowsAt h₂ T.objs.size [(Str.ofString "", 0, 1)] := by
    refine ⟨#[.ref h₁.objs.size], ⟨0, hs₂.extBut _ _ hTL (Heap.get?_push_size _ rfl)⟩, .cons ?_ .nil⟩
    exact (hrow.keep (.of_keep fun b o q => Heap.get?_push_of_some _ q)).keep (.of_ns nT fun b o x q => hs₂.extBut b o x q)
  replace hn₂ : h₂.Ns s.heap.objs.size (fun x => if x = Str.ofString "rows" then some (.ref T.objs.size) else m₀ x) := by rw [hT, ← e2]; exact hn₂
  have old₂ : ∀ b o, s.heap.get? b = some o → h₂.get? b = some o := fun b o q => up₂ b o (hbL b o q) (hk₁ b o q)
  -- sums
  refine wpAny_execs_cons (wpAny_Assign_Name (wpAny_List_spliced (spliced_more (wpAny_Constant_int (Calls.spliced_nil ⟨by show 1 ≤ sizeLine; decide, ?_⟩)))))
  refine wpAny_storeName_local (kn (by decide)) (e2 ▸ hn₂.push _) (fun h₃ hn₃ hs₃ => ?_) (plainScope hk)
  rw [e2] at hn₃ hs₃
  replace hs₃ : Heap.SameBut s.heap.objs.size (h₂.push _) h₃ := hs₃
  have hS₃ : ∃ sit, h₃.PlainList h₂.objs.size sit ∧ IntsAre sit.toList [1] := ⟨_, ⟨0, hs₃.extBut _ _ (Nat.ne_of_gt hn₂.lt) (Heap.get?_push_size _ rfl)⟩, .cons _ _ .nil⟩
  have up₃ : ∀ b o, b ≠ s.heap.objs.size → h₂.get? b = some o → h₃.get? b = some o := fun b o x q => hs₃.extBut b o x (Heap.get?_push_of_some _ q)
  have hR₃ : RowsAt h₃ T.objs.size [(Str.ofString "", 0, 1)] := hR₂.keep (.of_ns hn₂ up₃) fun o q => up₃ _ o hTL q
  have old₃ : ∀ b o, s.heap.get? b = some o → h₃.get? b = some o := fun b o q => up₃ b o (hbL b o q) (old₂ b o q)
  have hSL : h₂.objs.size ≠ s.heap.objs.size := Nat.ne_of_gt hn₂.lt
  have hS₀ : s.heap.get? h₂.objs.size = none := by
    cases q : s.heap.get? h₂.objs.size with
    | none => rfl
    | some o => exact absurd (Heap.lt_size (old₂ _ _ q)) (Nat.lt_irrefl _)
  have hTS : T.objs.size ≠ h₂.objs.size := by obtain ⟨_, ⟨n, q⟩, _⟩ := hR₂; exact Nat.ne_of_lt (Heap.lt_size q)
  -- the outer loop
  refine wpAny_execs_cons (wpAny_For (wpAny_List_spliced ?_))
  refine spliced_more (wpAny_Constant_int (spliced_more (wpAny_Constant_int (spliced_more (wpAny_Constant_int (spliced_more (wpAny_Constant_int (Calls.spliced_nil ⟨by show 4 ≤ sizeLine; decide, ?_⟩))))))))
  refine wpAny_pyIter_list (l := h₃.objs.size) ⟨_, Heap.get?_push_size _ rfl, rfl, _, rfl⟩ ?_
  obtain ⟨sit, hS₃, hSi₃⟩ := hS₃
  have hL₃ : s.heap.objs.size < h₃.objs.size := hn₃.lt
  have neB : ∀ b o, h₃.get? b = some o → b ≠ h₃.objs.size := fun b o q => Nat.ne_of_lt (Heap.lt_size q)
  have hSB : h₂.objs.size ≠ h₃.objs.size := by obtain ⟨n, q⟩ := hS₃; exact neB _ _ q
  have hSlt : h₂.objs.size < h₃.objs.size := by obtain ⟨n, q⟩ := hS₃; exact Heap.lt_size q
  have hRlt : T.objs.size < h₃.objs.size := by obtain ⟨_, ⟨n, q⟩, _⟩ := hR₃; exact Heap.lt_size q
  have pp : ∀ (o o' : Obj) b x, h₃.get? b = some x → ((h₃.push o).push o').get? b = some x := fun o o' b x q => Heap.get?_push_of_some _ (Heap.get?_push_of_some _ q)
  refine outer_loop (h₀ := s.heap) (tp := tp) (S := h₂.objs.size) (R := T.objs.size) (B := h₃.objs.size) (sit := sit) N N2 N3 e hh' hroom' hb hL₀ hS₀ (fun b o q => pp _ _ b o (old₃ b o q)) hl hd ok hrows ((hn₃.push _).push _) ?_ ?_ ?_ ?_ ?_ hTL hSL hTS (hR₃.keep (.of_keep (pp _ _)) fun o q => pp _ _ _ o q)
    (hS₃.at fun o q => pp _ _ _ o q) hSi₃ ⟨_, Heap.get?_push_size _ rfl, rfl, rfl⟩ ⟨_, ⟨_, Heap.get?_push_of_some _ (Heap.get?_push_size _ rfl), rfl, _, rfl⟩, .cons _ _ (.cons _ _ (.cons _ _ (.cons _ _ .nil)))⟩ ?_ ?_ ?_ ?_ ?_ ?_ ?_ ?_
  · simp [q28, q37, b1]
  · simp [q29, q38, b2]
  · simp [q30, q39, b3]
  · simp [q40]
  · simp
  · rw [Heap.size_push]; exact Nat.ne_of_gt (Nat.lt_succ_of_lt hL₃)
  · exact Nat.ne_of_gt hL₃
  · rw [Heap.size_push]; exact Nat.ne_of_gt (Nat.lt_succ_of_lt hSlt)
  · exact Ne.symm hSB
  · rw [Heap.size_push]; exact Nat.ne_of_lt (Nat.lt_succ_self _)
  · rw [Heap.size_push]; exact Nat.ne_of_lt (Nat.lt_succ_of_lt hRlt)
  · rw [Heap.size_push]
    cases q : s.heap.get? (h₃.objs.size + 1) with
    | none => rfl
    | some o => exact absurd (Heap.lt_size (old₃ _ _ q)) (Nat.not_lt.mpr (Nat.le_succ _))
  · intro m' s' sit' r1 r2 r3 r4 r5 r6 r7
    show wpAny _ _ (execs _ env) _ _ _
    refine wpAny_execs_cons (wpAny_Return_some (nm hk (kn (by decide)) (e2 ▸ r1) r2 ?_))
    exact h _ s' sit' ⟨r3, r4, r5⟩ hS₀ r6 r7
end
end Mine
namespace Mine
open PySem

/-- in this heap the expression gives this int, and nothing else happens -/
def EvI (prog : Program) (w : World) (A : Around) (env : Env) (h : Heap) (e : Expr) (v : Int) : Prop :=
  ∀ (s : Shared) (E Q : Value → Shared → Prop), s.heap = h → (∀ t tk, Q (.int v t) { s with toks := tk }) → wpAny (model prog w) A (eval e env) Q E s

section
variable {prog : Program} {w : World} {A : Around} {env : Env} {h : Heap}

theorem EvI.const {n : Int} {k : Nat} {pos : Pos} : EvI prog w A env h (.Constant (.int n) k pos) n := fun _ _ _ _ hQ => wpAny_Constant_int (hQ _ _)
theorem EvI.name {n : Str} {pos : Pos} {v : Int} {t : Tok} {m : Str → Option Value} (hk : env.scope.kind = .function) (hl : env.kindOf n = some .local) (hn : h.Ns env.locals m) (hm : m n = some (.int v t)) (hd : (n == ("__debug__" : Str)) = false := by decide) :
    EvI prog w A env h (.Name n pos) v := fun s _ _ e hQ => nm hk hl (e ▸ hn) hm (hQ _ s.toks) hd
theorem EvI.bin {l r : Expr} {op : Operator} {pos : Pos} {a b v : Int} (hl : EvI prog w A env h l a) (hr : EvI prog w A env h r b)
    (hop : ∀ (s : Shared) (E Q : Value → Shared → Prop) t u, (∀ t tk, Q (.int v t) { s with toks := tk }) → wpAny (model prog w) A (binaryOp op (.int a t) (.int b u)) Q E s) : EvI prog w A env h (.BinOp l op r pos) v :=
  fun s E Q e hQ => wpAny_BinOp (hl s E _ e fun t tk => hr { s with toks := tk } E _ e fun u tk' => hop _ _ _ _ _ fun t' tk'' => hQ t' tk'')
theorem EvI.add {l r : Expr} {pos : Pos} {a b : Int} (hl : EvI prog w A env h l a) (hr : EvI prog w A env h r b) : EvI prog w A env h (.BinOp l .Add r pos) (a + b) := hl.bin hr fun _ _ _ _ _ hQ => add_int (hQ _ _)
theorem EvI.sub {l r : Expr} {pos : Pos} {a b : Int} (hl : EvI prog w A env h l a) (hr : EvI prog w A env h r b) : EvI prog w A env h (.BinOp l .Sub r pos) (a - b) := hl.bin hr fun _ _ _ _ _ hQ => sub_int (hQ _ _)
theorem EvI.mul {l r : Expr} {pos : Pos} {a b : Int} (hl : EvI prog w A env h l a) (hr : EvI prog w A env h r b) (hm : IntMulOk a b) : EvI prog w A env h (.BinOp l .Mult r pos) (a * b) := hl.bin hr fun _ _ _ _ _ hQ => mul_int (hQ _ _) hm
theorem EvI.fmod {l r : Expr} {pos : Pos} {a b : Int} (hl : EvI prog w A env h l a) (hr : EvI prog w A env h r b) (hb : b ≠ 0) : EvI prog w A env h (.BinOp l .Mod r pos) (a.fmod b) := hl.bin hr fun _ _ _ _ _ hQ => mod_int hb (hQ _ _)
theorem EvI.fdiv {l r : Expr} {pos : Pos} {a b : Int} (hl : EvI prog w A env h l a) (hr : EvI prog w A env h r b) (hb : b ≠ 0) (hz : b.natAbs.log2 < 9000) : EvI prog w A env h (.BinOp l .FloorDiv r pos) (a.fdiv b) :=
  hl.bin hr fun _ _ _ _ _ hQ => floordiv_int hb (hQ _ _) (.inl (PyProof.noPylong_of_log2 hz))
theorem EvI.pow {l r : Expr} {pos : Pos} {a b : Int} (hl : EvI prog w A env h l a) (hr : EvI prog w A env h r b) (h1 : 2 ≤ a) (h2 : 0 ≤ b) (h3 : ((Builtin.Int.intBits a : Nat) : Int) * b ≤ 1000) : EvI prog w A env h (.BinOp l .Pow r pos) (a ^ b.toNat) := by
  refine hl.bin hr fun s E Q t u hQ => ?_
  by_cases hb : b = 0
  · subst hb
    rw [show a ^ Int.toNat 0 = 1 from Int.pow_zero a] at hQ
    exact PySem.AutoIntOps.pow_0 (by decide) (by decide) (show Q (.int 1 s.toks) _ from hQ _ _)
  · have q1 : (b == 0) = false := by simpa using hb
    have q2 : (a == 0 || a == 1) = false := by simp; omega
    have q3 : (a == -1) = false := by simp; omega
    refine PySem.AutoIntOps.pow_4 h2 (by rw [q1]; decide) (by rw [q2]; decide) (by rw [q3]; decide) ?_ (show Q (.int (a ^ b.toNat) s.toks) _ from hQ _ _)
    have : Builtin.Int.intTooBig (((Builtin.Int.intBits a : Nat) : Int) * b) = false := by
      unfold Builtin.Int.intTooBig
      have : (1000 : Int) ≤ (bitsLine : Int) := by decide +kernel
      simp only [decide_eq_false_iff_not]
      omega
    rw [this]; decide
theorem EvI.item {n : Str} {slice : Expr} {p pos : Pos} {l : Addr} {ns : List Int} {i : Int} {m : Str → Option Value} (hk : env.scope.kind = .function) (hl : env.kindOf n = some .local) (hn : h.Ns env.locals m) (hm : m n = some (.ref l)) (hi : IntsIn h l ns)
    (hs : EvI prog w A env h slice i) (h1 : -(ns.length : Int) ≤ i) (h2 : i < ns.length) (hz : ns.length ≤ 1000)
    (hss : ∀ u, subscripted slice false (.ref l) (.int i u) = operate [.ref l, .int i u] (getItem (.ref l) (.int i u)) := by intro _; with_unfolding_all rfl) (hd : (n == ("__debug__" : Str)) = false := by decide) :
    EvI prog w A env h (.Subscript (.Name n p) slice pos) (itemAt ns i) := by
  refine fun s E Q e hQ => Subscript_ (nm hk hl (e ▸ hn) hm (hs s E _ e fun u tk => ?_) hd)
  exact list_item (s := { s with toks := tk }) (e ▸ hi) h1 h2 hz (fun t => hQ t tk) (hss u)
end
end Mine
namespace Mine
open PySem

theorem compTurn_two0 (elt t1 i1 t2 i2 : Expr) (scope : Scope) (pos : Pos) (it acc : Value) (env : Env) :
    compTurn (.ListComp elt [⟨t1, i1, [], 0⟩, ⟨t2, i2, [], 0⟩] scope pos) 0 it acc env = (standAt i1.pos >>= fun _ => pyNext it >>= fun r => match r with
      | none => pure (.done .next)
      | some v => letOwnedTupleGo t1 it v >>= fun _ => assign t1 env v >>= fun _ => eval i2 env >>= fun x => standAt i2.pos >>= fun _ => foldedSetIterable i2 env x >>= fun x => holding [x] (pyIter x) >>= fun it2 =>
        runOwn (.compStart (.ListComp elt [⟨t1, i1, [], 0⟩, ⟨t2, i2, [], 0⟩] scope pos) 1 it2 acc env) env >>= fun _ =>
          again (.compLoop (.ListComp elt [⟨t1, i1, [], 0⟩, ⟨t2, i2, [], 0⟩] scope pos) 0 it acc env)) := by rfl

theorem compTurn_two1 (elt t1 i1 t2 i2 : Expr) (scope : Scope) (pos : Pos) (it acc : Value) (env : Env) :
    compTurn (.ListComp elt [⟨t1, i1, [], 0⟩, ⟨t2, i2, [], 0⟩] scope pos) 1 it acc env = (standAt i2.pos >>= fun _ => pyNext it >>= fun r => match r with
      | none => pure (.done .next)
      | some v => letOwnedTupleGo t2 it v >>= fun _ => assign t2 env v >>= fun _ =>
        (eval elt env >>= fun x => call (.builtin "list.append") [acc, x] >>= fun _ => pure ()) >>= fun _ =>
          again (.compLoop (.ListComp elt [⟨t1, i1, [], 0⟩, ⟨t2, i2, [], 0⟩] scope pos) 1 it acc env)) := by rfl

section
variable {prog : Program} {w : World} {A : Around} {E : Value → Shared → Prop} {R : Result → Shared → Prop} {s : Shared}

theorem compLoop_two0 {elt t1 i1 t2 i2 : Expr} {scope : Scope} {pos : Pos} {it acc : Value} {env : Env} (I : Nat → Shared → Prop)
    (turn : ∀ n s, I n s → wpAny (model prog w) A (pyNext it) (fun r s₁ => match r with
      | none => R (.ok .next) s₁
      | some v => wpAny (model prog w) A (letOwnedTupleGo t1 it v) (fun _ s₁' => wpAny (model prog w) A (assign t1 env v) (fun _ s₂ => wpAny (model prog w) A (eval i2 env) (fun x s₃ => wpAny (model prog w) A (pyIter x) (fun it2 s₄ =>
          codeAny (model prog w) A (.compStart (.ListComp elt [⟨t1, i1, [], 0⟩, ⟨t2, i2, [], 0⟩] scope pos) 1 it2 acc env) (fun r s₅ => r = .ok .next ∧ ∃ m, m < n ∧ I m s₅) s₄)
          (fun _ _ => False) s₃) (fun _ _ => False) s₂) (fun _ _ => False) s₁') (fun _ _ => False) s₁) (fun _ _ => False) s)
    (n : Nat) (h : I n s) (hs : ∀ x, foldedSetIterable i2 env x = pure x := by intro _; rfl) :
    codeAny (model prog w) A (.compLoop (.ListComp elt [⟨t1, i1, [], 0⟩, ⟨t2, i2, [], 0⟩] scope pos) 0 it acc env) R s := by
  refine codeAny_loop rfl I (fun n s hI => ?_) n h
  show wpAny _ A ((compTurn (.ListComp elt [⟨t1, i1, [], 0⟩, ⟨t2, i2, [], 0⟩] scope pos) 0 it acc env).onRaise (fun x => do noteFrame x env; theTreesLotGoes x)) _ _ s
  refine wpAny_noted ?_
  rw [compTurn_two0]
  refine wpAny_bind (wpAny_standAt (wpAny_bind (wpAny_mono (turn n s hI) (fun r s₁ h₁ => ?_) fun _ _ h' => h'.elim)))
  cases r with
  | none => exact wpAny_pure h₁
  | some v =>
    refine wpAny_bind (wpAny_mono h₁ (fun _ s₁' h₁' => ?_) fun _ _ h' => h'.elim)
    refine wpAny_bind (wpAny_mono h₁' (fun _ s₂ h₂ => ?_) fun _ _ h' => h'.elim)
    refine wpAny_bind (wpAny_mono h₂ (fun x s₃ h₃ => ?_) fun _ _ h' => h'.elim)
    refine wpAny_bind (wpAny_standAt ?_)
    refine wpAny_bind (wpAny_of_eq (hs x) ?_)
    refine wpAny_bind (wpAny_holding (wpAny_mono h₃ (fun it2 s₄ h₄ => ?_) fun _ _ h' => h'.elim))
    refine wpAny_bind (wpAny_runOwn (codeAny_mono h₄ fun r s₅ hr => ?_))
    obtain ⟨rfl, h₅⟩ := hr
    exact wpAny_pure ⟨rfl, h₅⟩

theorem compStart_two1 {elt t1 i1 t2 i2 : Expr} {scope : Scope} {pos : Pos} {it acc : Value} {env : Env}
    (h0 : codeAny (model prog w) A (.compLoop (.ListComp elt [⟨t1, i1, [], 0⟩, ⟨t2, i2, [], 0⟩] scope pos) 1 it acc env) R s)
    (h : wpAny (model prog w) A (pyIter it) (fun it' s' => codeAny (model prog w) A (.compLoop (.ListComp elt [⟨t1, i1, [], 0⟩, ⟨t2, i2, [], 0⟩] scope pos) 1 it' acc env) R s') (fun _ _ => False) s) :
    codeAny (model prog w) A (.compStart (.ListComp elt [⟨t1, i1, [], 0⟩, ⟨t2, i2, [], 0⟩] scope pos) 1 it acc env) R s := by
  refine codeAny_of_tree ?_
  show wpAny _ _ ((compStart (.ListComp elt [⟨t1, i1, [], 0⟩, ⟨t2, i2, [], 0⟩] scope pos) 1 it acc env).onRaise (fun x => do noteFrame x env; standAt theWindowsPlace)) _ _ s
  refine wpAny_notedAt ?_
  unfold compStart
  show wpAny _ _ (ask >>= _) _ _ s
  refine wpAny_bind (wpAny_askSetting (wpAny_ite ?_))
  split
  · first
      | exact wpAny_bind (wpAny_pure (wpAny_pure (And.intro rfl h0)))
      | exact wpAny_pure (And.intro rfl h0)
  · first
      | exact wpAny_bind (wpAny_rule (wpAny_bind (wpAny_standAt (wpAny_bind (wpAny_mono h (fun it' s' h' => wpAny_pure (And.intro rfl h')) fun _ _ x => x.elim)))))
      | (refine wpAny_bind (wpAny_rule ?_); show wpAny _ _ (standAt i2.pos >>= _) _ _ s; exact wpAny_bind (wpAny_standAt (wpAny_bind (wpAny_mono h (fun it' s' h' => wpAny_pure (And.intro rfl h')) fun _ _ x => x.elim))))

theorem compLoop_two1 {elt t1 i1 t2 i2 : Expr} {scope : Scope} {pos : Pos} {it acc : Value} {env : Env} (I : Nat → Shared → Prop)
    (turn : ∀ n s, I n s → wpAny (model prog w) A (pyNext it) (fun r s₁ => match r with
      | none => R (.ok .next) s₁
      | some v => wpAny (model prog w) A (letOwnedTupleGo t2 it v) (fun _ s₁' => wpAny (model prog w) A (assign t2 env v) (fun _ s₂ => wpAny (model prog w) A (eval elt env) (fun x s₃ =>
          wpAny (model prog w) A (call (.builtin "list.append") [acc, x]) (fun _ s₄ => ∃ m, m < n ∧ I m s₄) (fun _ _ => False) s₃)
          (fun _ _ => False) s₂) (fun _ _ => False) s₁') (fun _ _ => False) s₁) (fun _ _ => False) s)
    (n : Nat) (h : I n s) :
    codeAny (model prog w) A (.compLoop (.ListComp elt [⟨t1, i1, [], 0⟩, ⟨t2, i2, [], 0⟩] scope pos) 1 it acc env) R s := by
  refine codeAny_loop rfl I (fun n s hI => ?_) n h
  show wpAny _ A ((compTurn (.ListComp elt [⟨t1, i1, [], 0⟩, ⟨t2, i2, [], 0⟩] scope pos) 1 it acc env).onRaise (fun x => do noteFrame x env; theTreesLotGoes x)) _ _ s
  refine wpAny_noted ?_
  rw [compTurn_two1]
  refine wpAny_bind (wpAny_standAt (wpAny_bind (wpAny_mono (turn n s hI) (fun r s₁ h₁ => ?_) fun _ _ h' => h'.elim)))
  cases r with
  | none => exact wpAny_pure h₁
  | some v =>
    refine wpAny_bind (wpAny_mono h₁ (fun _ s₁' h₁' => ?_) fun _ _ h' => h'.elim)
    exact wpAny_bind (wpAny_mono h₁' (fun _ s₂ h₂ => wpAny_bind (wpAny_bind (wpAny_mono h₂ (fun x s₃ h₃ => wpAny_bind (wpAny_mono h₃
      (fun _ s₄ h₄ => wpAny_pure (wpAny_pure ⟨rfl, h₄⟩)) fun _ _ h' => h'.elim)) fun _ _ h' => h'.elim))) fun _ _ h' => h'.elim)
end
end Mine
namespace Mine
open PySem

theorem na {a b : Nat} (h : a < b) : (a : Addr) ≠ b := Nat.ne_of_lt h
theorem nb {a b : Nat} (h : b < a) : (a : Addr) ≠ b := Nat.ne_of_gt h

section
variable {prog : Program} {w : World} {A : Around} {E : Value → Shared → Prop} {s : Shared}

theorem two_inner {cenv : Env} {elt t1 i1 i2 : Expr} {scope : Scope} {pos p2 : Pos} {n1 n2 : Str} {D C I2 l2 : Addr} {o : Int} {to : Tok} {ps acc : List Int} {g : Int → Int} {m : Str → Option Value} {items : Array Value} {s₄ : Shared}
    (hh : A.handled = none) (hC : cenv.locals = C) (ck : cenv.scope.kind = .function) (k2 : cenv.kindOf n2 = some .local) (n12 : ¬ n1 = n2)
    (hD : s₄.heap.PlainList D items) (hacc : IntsAre items.toList acc) (hn : s₄.heap.Ns C m) (hm : m n1 = some (.int o to)) (hit : s₄.heap.IsListIter I2 l2 0) (hl2 : IntsIn s₄.heap l2 ps)
    (hDC : D ≠ C) (hDI : D ≠ I2) (hCI : C ≠ I2) (hlD : l2 ≠ D) (hlC : l2 ≠ C) (hlI : l2 ≠ I2)
    (helt : ∀ h m' p tp, p ∈ ps → h.Ns C m' → m' n1 = some (.int o to) → m' n2 = some (.int p tp) → EvI prog w A cenv h elt (g p)) (hz : acc.length + ps.length ≤ 10000) :
    codeAny (model prog w) A (.compLoop (.ListComp elt [⟨t1, i1, [], 0⟩, ⟨.Name n2 p2, i2, [], 0⟩] scope pos) 1 (.ref I2) (.ref D) cenv)
      (fun r s' => r = .ok .next ∧ ∃ h' tk m' items', s' = { s₄ with heap := h', toks := tk } ∧ (∀ b o, b ≠ I2 → b ≠ D → b ≠ C → s₄.heap.get? b = some o → h'.get? b = some o) ∧ h'.Ns C m' ∧ h'.PlainList D items' ∧ IntsAre items'.toList (acc ++ ps.map g)) s₄ := by
  obtain ⟨vs, hL2, hps⟩ := hl2
  refine compLoop_two1 (fun k s' => ∃ j h' tk m' items', k = ps.length + 1 - j ∧ j ≤ ps.length ∧ s' = { s₄ with heap := h', toks := tk } ∧ (∀ b o, b ≠ I2 → b ≠ D → b ≠ C → s₄.heap.get? b = some o → h'.get? b = some o) ∧ h'.Ns C m' ∧ m' n1 = some (.int o to) ∧
    h'.PlainList D items' ∧ IntsAre items'.toList (acc ++ (ps.take j).map g) ∧ h'.IsListIter I2 l2 j) ?_ (ps.length + 1)
    ⟨0, s₄.heap, s₄.toks, m, items, rfl, Nat.zero_le _, rfl, fun _ _ _ _ _ q => q, hn, hm, hD, by simpa using hacc, hit⟩
  rintro k s' ⟨j, h', tk, m', items', rfl, hj, rfl, keep', hn', hm', hD', hI', hit'⟩
  have hL2' : h'.IsList l2 vs.toArray := by
    obtain ⟨q, hq, r⟩ := hL2
    exact ⟨q, keep' _ _ hlI hlD hlC hq, r⟩
  have hlen := hps.length
  cases hv : ps[j]? with
  | none =>
    have hje : j = ps.length := Nat.le_antisymm hj (by simpa using hv)
    subst hje
    refine wpAny_pyNext_list_end hh hit' hL2' (by simp [hlen]) fun h₁ hx₁ => ?_
    replace hx₁ : Heap.ExtBut I2 h' h₁ := hx₁
    rw [List.take_length] at hI'
    exact ⟨rfl, h₁, tk, m', items', rfl, fun b o a1 a2 a3 q => hx₁ b o a1 (keep' b o a1 a2 a3 q), hn'.at' fun o q => hx₁ _ o hCI q, hD'.at fun o q => hx₁ _ o hDI q, hI'⟩
  | some p =>
    have hlt : j < ps.length := (List.getElem?_eq_some_iff.mp hv).1
    obtain ⟨tp, hvp⟩ := hps.get j p hv
    refine wpAny_pyNext_list_item hit' hL2' (by simpa using hvp) fun h₁ hit₁ hs₁ => ?_
    replace hs₁ : Heap.SameBut I2 h' h₁ := hs₁
    have hn₁ : h₁.Ns C m' := hn'.at' fun o q => hs₁.extBut _ o hCI q
    refine wpAny_pure ?_
    refine wpAny_assign_Name (wpAny_storeName_local k2 (hC ▸ hn₁) (fun h₂ hn₂ hs₂ => ?_) (plainScope ck))
    rw [hC] at hn₂ hs₂
    replace hs₂ : Heap.SameBut C h₁ h₂ := hs₂
    have hm₂ : (fun y => if y = n2 then some (Value.int p tp) else m' y) n1 = some (.int o to) := by simp [n12, hm']
    refine helt h₂ _ p tp (List.mem_of_getElem? hv) hn₂ hm₂ (by simp) _ _ _ rfl fun t tk₂ => ?_
    have hD₂ : h₂.PlainList D items' := (hD'.at fun o q => hs₁.extBut _ o hDI q).at fun o q => hs₂.extBut _ o hDC q
    have il := hI'.length
    have htk : (acc ++ (ps.take (j + 1)).map g) = (acc ++ (ps.take j).map g) ++ [g p] := by
      rw [List.take_succ, hv]; simp
    refine wpAny_list_append_plain hD₂ (fun h₃ hD₃ hs₃ => ?_) ?_
    · replace hs₃ : Heap.SameBut D h₂ h₃ := hs₃
      refine ⟨ps.length + 1 - (j + 1), by omega, j + 1, h₃, tk₂, _, _, rfl, hlt, rfl, fun b o a1 a2 a3 q => hs₃.extBut b o a2 (hs₂.extBut b o a3 (hs₁.extBut b o a1 (keep' b o a1 a2 a3 q))), hn₂.sameBut hs₃ (Ne.symm hDC), hm₂, hD₃, ?_, ?_⟩
      · rw [htk, Array.toList_push]
        exact hI'.append (.cons _ _ .nil)
      · obtain ⟨x, hx, r⟩ := hit₁
        exact ⟨x, hs₃.extBut _ _ (Ne.symm hDI) (hs₂.extBut _ _ (Ne.symm hCI) hx), r⟩
    · have e : items'.toList.length = items'.size := by simp
      have e2 : (acc ++ (ps.take j).map g).length ≤ acc.length + ps.length := by rw [List.length_append, List.length_map, List.length_take]; omega
      have := sizeLine_eq; omega

set_option maxHeartbeats 2000000 in
/-- a list over two lists of ints, no names from around it -/
theorem comp_two {env : Env} {elt i1 i2 : Expr} {scope : Scope} {pos p1 p2 : Pos} {n1 n2 : Str} {xs ps : List Int} {g : Int → Int → Int} {Q : Value → Shared → Prop}
    (hh : A.handled = none) (hfree : ∀ x ∈ scope.names, x.2 ≠ .free) (hcell : ∀ x ∈ scope.names, x.2 ≠ .cell) (hkind : scope.kind = .function) (hnames : ∀ x ∈ scope.names, x.2 = .local → scope.names.lookup x.1 = some .local)
    (k1 : scope.names.lookup n1 = some .local) (k2 : scope.names.lookup n2 = some .local) (n12 : ¬ n1 = n2)
    (h1 : wpAny (model prog w) A (eval i1 env) (fun v s₁ => ∃ l, v = .ref l ∧ IntsIn s₁.heap l xs ∧ Keeps s s₁) E s)
    (h2 : ∀ C s', wpAny (model prog w) A (eval i2 (compEnv scope C env)) (fun v s₂ => ∃ l, v = .ref l ∧ IntsIn s₂.heap l ps ∧ s'.heap.get? l = none ∧ Keeps s' s₂) (fun _ _ => False) s')
    (helt : ∀ C h m' o to p tp, o ∈ xs → p ∈ ps → h.Ns C m' → m' n1 = some (.int o to) → m' n2 = some (.int p tp) → EvI prog w A (compEnv scope C env) h elt (g o p)) (hz : xs.length * ps.length + ps.length ≤ 10000)
    (h : ∀ D s' items, Keeps s s' → s.heap.get? D = none → s'.heap.PlainList D items → IntsAre items.toList (xs.flatMap fun o => ps.map (g o)) → Q (.ref D) s')
    (hs : ∀ x, foldedSetIterable i1 env x = pure x := by intro _; rfl) (hs2 : ∀ C x, foldedSetIterable i2 (compEnv scope C env) x = pure x := by intro _ _; rfl) :
    wpAny (model prog w) A (eval (.ListComp elt [⟨.Name n1 p1, i1, [], 0⟩, ⟨.Name n2 p2, i2, [], 0⟩] scope pos) env) Q E s := by
  refine wpAny_ListComp hfree hkind hnames (wpAny_mono h1 (fun v s₁ hv => ?_) fun _ _ e => e) hs
  obtain ⟨l, rfl, ⟨vs, hL, hxs⟩, ⟨h₁, tk₁, rfl, keep₁⟩⟩ := hv
  replace hL : h₁.IsList l vs.toArray := hL
  refine wpAny_pyIter_list hL ?_
  refine wpAny_newObj_type (wpAny_newFunctionEnv hcell (by intro y hy; simp at hy) (fun h₂ hn₂ hs₂ => ?_) hkind)
  dsimp only at hn₂ hs₂ ⊢
  obtain ⟨I, hI⟩ : ∃ I : Nat, I = h₁.objs.size := ⟨_, rfl⟩
  have e1 : (h₁.push { cls := .type "list_iterator", data := .fields #[.ref l, .int 0 0] }).objs.size = I + 1 := by rw [Heap.size_push, hI]
  have e2 : ((h₁.push { cls := .type "list_iterator", data := .fields #[.ref l, .int 0 0] }).push { cls := .type "list", data := .seq ([] : List Value).toArray }).objs.size = I + 1 + 1 := by rw [Heap.size_push, e1]
  rw [e2] at hn₂ hs₂
  rw [e1, e2, ← hI]
  have lt1 : ∀ (b : Nat) (o : Obj), h₁.get? b = some o → b < I := fun b o q => hI ▸ Heap.lt_size q
  have up₂ : ∀ b o, h₁.get? b = some o → h₂.get? b = some o := fun b o q => hs₂.extBut b o (na (by have := lt1 b o q; omega)) (Heap.get?_push_of_some _ (Heap.get?_push_of_some _ (Heap.get?_push_of_some _ q)))
  have hit₂ : h₂.IsListIter I l 0 := ⟨_, hs₂.extBut _ _ (na (by omega)) (Heap.get?_push_of_some _ (Heap.get?_push_of_some _ (hI ▸ Heap.get?_push_size _ rfl))), rfl, rfl⟩
  have hD₂ : h₂.PlainList (I + 1) #[] := ⟨_, hs₂.extBut _ _ (na (by omega)) (Heap.get?_push_of_some _ (e1 ▸ Heap.get?_push_size _ rfl))⟩
  have hlI : @LT.lt Nat _ l I := by obtain ⟨o, ho, _⟩ := hL; exact lt1 _ _ ho
  have hlen := hxs.length
  have loop : codeAny (model prog w) A (.compLoop (.ListComp elt [⟨.Name n1 p1, i1, [], 0⟩, ⟨.Name n2 p2, i2, [], 0⟩] scope pos) 0 (.ref I) (.ref (I + 1)) (compEnv scope (I + 1 + 1) env))
      (fun r s' => r = .ok .next ∧ ∃ m, s'.heap.Ns (I + 1 + 1) m ∧ ∀ h', Heap.SameBut (I + 1 + 1) s'.heap h' → Q (.ref (I + 1)) { s' with heap := h' }) { s with heap := h₂, toks := tk₁ + ([] : List (Str × Value)).length } := by
    refine compLoop_two0 (fun k s' => ∃ j h' tk m' items, k = xs.length + 1 - j ∧ j ≤ xs.length ∧ s' = { s with heap := h', toks := tk } ∧ (∀ b o, h₁.get? b = some o → h'.get? b = some o) ∧ h'.IsListIter I l j ∧ h'.Ns (I + 1 + 1) m' ∧
      h'.PlainList (I + 1) items ∧ IntsAre items.toList ((xs.take j).flatMap fun o => ps.map (g o))) ?_ (xs.length + 1) ⟨0, h₂, _, _, #[], rfl, Nat.zero_le _, rfl, up₂, hit₂, hn₂, hD₂, .nil⟩ (hs2 _)
    rintro k s' ⟨j, h', tk, m', items, rfl, hj, rfl, keep', hit', hn', hD', hI'⟩
    have hL' : h'.IsList l vs.toArray := by
      obtain ⟨q, hq, r⟩ := hL
      exact ⟨q, keep' _ _ hq, r⟩
    cases hv : xs[j]? with
    | none =>
      have hje : j = xs.length := Nat.le_antisymm hj (by simpa using hv)
      subst hje
      refine wpAny_pyNext_list_end hh hit' hL' (by simp [hlen]) fun h₃ hx₃ => ?_
      replace hx₃ : Heap.ExtBut I h' h₃ := hx₃
      rw [List.take_length] at hI'
      refine ⟨rfl, m', hn'.at' fun o q => hx₃ _ o (nb (by omega)) q, fun h₄ hs₄ => ?_⟩
      replace hs₄ : Heap.SameBut (I + 1 + 1) h₃ h₄ := hs₄
      refine h (I + 1) _ items ⟨h₄, tk, rfl, fun b o q => ?_⟩ ?_ ((hD'.at fun o q => hx₃ _ o (nb (by omega)) q).at fun o q => hs₄.extBut _ o (na (by omega)) q) hI'
      · have q₁ := keep₁ b o q
        have := lt1 b o q₁
        exact hs₄.extBut b o (na (by omega)) (hx₃ b o (na (by omega)) (keep' b o q₁))
      · cases q : s.heap.get? (I + 1) with
        | none => rfl
        | some o => exact absurd (lt1 _ _ (keep₁ _ _ q)) (by omega)
    | some x =>
      have hlt : j < xs.length := (List.getElem?_eq_some_iff.mp hv).1
      obtain ⟨tx, hvx⟩ := hxs.get j x hv
      refine wpAny_pyNext_list_item hit' hL' (by simpa using hvx) fun h₃ hit₃ hs₃ => ?_
      replace hs₃ : Heap.SameBut I h' h₃ := hs₃
      have hn₃ : h₃.Ns (I + 1 + 1) m' := hn'.at' fun o q => hs₃.extBut _ o (nb (by omega)) q
      refine wpAny_pure ?_
      refine wpAny_assign_Name (wpAny_storeName_local (env := compEnv scope (I + 1 + 1) env) k1 hn₃ (fun h₄ hn₄ hs₄ => ?_) (plainScope hkind))
      replace hs₄ : Heap.SameBut (I + 1 + 1) h₃ h₄ := hs₄
      have hD₄ : h₄.PlainList (I + 1) items := (hD'.at fun o q => hs₃.extBut _ o (nb (by omega)) q).at fun o q => hs₄.extBut _ o (na (by omega)) q
      have hit₄ : h₄.IsListIter I l (j + 1) := by
        obtain ⟨q, hq, r⟩ := hit₃
        exact ⟨q, hs₄.extBut _ _ (na (by omega)) hq, r⟩
      have up₄ : ∀ b o, h₁.get? b = some o → h₄.get? b = some o := fun b o q => hs₄.extBut b o (na (by have := lt1 b o q; omega)) (hs₃.extBut b o (na (by have := lt1 b o q; omega)) (keep' b o q))
      refine wpAny_mono (h2 (I + 1 + 1) _) (fun v₂ s₅ hv₂ => ?_) fun _ _ q => q
      obtain ⟨l2, rfl, hl2, hfr, ⟨h₅, tk₅, rfl, up₅⟩⟩ := hv₂
      replace up₅ : ∀ b o, h₄.get? b = some o → h₅.get? b = some o := up₅
      replace hfr : h₄.get? l2 = none := hfr
      obtain ⟨vs₂, hL₂, hps⟩ := hl2
      replace hL₂ : h₅.IsList l2 vs₂.toArray := hL₂
      refine wpAny_pyIter_list hL₂ ?_
      have up₆ : ∀ b o, h₅.get? b = some o → (h₅.push { cls := .type "list_iterator", data := .fields #[.ref l2, .int 0 0] }).get? b = some o := fun b o q => Heap.get?_push_of_some _ q
      have hit₆ : (h₅.push { cls := .type "list_iterator", data := .fields #[.ref l2, .int 0 0] }).IsListIter h₅.objs.size l2 0 := ⟨_, Heap.get?_push_size _ rfl, rfl, rfl⟩
      have hD₅ : h₅.PlainList (I + 1) items := hD₄.at fun o q => up₅ _ o q
      have hn₅ := hn₄.keeps up₅
      have hDlt : @LT.lt Nat _ (I + 1) h₅.objs.size := by obtain ⟨n, q⟩ := hD₅; exact Heap.lt_size q
      have hClt : @LT.lt Nat _ (I + 1 + 1) h₅.objs.size := hn₅.lt
      have hllt : @LT.lt Nat _ l2 h₅.objs.size := by obtain ⟨q, hq, _⟩ := hL₂; exact Heap.lt_size hq
      have hlD : l2 ≠ I + 1 := by rintro rfl; obtain ⟨n, q⟩ := hD₄; rw [q] at hfr; cases hfr
      have hlC : l2 ≠ I + 1 + 1 := by rintro rfl; obtain ⟨o, _, _, q, _⟩ := hn₄; exact absurd (hfr.symm.trans q) (by simp)
      have inner := two_inner (t1 := .Name n1 p1) (i1 := i1) (i2 := i2) (scope := scope) (pos := pos) (p2 := p2) (elt := elt) (cenv := compEnv scope (I + 1 + 1) env) (C := I + 1 + 1) (D := I + 1) (I2 := h₅.objs.size) (l2 := l2) (o := x) (to := tx) (ps := ps) (g := g x) (A := A) (prog := prog) (w := w)
        (s₄ := { s with heap := h₅.push { cls := .type "list_iterator", data := .fields #[.ref l2, .int 0 0] }, toks := tk₅ }) hh rfl hkind k2 n12 (hD₅.at fun o q => up₆ _ o q) hI' (hn₅.keeps up₆) (by simp) hit₆ ⟨vs₂, (by obtain ⟨q, hq, r⟩ := hL₂; exact ⟨q, up₆ _ _ hq, r⟩), hps⟩
        (na (by omega)) (na (by omega)) (na (by omega)) hlD hlC (na (by omega)) (fun h m'' p tp hp a1 a2 a3 => helt _ h m'' x tx p tp (List.mem_of_getElem? hv) hp a1 a2 a3) (by
          have : ((xs.take j).flatMap fun o => ps.map (g o)).length ≤ xs.length * ps.length := by
            rw [List.length_flatMap]
            simp only [List.length_map, List.map_const', List.sum_replicate_nat, List.length_take]
            exact Nat.mul_le_mul_right _ (by omega)
          omega)
      have fin := codeAny_mono (R' := fun (r : Result) s₅ => r = .ok .next ∧ ∃ m, m < xs.length + 1 - j ∧ ∃ j h' tk m' items, m = xs.length + 1 - j ∧ j ≤ xs.length ∧ s₅ = { s with heap := h', toks := tk } ∧ (∀ b o, h₁.get? b = some o → h'.get? b = some o) ∧ h'.IsListIter I l j ∧ h'.Ns (I + 1 + 1) m' ∧
        h'.PlainList (I + 1) items ∧ IntsAre items.toList ((xs.take j).flatMap fun o => ps.map (g o))) inner (fun r s₇ hr => by
          obtain ⟨rfl, h₇, tk₇, m₇, items₇, rfl, q1, q2, q3, q4⟩ := hr
          refine ⟨rfl, xs.length + 1 - (j + 1), by omega, j + 1, h₇, tk₇, m₇, items₇, rfl, hlt, rfl, fun b o q => ?_, ?_, q2, q3, ?_⟩
          · have r1 := lt1 b o q
            exact q1 b o (na (by omega)) (na (by omega)) (na (by omega)) (up₆ b o (up₅ b o (up₄ b o q)))
          · obtain ⟨q, hq, r⟩ := hit₄
            exact ⟨q, q1 _ _ (na (by omega)) (na (by omega)) (na (by omega)) (up₆ _ _ (up₅ _ _ hq)), r⟩
          · rw [List.take_succ, hv]
            simpa using q4)
      refine compStart_two1 fin (wpAny_pyIter_listiter hit₆ fin)
  have loop' := codeAny_mono (R' := fun (r : Result) s' => ∃ m, s'.heap.Ns (I + 1 + 1) m ∧ ∀ h', Heap.SameBut (I + 1 + 1) s'.heap h' →
    match r with | .ok _ => Q (.ref (I + 1)) { s' with heap := h' } | .error x => wpAny (model prog w) A (passOn "comprehension.variables-let-go" x (compEnv scope (I + 1 + 1) env)) Q E { s' with heap := h' }) loop
    (fun r s' hr => by
      obtain ⟨rfl, m, q1, q2⟩ := hr
      exact ⟨m, q1, q2⟩)
  exact codeAny_compStart_list loop' (wpAny_pyIter_listiter hit₂ loop')
end
end Mine
namespace Mine
open PySem

section
variable {prog : Program} {w : World} {A : Around} {E : Value → Shared → Prop} {s : Shared}

theorem IntsIn.new {h : Heap} {vs : List Value} {ns : List Int} (hi : IntsAre vs ns) : IntsIn (h.push { cls := .type "list", data := .seq vs.toArray }) h.objs.size ns := ⟨vs, ⟨_, Heap.get?_push_size _ rfl, rfl, _, rfl⟩, hi⟩

/-- the sum of a slice of a list of ints -/
theorem sum_slice {value slice : Expr} {l : Addr} {ns : List Int} {k step : Int} {tk tq : Tok} {ops : List Value} {Q : Value → Shared → Prop} {s : Shared} (hl : IntsIn s.heap l ns) (hz : ns.length ≤ 1000) (hst : step ≠ 0)
    (h : ∀ l' h', IntsIn h' l' (pickNums ns (some k) none (some step)) → (∀ b o, s.heap.get? b = some o → h'.get? b = some o) → s.heap.get? l' = none → Q (.ref l') { s with heap := h' })
    (hs : subscripted slice false (.ref l) (.ref s.heap.objs.size) = operate ops (getItem (.ref l) (.ref s.heap.objs.size)) := by with_unfolding_all rfl)
    (ht : ∀ r, letTemporaryGo value (.ref l) r = pure () := by intro _; with_unfolding_all rfl) :
    wpAny (model prog w) A (subscriptTail value slice (.ref l) (.ref s.heap.objs.size)) Q E { s with heap := s.heap.push { cls := .type "slice", data := .fields #[.int k tk, .none, .int step tq] } } := by
  obtain ⟨vs, hL, hi⟩ := hl
  refine subscriptTail_ops (Heap.IsList.typeIs (s := { s with heap := s.heap.push { cls := .type "slice", data := .fields #[.int k tk, .none, .int step tq] } }) (hL.push _)) list_getitem_lookup
    (wpAny_getItem_list_slice (hL.push _) (Heap.IsSliceOf.new ..) (IsPart.int _ _) .none (IsPart.int _ _) (by simpa using hst) ?_ ?_) hs ht
  · refine h _ _ ?_ (fun b o q => Heap.get?_push_of_some _ (Heap.get?_push_of_some _ q)) ?_
    · have := IntsIn.new (h := s.heap.push { cls := .type "slice", data := .fields #[.int k tk, .none, .int step tq] }) (hi.pick (some k) none (some step))
      simpa using this
    · cases q : s.heap.get? (s.heap.push { cls := .type "slice", data := .fields #[.int k tk, .none, .int step tq] }).objs.size with
      | none => rfl
      | some o =>
        have q1 := Heap.lt_size q
        rw [Heap.size_push] at q1
        exact absurd q1 (Nat.not_lt.mpr (Nat.le_succ _))
  · have := hi.length; have := sizeLine_eq; simp; omega

def compNames (k x : Str) (q : NameKind) : List (Str × NameKind) := [(Str.ofString ".0", .local), (k, .local), (Str.ofString "sum", .globalImplicit), (x, q)]

def addsOf (ns : List Int) (cnt : Nat) (step : Int) : List Int := (List.range cnt).map fun (j : Nat) => (pickNums ns (some ((j : Nat) : Int)) none (some step)).sum

theorem closureFor_one {scope : Scope} {env : Env} {x k : Str} {c : Addr} (hsn : scope.names = compNames k x .free) (hc : env.cells.lookup x = some c) : closureFor scope env = pure [(x, c)] := by
  unfold closureFor
  rw [hsn]
  unfold compNames
  simp only [List.forIn_cons, List.forIn_nil]
  unfold cellOf
  rw [hc]
  rfl

set_option maxHeartbeats 1000000 in
/-- y = [sum(x[k::step]) for k in range(cnt)], x a cell of the def around -/
theorem adds_stmt {env : Env} {base : Heap} {c l : Addr} {ns : List Int} {cnt : Nat} {step : Int} {x k y : Str} {p1 p2 p3 p4 p5 p6 p7 p8 p9 p10 p11 p12 p13 : Pos} {c1 c2 : Nat} {scope : Scope} {m mg mb : Str → Option Value} {Q : Flow → Shared → Prop}
    (hh : A.handled = none) (hk : env.scope.kind = .function) (hx : env.kindOf x = some .cell) (hc : env.cells.lookup x = some c) (hy : env.kindOf y = some .local) (hr : env.kindOf "range" = some .globalImplicit)
    (hsn : scope.names = compNames k x .free) (hkind : scope.kind = .function) (hkx : ¬ k = x) (hk0 : ¬ k = Str.ofString ".0") (hks : ¬ k = Str.ofString "sum") (hx0 : ¬ x = Str.ofString ".0") (hxs : ¬ x = Str.ofString "sum")
    (hbl : base.Ns env.builtins mb) (hb1 : mb "range" = some (.type "range")) (hb2 : mb "sum" = some (.builtin "sum")) (hg : base.Ns env.globals mg) (hg1 : mg "range" = none) (hg2 : mg "sum" = none)
    (hb : ∀ b o, base.get? b = some o → s.heap.get? b = some o) (hn : s.heap.Ns env.locals m) (hcl : s.heap.IsCell c (some (.ref l))) (hl : IntsIn s.heap l ns) (hz : ns.length ≤ 1000) (hst : step ≠ 0) (hcnt : cnt ≤ 1000)
    (hdk : (k == ("__debug__" : Str)) = false) (hdx : (x == ("__debug__" : Str)) = false)
    (h : ∀ D h' tk, s.heap.get? D = none → IntsIn h' D (addsOf ns cnt step) → h'.Ns env.locals (fun z => if z = y then some (.ref D) else m z) → (∀ b o, b ≠ env.locals → s.heap.get? b = some o → h'.get? b = some o) → Q .next { s with heap := h', toks := tk })
    (hline : (p13.line == p12.line) = true) (hany : ((compNames k x .free).any fun (n, kk) => n == y && (kk == .local || kk == .cell)) = false)
    {spos : Pos} :
    wpAny (model prog w) A (exec (.Assign [.Name y p13] (.ListComp (.Call (.Name "sum" p1) [.Subscript (.Name x p2) (.Slice (some (.Name k p3)) none (some (.Constant (.int step) c1 p4)) p5) p6] [] p7) [⟨.Name k p8, .Call (.Name "range" p9) [.Constant (.int (cnt : Int)) c2 p10] [] p11, [], 0⟩] scope p12) spos) env) Q E s := by
  have hfun : (NameKind.free == NameKind.free && env.scope.kind == ScopeKind.function && env.kindOf x == some NameKind.cell) = true := by rw [hk, hx]; rfl
  have hrel : (relabel scope env).names = compNames k x .cell := by
    unfold relabel
    dsimp only
    rw [hsn]
    unfold compNames
    simp only [List.map_cons, List.map_nil, hfun, if_true]
    rfl
  have kk : ∀ C, (compEnvC scope [(x, c)] C env).kindOf k = some .local := fun C => by
    show (relabel scope env).names.lookup k = _
    rw [hrel]; unfold compNames; simp [List.lookup, beqF hk0]
  have ks : ∀ C, (compEnvC scope [(x, c)] C env).kindOf "sum" = some .globalImplicit := fun C => by
    show (relabel scope env).names.lookup (Str.ofString "sum") = _
    rw [hrel]; unfold compNames; simp [List.lookup, beqF (fun h : (Str.ofString "sum") = k => hks h.symm), beqF (show ¬ Str.ofString "sum" = Str.ofString ".0" by decide)]
  have kx : ∀ C, (compEnvC scope [(x, c)] C env).kindOf x = some .cell := fun C => by
    show (relabel scope env).names.lookup x = _
    rw [hrel]; unfold compNames; simp [List.lookup, beqF hx0, beqF hxs, beqF (fun h : x = k => hkx h.symm)]
  have hkl : scope.names.lookup k = some .local := by rw [hsn]; unfold compNames; simp [List.lookup, beqF hk0]
  have hbk : env.blockKind = .function := by simp [Env.blockKind, hk, ScopeKind.isAnnotationScope]
  have hsw : swapsWith (.ListComp (.Call (.Name "sum" p1) [.Subscript (.Name x p2) (.Slice (some (.Name k p3)) none (some (.Constant (.int step) c1 p4)) p5) p6] [] p7) [⟨.Name k p8, .Call (.Name "range" p9) [.Constant (.int (cnt : Int)) c2 p10] [] p11, [], 0⟩] scope p12) (some (.Name y p13)) spos.line env = pure true := by
    show (pure (env.blockKind == .function && env.kindOf y == some .local && p13.line == p12.line && !(scope.names.any fun (n, kk) => n == y && (kk == .local || kk == .cell))) : Sem Bool) = pure true
    rw [hbk, hy, hline, hsn, hany]
    rfl
  refine wpAny_Assign_ListComp_free (fun _ => true) (fun v y' => ∃ j t t', v = .int j t ∧ y' = .int (pickNums ns (some j) none (some step)).sum t') hsw (closureFor_one hsn hc) ?_ hkind ?_ hkl hy (plainScope hk) ?_
  · rw [hsn]; unfold compNames; intro z hz; simp at hz; rcases hz with rfl | rfl | rfl | rfl <;> exact fun h => by cases h
  · rw [hsn]; unfold compNames; intro z hz hz2; simp at hz
    rcases hz with rfl | rfl | rfl | rfl
    · rfl
    · simp [List.lookup, beqF hk0]
    · cases hz2
    · cases hz2
  refine Call_Name1 (Calls.Name_function_global hk hr (Calls.loadGlobal_builtin (hg.keeps hb) hg1 (hbl.keeps hb) hb1 (PyProof.Rows.callWith_type rfl (Calls.evalArgs_plain (Calls.spliced_cons (wpAny_Constant_int (Calls.spliced_nil (call_range_1 ?_)))))))) 
  refine wpAny_pyIter_range (IsRange.new ..) (small_one (by decide) (by decide) (by omega) (by omega)) ?_
  have up : ∀ b o, s.heap.get? b = some o → ((s.heap.push { cls := .type "range", data := .fields #[.int 0 (s.toks + 1), .int cnt s.toks, .int 1 (s.toks + 1 + 1)] }).push { cls := .type "range_iterator", data := .fields #[rawInt 0, rawInt (Builtin.Range.rangeSize 0 cnt 1), rawInt 1] }).get? b = some o :=
    fun b o q => Heap.get?_push_of_some _ (Heap.get?_push_of_some _ q)
  have hrs : Builtin.Range.rangeSize 0 (cnt : Int) 1 = (cnt : Int) := by rw [rangeSize_one]; split <;> omega
  refine ⟨_, _, _, _, _, _, m, rfl, Walks.range hh _ 0 1 cnt, by have := sizeLine_eq; omega, ?_, ?_, ?_, (hn.push _).push _, ?_, ?_⟩
  · show IsRangeIter _ _ _ _ _
    have := Heap.get?_push_size (s.heap.push { cls := .type "range", data := .fields #[.int 0 (s.toks + 1), .int cnt s.toks, .int 1 (s.toks + 1 + 1)] }) (o := { cls := .type "range_iterator", data := .fields #[rawInt 0, rawInt (Builtin.Range.rangeSize 0 cnt 1), rawInt 1] }) rfl
    rw [hrs] at this
    rw [hrs]
    simpa using this
  · intro b hb'
    rw [List.mem_singleton.mp hb']
    simp only [Heap.size_push]
    exact Nat.lt_succ_self _
  · intro hb'
    have := hn.lt
    have e := List.mem_singleton.mp hb'
    rw [e, Heap.size_push] at this
    exact absurd this (Nat.not_lt.mpr (Nat.le_succ _))
  · refine ⟨fun _ _ _ _ _ _ _ _ _ _ _ _ => wpAny_tests_nil ⟨rfl, keeps_refl _⟩, ?_⟩
    rintro C i v s₃ m₃ E' hC ⟨t, rfl⟩ - hn₃ hm₃ keep₃ -
    have up₃ : ∀ b o, s.heap.get? b = some o → s₃.heap.get? b = some o := fun b o q => keep₃ b o (fun hb' => by
      have q1 := Heap.lt_size q
      rw [List.mem_singleton.mp hb', Heap.size_push] at q1
      exact absurd q1 (Nat.not_lt.mpr (Nat.le_succ _))) (up b o q)
    have hcl₃ : s₃.heap.IsCell c (some (.ref l)) := hcl.keeps up₃
    have ckind : (compEnvC scope [(x, c)] C env).scope.kind = .function := hkind
    refine Call_Name1 (Calls.Name_function_global ckind (ks C) (Calls.loadGlobal_builtin (hg.keeps fun b o q => up₃ b o (hb b o q)) hg2 (hbl.keeps fun b o q => up₃ b o (hb b o q)) hb2 (Calls.callWith_builtin rfl (Calls.evalArgs_plain (Calls.spliced_cons ?_)))))
    refine Subscript_ (wpAny_Name (wpAny_loadName_cell ckind (kx C) (by simp [compEnvC]) hcl₃ ?_) hdx)
    refine wpAny_Slice (wpAny_evalPart_some (nm ckind (kk C) hn₃ hm₃ (wpAny_evalPart_none (wpAny_evalPart_some (wpAny_Constant_int ?_))) hdk))
    refine sum_slice (s := { s₃ with toks := s₃.toks + 1 }) (hl.keeps fun o q => up₃ _ o q) hz hst fun l' h' hl' keep' hfr' => Calls.spliced_nil (sum_keep hh hl' fun h'' tk'' t' keep'' => ?_)
    exact ⟨⟨_, _, _, rfl, rfl⟩, h'', tk'', rfl, fun b o q => keep'' b o (keep' b o q)⟩
  · intro D h' tk ys vs hD hyl hypl hlen hvs hF hn' hk'
    have hD₀ : s.heap.get? D = none := by
      cases q : s.heap.get? D with
      | none => rfl
      | some o => rw [up D o q] at hD; cases hD
    refine h D h' tk hD₀ ?_ hn' fun b o hbL q => hk' b o hbL ?_ (up b o q)
    · refine ⟨ys.toList, by simpa using hyl, ?_⟩
      rw [List.filter_eq_self.mpr (fun _ _ => rfl)] at hF
      have key : ∀ (vs' : List Value) (ys' : List Value) (i : Nat), (∀ j v, vs'[j]? = some v → ∃ t, v = Value.int ((i + j : Nat) : Int) t) → Paired (fun (v y' : Value) => ∃ j t t', v = .int j t ∧ y' = .int (pickNums ns (some j) none (some step)).sum t') vs' ys' →
          IntsAre ys' ((List.range vs'.length).map fun j => (pickNums ns (some ((i + j : Nat) : Int)) none (some step)).sum) := by
        intro vs' ys' i hv hp
        induction hp generalizing i with
        | nil => exact .nil
        | cons q _ ih =>
          obtain ⟨j, t, t', rfl, rfl⟩ := q
          obtain ⟨t₀, e⟩ := hv 0 _ rfl
          cases e
          rw [List.length_cons, List.range_succ_eq_map, List.map_cons, List.map_map]
          refine .cons _ _ ?_
          have := ih (i + 1) fun j v hj => by
            obtain ⟨t, e⟩ := hv (j + 1) v (by simpa using hj)
            exact ⟨t, by rw [e]; congr 2; omega⟩
          have e2 : ((fun j : Nat => (pickNums ns (some ((i + j : Nat) : Int)) none (some step)).sum) ∘ Nat.succ) = fun j : Nat => (pickNums ns (some ((i + 1 + j : Nat) : Int)) none (some step)).sum := by
            funext j; simp only [Function.comp]; congr 3; omega
          rw [e2]
          exact this
      have := key vs ys.toList 0 (fun j v hj => by
        obtain ⟨t, e⟩ := hvs j v hj
        exact ⟨t, by rw [e]; congr 1; omega⟩) hF
      rw [hlen] at this
      unfold addsOf
      simpa using this
    · intro hb'
      have q1 := Heap.lt_size q
      rw [List.mem_singleton.mp hb', Heap.size_push] at q1
      exact absurd q1 (Nat.not_lt.mpr (Nat.le_succ _))
end
end Mine
namespace Mine
open PySem

/-- all that stood stands, but for one object -/
def Up (L : Addr) (h h' : Heap) : Prop := ∀ b o, b ≠ L → h.get? b = some o → h'.get? b = some o
theorem Up.refl {L : Addr} {h : Heap} : Up L h h := fun _ _ _ q => q
theorem Up.trans {L : Addr} {h h' h'' : Heap} (x : Up L h h') (y : Up L h' h'') : Up L h h'' := fun b o hb q => y b o hb (x b o hb q)
theorem Up.of_keep {L : Addr} {h h' : Heap} (x : ∀ b o, h.get? b = some o → h'.get? b = some o) : Up L h h' := fun b o _ q => x b o q
theorem Up.of_same {L : Addr} {h h' : Heap} (x : Heap.SameBut L h h') : Up L h h' := fun b o hb q => x.extBut b o hb q
theorem IntsIn.up {L l : Addr} {h h' : Heap} {ns : List Int} (x : IntsIn h l ns) (u : Up L h h') (hl : l ≠ L) : IntsIn h' l ns := x.keeps fun o q => u l o hl q
theorem cell_up {L c : Addr} {h h' : Heap} {v : Option Value} (x : h.IsCell c v) (u : Up L h h') (hl : c ≠ L) : h'.IsCell c v := let ⟨o, ho, q⟩ := x; ⟨o, u c o hl ho, q⟩
theorem base_up {L : Addr} {base h h' : Heap} (hb : ∀ b o, base.get? b = some o → h.get? b = some o) (hL : base.get? L = none) (u : Up L h h') : ∀ b o, base.get? b = some o → h'.get? b = some o :=
  fun b o q => u b o (fun z => by rw [z, hL] at q; cases q) (hb b o q)
theorem IntsIn.ne {l L : Addr} {h : Heap} {ns : List Int} {m : Str → Option Value} (x : IntsIn h l ns) (hn : h.Ns L m) : l ≠ L := by
  rintro rfl
  obtain ⟨vs, ⟨o, ho, hc, n, hd⟩, _⟩ := x
  obtain ⟨o', _, _, ho', hd', _⟩ := hn
  rw [ho] at ho'
  cases ho'
  rw [hd] at hd'
  cases hd'

section
variable {prog : Program} {w : World} {A : Around} {E : Value → Shared → Prop} {s : Shared}

theorem assign_int {env : Env} {e : Expr} {y : Str} {p pos : Pos} {v : Int} {m : Str → Option Value} {Q : Flow → Shared → Prop} (hk : env.scope.kind = .function) (hy : env.kindOf y = some .local) (hn : s.heap.Ns env.locals m) (he : EvI prog w A env s.heap e v)
    (h : ∀ h' t tk, h'.Ns env.locals (fun z => if z = y then some (.int v t) else m z) → Up env.locals s.heap h' → Q .next { s with heap := h', toks := tk })
    (hsw : swapsWith e (some (.Name y p)) pos.line env = pure false := by rfl) :
    wpAny (model prog w) A (exec (.Assign [.Name y p] e pos) env) Q E s := by
  refine wpAny_Assign_Name (he s _ _ rfl fun t tk => wpAny_storeName_local hy hn (fun h' hn' hs' => h h' t _ hn' (.of_same hs')) (plainScope hk)) hsw

/-- a list display of ints -/
theorem ints_spliced {env : Env} {pos : Pos} {h : Heap} : ∀ {es : List Expr} {ns : List Int}, Paired (fun e n => EvI prog w A env h e n ∧ ∀ rest, starEach (e :: rest) env = (false, eval e env) :: starEach rest env) es ns → ∀ {s : Shared} {Q : List Value → Shared → Prop}, s.heap = h →
    (∀ vs tk, IntsAre vs ns → Q vs { s with toks := tk }) → wpAny (model prog w) A (spliced (backTo pos (starEach es env))) Q E s
  | _, _, .nil, s, Q, _, hQ => Calls.spliced_nil (hQ [] s.toks .nil)
  | _, _, .cons ⟨he, hs⟩ r, s, Q, e, hQ => spliced_more (he s _ _ e fun t tk => ints_spliced r (s := { s with toks := tk }) e fun vs tk' hvs => hQ _ tk' (.cons _ t hvs)) (hs _)

theorem assign_ints {env : Env} {es : List Expr} {ns : List Int} {y : Str} {p pos pos2 : Pos} {m : Str → Option Value} {Q : Flow → Shared → Prop} (hk : env.scope.kind = .function) (hy : env.kindOf y = some .local) (hn : s.heap.Ns env.locals m)
    (he : Paired (fun e n => EvI prog w A env s.heap e n ∧ ∀ rest, starEach (e :: rest) env = (false, eval e env) :: starEach rest env) es ns) (hz : ns.length ≤ 1000)
    (h : ∀ D h' tk, IntsIn h' D ns → s.heap.get? D = none → h'.Ns env.locals (fun z => if z = y then some (.ref D) else m z) → Up env.locals s.heap h' → Q .next { s with heap := h', toks := tk }) :
    wpAny (model prog w) A (exec (.Assign [.Name y p] (.List es pos2) pos) env) Q E s := by
  refine wpAny_Assign_Name (wpAny_List_spliced (ints_spliced he rfl fun vs tk hvs => ⟨?_, wpAny_storeName_local hy (hn.push _) (fun h' hn' hs' => ?_) (plainScope hk)⟩))
  · have := hvs.length; have := sizeLine_eq; omega
  · replace hs' : Heap.SameBut env.locals (s.heap.push { cls := .type "list", data := .seq vs.toArray }) h' := hs'
    have hlt := hn.lt
    refine h s.heap.objs.size h' _ ((IntsIn.new hvs).up (.of_same hs') (Nat.ne_of_gt hlt)) (getAbove _) hn' fun b o hb q => hs'.extBut b o hb (Heap.get?_push_of_some _ q)

/-- the frame of a def with one parameter that the defs within it see -/
theorem enterCell {st : Stmt} {f : Addr} {base : Heap} {n : Str} {v : Value} {Q : Value → Shared → Prop} (hroom : A.depth < recursionLimit) (fn : FnIs base st f) (hl : base.NoLimit) (hb : ∀ b o, base.get? b = some o → s.heap.get? b = some o)
    (hbind : ∀ fd : FuncData, fd.params = defArgs st → fd.defaults = .none → fd.kwdefaults = .none → bindArgs fd ⟨[v], []⟩ = pure [(n, v)])
    (hcell : (defScope st).names.lookup n = some .cell) (hcells : ∀ L, cellsFrom L (defScope st).names [] = [(n, L)]) (hco : (defScope st).isCoroutine = false) (hgen : (defScope st).isGenerator = false) (hk : (defScope st).kind = .function)
    (h : ∀ env h₁ tk c, env.scope = defScope st → env.locals = s.heap.objs.size → env.globals = mainGlobals → env.builtins = builtinsNs → interactive env = false → env.cells.lookup n = some c → c ≠ s.heap.objs.size → s.heap.get? c = none →
      h₁.IsCell c (some v) → h₁.Ns s.heap.objs.size (fun _ => none) → (∀ b o, s.heap.get? b = some o → h₁.get? b = some o) →
      wpAny (model prog w) (A.deeper env) (execs (defBody st) env) (fun fl s' => Q (match fl with | .ret v => v | _ => .none) s') (fun _ _ => False) { s with heap := h₁, toks := tk }) :
    wpAny (model prog w) A (call (.ref f) [v]) Q E s := by
  obtain ⟨o, fd, h1, h2, h3, h4, h5, h6, h7, h8, h9, h10, h11⟩ := fn.out
  have hlk : ∀ L, (cellsFrom L fd.scope.names []).lookup n = some L := fun L => by rw [h3, hcells]; simp [List.lookup]
  refine wpAny_call (codeAny_call_cells (binds := [(n, v)]) hroom (hb _ _ h1) h2 (hl.keeps hb) (h11.keeps hb) h4 (hbind fd h5 h9 h10) h6 ?_ (fun s₁ x => ?_) (by rw [h3]; exact hco) (by rw [h3]; exact hgen) (by rw [h3]; exact hk))
  · intro y hy
    rw [List.mem_singleton.mp hy]
    refine .inr ⟨by rw [h3]; exact hcell, ?_⟩
    rw [hlk]; rfl
  · obtain ⟨h₁, tk, rfl⟩ := x.toInCall.same
    have hkc : ¬ (callEnvC fd s.heap.objs.size f).kindOf n = some .local := by
      show ¬ fd.scope.names.lookup n = some .local
      rw [h3, hcell]; decide
    have hc : (callEnvC fd s.heap.objs.size f).cells.lookup n = some (s.heap.objs.size + 1) := hlk _
    have hcv := x.cell n _ hc
    have hbc : bindC (callEnvC fd s.heap.objs.size f).kindOf [(n, v)] (fun _ => none) n = some v := by
      simp only [bindC, if_neg hkc]
      simp
    have hbl : bindL (callEnvC fd s.heap.objs.size f).kindOf [(n, v)] (fun _ => none) = fun _ => none := by
      simp only [bindL, if_neg hkc]
    rw [hbc] at hcv
    have hn := x.toInCall.ns
    rw [hbl] at hn
    refine wpAny_mono (h (callEnvC fd s.heap.objs.size f) h₁ tk (s.heap.objs.size + 1) h3 rfl h7 h8 ?_ hc (Nat.ne_of_gt (Nat.lt_succ_self _)) ?_ hcv hn x.toInCall.keep) (fun fl s' q => q) fun _ _ q => q.elim
    · show interactive (callEnvC fd s.heap.objs.size f) = false
      unfold interactive callEnvC newEnv
      dsimp only
      rw [h3, hk]
      rfl
    · cases q : s.heap.get? (s.heap.objs.size + 1) with
      | none => rfl
      | some o => exact absurd (Heap.lt_size q) (Nat.not_lt.mpr (Nat.le_succ _))
end
end Mine
namespace Mine
open PySem

def atLaw : Nat := 9
def lawStmt (i : Nat) : Stmt := nthS (defBody (stmtAt atLaw)) i
def dueOf (M : List Int) : List Int := (pickNums M (some 1) (some 4) none).flatMap fun o => ([3, 2, 1, 0] : List Int).map fun p => 65 + (o.fdiv (16 ^ p.toNat)).fmod 16

section
variable {prog : Program} {w : World} {A : Around} {E : Value → Shared → Prop} {s : Shared}

theorem slice_ints {value slice : Expr} {l : Addr} {ns : List Int} {lo hi st : Option Int} {vl vu vk : Value} {ops : List Value} {Q : Value → Shared → Prop} {s : Shared} (hl : IntsIn s.heap l ns) (hz : ns.length ≤ 1000) (pl : IsPart vl lo) (pu : IsPart vu hi) (pk : IsPart vk st) (hst : st ≠ some 0)
    (h : ∀ l' h', IntsIn h' l' (pickNums ns lo hi st) → (∀ b o, s.heap.get? b = some o → h'.get? b = some o) → s.heap.get? l' = none → Q (.ref l') { s with heap := h' })
    (hs : subscripted slice false (.ref l) (.ref s.heap.objs.size) = operate ops (getItem (.ref l) (.ref s.heap.objs.size)) := by with_unfolding_all rfl)
    (ht : ∀ r, letTemporaryGo value (.ref l) r = pure () := by intro _; with_unfolding_all rfl) :
    wpAny (model prog w) A (subscriptTail value slice (.ref l) (.ref s.heap.objs.size)) Q E { s with heap := s.heap.push { cls := .type "slice", data := .fields #[vl, vu, vk] } } := by
  obtain ⟨vs, hL, hv⟩ := hl
  refine subscriptTail_ops (Heap.IsList.typeIs (s := { s with heap := s.heap.push { cls := .type "slice", data := .fields #[vl, vu, vk] } }) (hL.push _)) list_getitem_lookup
    (wpAny_getItem_list_slice (hL.push _) (Heap.IsSliceOf.new ..) pl pu pk hst ?_ ?_) hs ht
  · refine h _ _ ?_ (fun b o q => Heap.get?_push_of_some _ (Heap.get?_push_of_some _ q)) ?_
    · have := IntsIn.new (h := s.heap.push { cls := .type "slice", data := .fields #[vl, vu, vk] }) (hv.pick lo hi st)
      simpa using this
    · cases q : s.heap.get? (s.heap.push { cls := .type "slice", data := .fields #[vl, vu, vk] }).objs.size with
      | none => rfl
      | some o =>
        have q1 := Heap.lt_size q
        rw [Heap.size_push] at q1
        exact absurd q1 (Nat.not_lt.mpr (Nat.le_succ _))
  · have := hv.length; have := sizeLine_eq; simp; omega

theorem kcomp {scope : Scope} {C : Addr} {env : Env} {n : Str} {q : NameKind} (h : scope.names.lookup n = some q) : (compEnv scope C env).kindOf n = some q := h

theorem due_letter (o p : Int) : 0 ≤ 65 + (o.fdiv (16 ^ p.toNat)).fmod 16 ∧ 65 + (o.fdiv (16 ^ p.toNat)).fmod 16 < 256 := by
  have h1 := Int.fmod_nonneg_of_pos (o.fdiv (16 ^ p.toNat)) (show (0 : Int) < 16 by decide)
  have h2 := Int.fmod_lt_of_pos (o.fdiv (16 ^ p.toNat)) (show (0 : Int) < 16 by decide)
  omega

structure LawBytes (base : Heap) : Prop where
  glob : ∃ mg, base.Ns mainGlobals mg ∧ mg "bytes" = none
  blt : ∃ mb, base.Ns builtinsNs mb ∧ mb "bytes" = some (.type "bytes")

set_option maxHeartbeats 1000000 in
theorem due_stmt {env : Env} {L S : Addr} {base : Heap} {M : List Int} {m : Str → Option Value} {Q : Flow → Shared → Prop} (e : EnvFor env (stmtAt atLaw) L) (hh : A.handled = none) (N : LawBytes base) (hb : ∀ b o, base.get? b = some o → s.heap.get? b = some o)
    (hn : s.heap.Ns L m) (hm : m "m" = some (.ref S)) (hS : IntsIn s.heap S M) (hz : M.length ≤ 1000)
    (h : ∀ h' t tk, h'.Ns L (fun z => if z = Str.ofString "due" then some (.bytes (#[66] ++ byteArr (dueOf M)) t) else m z) → Up L s.heap h' → Q .next { s with heap := h', toks := tk }) :
    wpAny (model prog w) A (exec (lawStmt 5) env) Q E s := by
  have hk : env.scope.kind = .function := e.kind rfl
  have kn : ∀ {n : Str} {q : NameKind}, (defScope (stmtAt atLaw)).names.lookup n = some q → env.kindOf n = some q := fun {n q} hq => by
    show env.scope.names.lookup n = _
    rw [e.scope]; exact hq
  obtain ⟨mg, hg, hg1⟩ := N.glob
  obtain ⟨mb, hbl, hbl1⟩ := N.blt
  rw [← e.locals] at hn
  refine wpAny_Assign_Name (wpAny_BinOp (litBytes (Call_Name1 (Calls.Name_function_global hk (kn (by decide)) (Calls.loadGlobal_builtin (e.globals ▸ hg.keeps hb) hg1 (e.builtins ▸ hbl.keeps hb) hbl1 (PyProof.Rows.callWith_type rfl (Calls.evalArgs_plain (Calls.spliced_cons ?_))))))))
  refine comp_two (s := { s with toks := s.toks + 1 }) (n1 := "one") (n2 := "place") (xs := pickNums M (some 1) (some 4) none) (ps := [3, 2, 1, 0]) (g := fun o p => 65 + (o.fdiv (16 ^ p.toNat)).fmod 16) hh (by decide) (by decide) rfl (by decide) (by decide) (by decide) (by decide) ?_ ?_ ?_ ?_ ?_
  · refine Subscript_ (nm hk (kn (by decide)) hn hm (wpAny_Slice (wpAny_evalPart_some (wpAny_Constant_int (wpAny_evalPart_some (wpAny_Constant_int (wpAny_evalPart_none ?_)))))))
    exact slice_ints (s := { s with toks := s.toks + 1 + 1 + 1 }) hS hz (IsPart.int _ _) (IsPart.int _ _) .none (by simp) fun l' h' hl' keep' hfr' => ⟨l', rfl, hl', h', _, rfl, keep'⟩
  · intro C s'
    refine wpAny_List_spliced (spliced_more (wpAny_Constant_int (spliced_more (wpAny_Constant_int (spliced_more (wpAny_Constant_int (spliced_more (wpAny_Constant_int (Calls.spliced_nil ⟨by show 4 ≤ sizeLine; decide, ?_⟩)))))))))
    exact ⟨_, rfl, IntsIn.new (.cons _ _ (.cons _ _ (.cons _ _ (.cons _ _ .nil)))), getAbove _, _, _, rfl, fun b o q => Heap.get?_push_of_some _ q⟩
  · intro C h' m' o to p tp ho hp hn' h1 h2
    have q1 : (16 : Int) ^ p.toNat ≠ 0 ∧ ((16 : Int) ^ p.toNat).natAbs.log2 < 9000 ∧ 0 ≤ p ∧ ((Builtin.Int.intBits 16 : Nat) : Int) * p ≤ 1000 := by
      simp only [List.mem_cons, List.not_mem_nil, or_false] at hp
      rcases hp with rfl | rfl | rfl | rfl <;> decide +kernel
    exact .add .const (.fmod (.fdiv (.name rfl (kcomp (by decide)) hn' h1) (.pow .const (.name rfl (kcomp (by decide)) hn' h2) (by decide) q1.2.2.1 q1.2.2.2) q1.1 q1.2.1) .const (by decide))
  · have : (pickNums M (some 1) (some 4) none).length ≤ M.length := by
      obtain ⟨vs, _, hi⟩ := hS
      exact length_pickNums_le hi _ _ _
    simp only [List.length_cons, List.length_nil]; omega
  · rintro D s' items ⟨h₁, tk₁, rfl, keep₁⟩ - hD hI
    refine Calls.spliced_nil (call_bytes_ints (vs := items.toList) (by simpa using hD.isList) hI ?_ ?_ hh fun h₂ t₂ tk₂ keep₂ => ?_)
    · intro n hn'
      obtain ⟨o, _, ho⟩ := List.mem_flatMap.mp hn'
      obtain ⟨p, _, rfl⟩ := List.mem_map.mp ho
      exact due_letter o p
    · have l1 := hI.length
      rw [l1]
      have : (pickNums M (some 1) (some 4) none).length ≤ M.length := by
        obtain ⟨vs, _, hi⟩ := hS
        exact length_pickNums_le hi _ _ _
      rw [List.length_flatMap]
      simp only [List.length_map, List.map_const', List.sum_replicate_nat, List.length_cons, List.length_nil]
      have := sizeLine_eq; omega
    · refine KBy.add_bytes ?_ fun t' tk' => ?_
      · rw [byteArr_size]
        have : (pickNums M (some 1) (some 4) none).length ≤ M.length := by
          obtain ⟨vs, _, hi⟩ := hS
          exact length_pickNums_le hi _ _ _
        rw [List.length_flatMap]
        simp only [List.length_map, List.map_const', List.sum_replicate_nat, List.length_cons, List.length_nil]
        show 1 + _ ≤ _
        omega
      · have up : ∀ b o, s.heap.get? b = some o → h₂.get? b = some o := fun b o q => keep₂ b o (keep₁ b o q)
        refine wpAny_storeName_local (kn (by decide)) (hn.keeps up) (fun h₃ hn₃ hs₃ => ?_) (plainScope hk)
        rw [e.locals] at hn₃ hs₃
        exact h h₃ t' _ hn₃ ((Up.of_keep up).trans (.of_same hs₃))
end
end Mine
namespace Mine
open PySem

theorem v1 : ¬ (Str.ofString "due" = Str.ofString "word") := by decide

structure WordNames (base : Heap) (fA : Addr) : Prop where
  glob : ∃ mg, base.Ns mainGlobals mg ∧ mg "Int2AP" = some (.ref fA) ∧ mg "isinstance" = none ∧ mg "bytes" = none
  blt : ∃ mb, base.Ns builtinsNs mb ∧ mb "isinstance" = some (.builtin "isinstance") ∧ mb "bytes" = some (.type "bytes")

section
variable {prog : Program} {w : World} {A : Around} {E : Value → Shared → Prop} {s : Shared}

theorem isi_bytes {x : Array UInt8} {u : Tok} {Q : Value → Shared → Prop} (h : Q (.bool true) s) : wpAny (model prog w) A (call (.builtin "isinstance") [.bytes x u, .type "bytes"]) Q E s :=
  call_isinstance (isinstance_true (Tx := "bytes") F.isi_meta_bytes F.sub_bytes_bytes) ⟨rfl, h⟩

set_option maxHeartbeats 1000000 in
/-- Int2AP(cut) and Int2AP(-cut) are both held against what is due -/
theorem word_stmt {env : Env} {L : Addr} {fA : Addr} {base : Heap} {cut : Int} {d : Array UInt8} {tc td : Tok} {m : Str → Option Value} {Q : Flow → Shared → Prop} (e : EnvFor env (stmtAt atLaw) L) (hh : A.handled = none) (hroom : A.depth + 1 < recursionLimit)
    (NI : IntNames base fA) (N : WordNames base fA) (hb : ∀ b o, base.get? b = some o → s.heap.get? b = some o) (hLb : base.get? L = none) (hn : s.heap.Ns L m) (hcut : m "cut" = some (.int cut tc)) (hdue : m "due" = some (.bytes d td))
    (hap : (ap cut.natAbs).toArray = d) (hsz : cut.natAbs < 16 ^ 64)
    (h : ∀ s' m', s'.heap.Ns L m' → (∀ n, ¬ n = Str.ofString "word" → m' n = m n) → Up L s.heap s'.heap → s'.os = s.os → (AllBare s.gens → AllBare s'.gens) → Q .next s') :
    wpAny (model prog w) A (exec (lawStmt 9) env) Q E s := by
  have hk : env.scope.kind = .function := e.kind rfl
  have kn : ∀ {n : Str} {q : NameKind}, (defScope (stmtAt atLaw)).names.lookup n = some q → env.kindOf n = some q := fun {n q} hq => by
    show env.scope.names.lookup n = _
    rw [e.scope]; exact hq
  obtain ⟨mg, hg, hg1, hg2, hg3⟩ := N.glob
  obtain ⟨mb, hbl, hbl2, hbl3⟩ := N.blt
  rw [← e.locals] at hn
  subst hap
  refine wpAny_For (wpAny_List_spliced ?_)
  refine spliced_more (callDef1 hk (kn (by decide)) (e.globals ▸ hg) hg1 NI.def_ hb (nm hk (kn (by decide)) hn hcut ⟨hb, call_int NI hb hh hroom hsz fun t1 s₁ x₁ => ?_⟩))
  have hb₁ : ∀ b o, base.get? b = some o → s₁.heap.get? b = some o := fun b o q => x₁.keep b o (hb b o q)
  have hn₁ := hn.keeps x₁.keep
  refine spliced_more (callDef1 hk (kn (by decide)) (e.globals ▸ hg) hg1 NI.def_ hb₁ (wpAny_UnaryOp (nm hk (kn (by decide)) hn₁ hcut (neg_int ⟨hb₁, call_int NI hb₁ hh hroom (by rw [Int.natAbs_neg]; exact hsz) fun t2 s₂ x₂ => ?_⟩))))
  rw [Int.natAbs_neg]
  have keep₂ : ∀ b o, s.heap.get? b = some o → s₂.heap.get? b = some o := fun b o q => x₂.keep b o (x₁.keep b o q)
  have hos₂ : s₂.os = s.os := x₂.os.trans x₁.os
  have hbare₂ : AllBare s.gens → AllBare s₂.gens := fun q => x₂.bare (x₁.bare q)
  have hn₂ : s₂.heap.Ns env.locals m := hn.keeps keep₂
  refine Calls.spliced_nil ⟨by show 2 ≤ sizeLine; decide, ?_⟩
  refine wpAny_pyIter_list ⟨_, Heap.get?_push_size _ rfl, rfl, _, rfl⟩ ?_
  obtain ⟨items, hitems⟩ : ∃ items : Array Value, items = #[.bytes (ap cut.natAbs).toArray t1, .bytes (ap cut.natAbs).toArray t2] := ⟨_, rfl⟩
  have hLlt := hn₂.lt
  have hBL : s₂.heap.objs.size ≠ env.locals := Nat.ne_of_gt hLlt
  have hIL : s₂.heap.objs.size + 1 ≠ env.locals := Nat.ne_of_gt (Nat.lt_succ_of_lt hLlt)
  have hBI : s₂.heap.objs.size ≠ s₂.heap.objs.size + 1 := Nat.ne_of_lt (Nat.lt_succ_self _)
  have hI₀ : s₂.heap.get? (s₂.heap.objs.size + 1) = none := by
    cases q : s₂.heap.get? (s₂.heap.objs.size + 1) with
    | none => rfl
    | some o => exact absurd (Heap.lt_size q) (Nat.not_lt.mpr (Nat.le_succ _))
  have hbare := hbare₂
  have eSz : (s₂.heap.push { cls := .type "list", data := .seq items }).objs.size = s₂.heap.objs.size + 1 := Heap.size_push ..
  show codeAny _ _ (.forLoop _ (.ref (s₂.heap.push { cls := .type "list", data := .seq #[.bytes (ap cut.natAbs).toArray t1, .bytes (ap cut.natAbs).toArray t2] }).objs.size) _ _ _) _ { s₂ with heap := (s₂.heap.push { cls := .type "list", data := .seq #[.bytes (ap cut.natAbs).toArray t1, .bytes (ap cut.natAbs).toArray t2] }).push _ }
  rw [← hitems, eSz]
  have up₃ : ∀ b o, s₂.heap.get? b = some o → ((s₂.heap.push { cls := .type "list", data := .seq items }).push { cls := .type "list_iterator", data := .fields #[.ref s₂.heap.objs.size, .int 0 0] }).get? b = some o :=
    fun b o q => Heap.get?_push_of_some _ (Heap.get?_push_of_some _ q)
  have hB₃ : ((s₂.heap.push { cls := .type "list", data := .seq items }).push { cls := .type "list_iterator", data := .fields #[.ref s₂.heap.objs.size, .int 0 0] }).get? s₂.heap.objs.size = some { cls := .type "list", data := .seq items } := Heap.get?_push_of_some _ (Heap.get?_push_size _ rfl)
  have hI₃ : ((s₂.heap.push { cls := .type "list", data := .seq items }).push { cls := .type "list_iterator", data := .fields #[.ref s₂.heap.objs.size, .int 0 0] }).get? (s₂.heap.objs.size + 1) = some { cls := .type "list_iterator", data := .fields #[.ref s₂.heap.objs.size, .int 0 0] } := by
    rw [← eSz]; exact Heap.get?_push_size _ rfl
  obtain ⟨H₃, hH₃⟩ : ∃ H, H = ((s₂.heap.push { cls := .type "list", data := .seq items }).push { cls := .type "list_iterator", data := .fields #[.ref s₂.heap.objs.size, .int 0 0] }) := ⟨_, rfl⟩
  rw [← hH₃] at up₃ hB₃ hI₃ ⊢
  refine codeAny_forLoop (fun k s' => ∃ j h' tk m', k = 3 - j ∧ j ≤ 2 ∧ s' = { s₂ with heap := h', toks := tk } ∧ (∀ b o, b ≠ env.locals → s₂.heap.get? b = some o → h'.get? b = some o) ∧ h'.IsListIter (s₂.heap.objs.size + 1) s₂.heap.objs.size j ∧
    h'.get? s₂.heap.objs.size = some { cls := .type "list", data := .seq items } ∧ h'.Ns env.locals m' ∧ (∀ n, ¬ n = Str.ofString "word" → m' n = m n)) ?_ 3 ⟨0, H₃, s₂.toks, m, rfl, by decide, rfl, fun b o _ q => up₃ b o q, ⟨_, hI₃, rfl, rfl⟩, hB₃, hn₂.keeps up₃, fun _ _ => rfl⟩
  rintro k s' ⟨j, h', tk, m', rfl, hj, rfl, p1, p2, p3, p4, p5⟩
  have hBl : h'.IsList s₂.heap.objs.size items := ⟨_, p3, rfl, _, rfl⟩
  by_cases hj2 : j = 2
  · subst hj2
    refine wpAny_pyNext_list_end hh p2 hBl (by rw [hitems]; rfl) fun h₁ hx₁ => wpAny_execs_nil ?_
    replace hx₁ : Heap.ExtBut (s₂.heap.objs.size + 1) h' h₁ := hx₁
    refine h _ m' (e.locals ▸ p4.at' fun o q => hx₁ _ o (Ne.symm hIL) q) p5 (fun b o hbL q => ?_) hos₂ hbare₂
    rw [← e.locals] at hbL
    have q₂ := keep₂ b o q
    exact hx₁ b o (fun z => by rw [z, hI₀] at q₂; cases q₂) (p1 b o hbL q₂)
  · obtain ⟨t, hv⟩ : ∃ t, items[j]? = some (.bytes (ap cut.natAbs).toArray t) := by
      have : j = 0 ∨ j = 1 := by omega
      rcases this with rfl | rfl
      · exact ⟨t1, by rw [hitems]; rfl⟩
      · exact ⟨t2, by rw [hitems]; rfl⟩
    refine wpAny_pyNext_list_item p2 hBl hv fun h₁ hit₁ hs₁ => ?_
    replace hs₁ : Heap.SameBut (s₂.heap.objs.size + 1) h' h₁ := hs₁
    refine wpAny_assign_Name (wpAny_storeName_local (kn (by decide)) (p4.sameBut hs₁ (Ne.symm hIL)) (fun h₂ hn₂ hs₂ => ?_) (plainScope hk))
    replace hs₂ : Heap.SameBut env.locals h₁ h₂ := hs₂
    have up₂ : ∀ b o, b ≠ env.locals → s₂.heap.get? b = some o → h₂.get? b = some o := fun b o hbL q => hs₂.extBut b o hbL (hs₁.extBut b o (fun z => by rw [z, hI₀] at q; cases q) (p1 b o hbL q))
    have hb₂ : ∀ b o, base.get? b = some o → h₂.get? b = some o := fun b o q => up₂ b o (fun z => by rw [z, e.locals, hLb] at q; cases q) (x₂.keep b o (hb₁ b o q))
    refine wpAny_execs_cons (wpAny_If (isTrue_or (isTrue_not (isTrue_plain (Call_Name2 ?_)))))
    refine Calls.Name_function_global hk (kn (by decide)) (Calls.loadGlobal_builtin (e.globals ▸ hg.keeps hb₂) hg2 (e.builtins ▸ hbl.keeps hb₂) hbl2 ?_)
    refine Calls.callWith_builtin rfl (Calls.evalArgs_plain (Calls.spliced_cons ?_))
    refine nm hk (kn (by decide)) hn₂ (v := .bytes (ap cut.natAbs).toArray t) (by simp) (Calls.spliced_cons ?_)
    refine Calls.Name_function_global hk (kn (by decide)) (Calls.loadGlobal_builtin (e.globals ▸ hg.keeps hb₂) hg3 (e.builtins ▸ hbl.keeps hb₂) hbl3 ?_)
    refine Calls.spliced_nil (isi_bytes (wpAny_truthy_bool ?_))
    show if false = true then _ else _
    rw [if_neg Bool.false_ne_true]
    refine isTrue_or (wpAny_isTrue_Compare1 (nm hk (kn (by decide)) hn₂ (v := .bytes (ap cut.natAbs).toArray t) (by simp) (nm hk (kn (by decide)) hn₂ (v := .bytes (ap cut.natAbs).toArray td) (by simp [v1, p5 _ v1, hdue]) (ne_bytes (wpAny_truthy_bool ?_)))))
    have hne : ((ap cut.natAbs).toArray.toList != (ap cut.natAbs).toArray.toList) = false := by simp
    rw [hne, if_neg Bool.false_ne_true]
    refine isTrue_or_nil ?_
    rw [if_neg Bool.false_ne_true]
    refine wpAny_execs_nil (wpAny_execs_nil ?_)
    refine ⟨3 - (j + 1), by omega, j + 1, h₂, _, _, rfl, by omega, rfl, up₂, ?_, ?_, hn₂, fun n hnw => ?_⟩
    · obtain ⟨o, ho, r⟩ := hit₁
      exact ⟨o, hs₂.extBut _ _ hIL ho, r⟩
    · exact hs₂.extBut _ _ hBL (hs₁.extBut _ _ hBI p3)
    · rw [if_neg hnw]; exact p5 n hnw
end
end Mine
namespace Mine
open PySem

def cutOf (b0 b1 c1 : Int) : Int := ((65536 : Int) ^ (4 : Int).toNat * (65536 - b1)).fdiv ((65536 - b0) * (65536 - b1) - c1)

structure LawFact (b0 b1 c1 c2 : Int) (M : List Int) : Prop where
  len : M.length = 5
  sm : ∀ n ∈ M, -1000 ≤ n ∧ n ≤ 1000
  div : (65536 - b0) * (65536 - b1) - c1 ≠ 0 ∧ ((65536 - b0) * (65536 - b1) - c1).natAbs.log2 < 9000
  cutsz : (cutOf b0 b1 c1).natAbs < 16 ^ 64
  word : (ap (cutOf b0 b1 c1).natAbs).toArray = #[66] ++ byteArr (dueOf M)
  det : (itemAt M 2 * itemAt M 4 - itemAt M 3 * itemAt M 3) - itemAt M 1 * (itemAt M 1 * itemAt M 4 - itemAt M 2 * itemAt M 3) + itemAt M 2 * (itemAt M 1 * itemAt M 3 - itemAt M 2 * itemAt M 2) = c1 * c1 * c2

theorem x1 : ¬ (Str.ofString "m" = Str.ofString "due") := by decide
theorem x2 : ¬ (Str.ofString "level" = Str.ofString "due") := by decide
theorem x3 : ¬ (Str.ofString "down" = Str.ofString "due") := by decide
theorem x4 : ¬ (Str.ofString "m" = Str.ofString "far") := by decide
theorem x5 : ¬ (Str.ofString "level" = Str.ofString "far") := by decide
theorem x6 : ¬ (Str.ofString "down" = Str.ofString "far") := by decide
theorem x7 : ¬ (Str.ofString "due" = Str.ofString "far") := by decide
theorem x8 : ¬ (Str.ofString "m" = Str.ofString "low") := by decide
theorem x9 : ¬ (Str.ofString "level" = Str.ofString "low") := by decide
theorem x10 : ¬ (Str.ofString "down" = Str.ofString "low") := by decide
theorem x11 : ¬ (Str.ofString "due" = Str.ofString "low") := by decide
theorem x12 : ¬ (Str.ofString "far" = Str.ofString "low") := by decide
theorem x13 : ¬ (Str.ofString "m" = Str.ofString "cut") := by decide
theorem x14 : ¬ (Str.ofString "down" = Str.ofString "cut") := by decide
theorem x15 : ¬ (Str.ofString "due" = Str.ofString "cut") := by decide
theorem x16 : ¬ (Str.ofString "m" = Str.ofString "word") := by decide
theorem x17 : ¬ (Str.ofString "down" = Str.ofString "word") := by decide
theorem x18 : ¬ (Str.ofString "m" = Str.ofString "left") := by decide
theorem x19 : ¬ (Str.ofString "down" = Str.ofString "left") := by decide
theorem x20 : ¬ (Str.ofString "m" = Str.ofString "middle") := by decide
theorem x21 : ¬ (Str.ofString "down" = Str.ofString "middle") := by decide
theorem x22 : ¬ (Str.ofString "m" = Str.ofString "right") := by decide
theorem x23 : ¬ (Str.ofString "down" = Str.ofString "right") := by decide
theorem x24 : ¬ (Str.ofString "left" = Str.ofString "middle") := by decide
theorem x25 : ¬ (Str.ofString "left" = Str.ofString "right") := by decide
theorem x26 : ¬ (Str.ofString "middle" = Str.ofString "right") := by decide

structure LawNames (base : Heap) (fA : Addr) : Prop where
  int : IntNames base fA
  word : WordNames base fA
  bytes : LawBytes base

section
variable {prog : Program} {w : World} {A : Around} {E : Value → Shared → Prop} {s : Shared}

theorem forget {h : Heap} {L : Addr} {m : Str → Option Value} (hn : h.Ns L m) : ∃ M, M = m ∧ h.Ns L M := ⟨m, rfl, hn⟩
theorem EvI.as {env : Env} {h : Heap} {e : Expr} {v v' : Int} (x : EvI prog w A env h e v) (q : v = v') : EvI prog w A env h e v' := q ▸ x

set_option maxHeartbeats 4000000 in
theorem law_tail {env : Env} {L S lv dn fA : Addr} {base : Heap} {b0 b1 c1 c2 : Int} {M : List Int} {m : Str → Option Value} {Q : Flow → Shared → Prop} (e : EnvFor env (stmtAt atLaw) L) (hh : A.handled = none) (hroom : A.depth + 1 < recursionLimit)
    (N : LawNames base fA) (hb : ∀ b o, base.get? b = some o → s.heap.get? b = some o) (hLb : base.get? L = none) (hn : s.heap.Ns L m) (m1 : m "m" = some (.ref S)) (m2 : m "level" = some (.ref lv)) (m3 : m "down" = some (.ref dn))
    (hS : IntsIn s.heap S M) (hl : IntsIn s.heap lv [b0, b1]) (hd : IntsIn s.heap dn [1, c1, c2]) (F : LawFact b0 b1 c1 c2 M) (hb0 : 0 ≤ b0 ∧ b0 < 5) (hb1 : 0 ≤ b1 ∧ b1 < 5) (hc1 : 1 ≤ c1 ∧ c1 < 5) (hc2 : 1 ≤ c2 ∧ c2 < 5)
    (h : ∀ s', Up L s.heap s'.heap → s'.os = s.os → (AllBare s.gens → AllBare s'.gens) → Q (.ret (.bool true)) s') :
    wpAny (model prog w) A (execs ((defBody (stmtAt atLaw)).drop 5) env) Q E s := by
  have hk : env.scope.kind = .function := e.kind rfl
  have kn : ∀ {n : Str} {q : NameKind}, (defScope (stmtAt atLaw)).names.lookup n = some q → env.kindOf n = some q := fun {n q} hq => by
    show env.scope.names.lookup n = _
    rw [e.scope]; exact hq
  have hL := e.locals
  have hSL := hS.ne hn
  have hlL := hl.ne hn
  have hdL := hd.ne hn
  have i0 : itemAt [b0, b1] 0 = b0 := rfl
  have i1 : itemAt [b0, b1] 1 = b1 := rfl
  have j1 : itemAt [1, c1, c2] 1 = c1 := rfl
  have j2 : itemAt [1, c1, c2] 2 = c2 := rfl
  -- due
  refine wpAny_execs_cons (due_stmt e hh N.bytes hb hn m1 hS (by rw [F.len]; decide) fun h₁ td tk₁ hn₁ u₁ => ?_)
  -- far
  refine wpAny_execs_cons (assign_int hk (kn (by decide)) (hL ▸ hn₁) ((EvI.pow .const .const (by decide) (by decide) (by decide +kernel)).as (show (16 : Int) ^ (4 : Int).toNat = 65536 by decide)) fun h₂ tf tk₂ hn₂ u₂ => ?_)
  rw [hL] at hn₂ u₂
  -- low
  have hl₂ : IntsIn h₂ lv [b0, b1] := (hl.up u₁ hlL).up u₂ hlL
  refine wpAny_execs_cons (assign_int (v := 65536 - b1) hk (kn (by decide)) (hL ▸ hn₂) (.sub (.name (v := 65536) hk (kn (by decide)) (hL ▸ hn₂) (by simp; rfl)) ((EvI.item hk (kn (by decide)) (hL ▸ hn₂) (by simp [x2, x5, m2]) hl₂ .const (by simp) (by simp) (by simp)).as i1)) fun h₃ tl tk₃ hn₃ u₃ => ?_)
  rw [hL] at hn₃ u₃
  replace u₃ : Up L h₂ h₃ := u₃
  -- cut
  have hl₃ : IntsIn h₃ lv [b0, b1] := hl₂.up u₃ hlL
  have hd₃ : IntsIn h₃ dn [1, c1, c2] := ((hd.up u₁ hdL).up u₂ hdL).up u₃ hdL
  have zlow : Builtin.Int.intBits (65536 - b1) ≤ 64 := PySem.intBits_le_64 (by omega) (by omega)
  refine wpAny_execs_cons (assign_int (v := cutOf b0 b1 c1) hk (kn (by decide)) (hL ▸ hn₃) ?_ fun h₄ tc tk₄ hn₄ u₄ => ?_)
  · refine EvI.fdiv (.mul (.pow (a := 65536) (.name hk (kn (by decide)) (hL ▸ hn₃) (by simp [x12]; rfl)) .const (by decide) (by decide) (by decide +kernel)) (.name hk (kn (by decide)) (hL ▸ hn₃) (by simp; rfl)) (.of_right zlow))
      (.sub (.mul (.sub (a := 65536) (.name hk (kn (by decide)) (hL ▸ hn₃) (by simp [x12]; rfl)) ((EvI.item hk (kn (by decide)) (hL ▸ hn₃) (by simp [x2, x5, x9, m2]) hl₃ .const (by simp) (by simp) (by simp)).as i0)) (.name hk (kn (by decide)) (hL ▸ hn₃) (by simp; rfl)) (.of_right zlow))
        ((EvI.item hk (kn (by decide)) (hL ▸ hn₃) (by simp [x3, x6, x10, m3]) hd₃ .const (by simp) (by simp) (by simp)).as j1)) F.div.1 F.div.2
  rw [hL] at hn₄ u₄
  replace u₄ : Up L h₃ h₄ := u₄
  have U₄ : Up L s.heap h₄ := ((u₁.trans u₂).trans u₃).trans u₄
  -- the two words
  refine wpAny_execs_cons (word_stmt (cut := cutOf b0 b1 c1) e hh hroom N.int N.word (base_up hb hLb U₄) hLb hn₄ (by simp; rfl) (by simp [x7, x11, x15]; rfl) F.word F.cutsz fun s₅ M₅ hn₅ hM₅ u₅ hos₅ hba₅ => ?_)
  replace u₅ : Up L h₄ s₅.heap := u₅
  have U₅ : Up L s.heap s₅.heap := U₄.trans u₅
  have hS₅ : IntsIn s₅.heap S M := hS.up U₅ hSL
  have hd₅ : IntsIn s₅.heap dn [1, c1, c2] := hd.up U₅ hdL
  have mm : M₅ "m" = some (.ref S) := by rw [hM₅ _ x16]; simp [x1, x4, x8, x13, m1]
  have md : M₅ "down" = some (.ref dn) := by rw [hM₅ _ x17]; simp [x3, x6, x10, x14, m3]
  have len := F.len
  have sm := fun i => small_item F.sm i
  -- left
  refine wpAny_execs_cons (assign_int (v := itemAt M 2 * itemAt M 4 - itemAt M 3 * itemAt M 3) hk (kn (by decide)) (hL ▸ hn₅) ?_ fun h₆ t₆ tk₆ hn₆ u₆ => ?_)
  · exact .sub (.mul (.item hk (kn (by decide)) (hL ▸ hn₅) mm hS₅ .const (by rw [len]; decide) (by rw [len]; decide) (by rw [len]; decide)) (.item hk (kn (by decide)) (hL ▸ hn₅) mm hS₅ .const (by rw [len]; decide) (by rw [len]; decide) (by rw [len]; decide)) (.of_left (sm _)))
      (.mul (.item hk (kn (by decide)) (hL ▸ hn₅) mm hS₅ .const (by rw [len]; decide) (by rw [len]; decide) (by rw [len]; decide)) (.item hk (kn (by decide)) (hL ▸ hn₅) mm hS₅ .const (by rw [len]; decide) (by rw [len]; decide) (by rw [len]; decide)) (.of_left (sm _)))
  rw [hL] at hn₆ u₆
  obtain ⟨M₆, e₆, hn₆⟩ := forget hn₆
  have hS₆ : IntsIn h₆ S M := hS₅.up u₆ hSL
  -- middle
  refine wpAny_execs_cons (assign_int (v := itemAt M 1 * itemAt M 4 - itemAt M 2 * itemAt M 3) hk (kn (by decide)) (hL ▸ hn₆) ?_ fun h₇ t₇ tk₇ hn₇ u₇ => ?_)
  · have mm₆ : M₆ "m" = some (.ref S) := by rw [e₆]; simp [x18, mm]
    exact .sub (.mul (.item hk (kn (by decide)) (hL ▸ hn₆) mm₆ hS₆ .const (by rw [len]; decide) (by rw [len]; decide) (by rw [len]; decide)) (.item hk (kn (by decide)) (hL ▸ hn₆) mm₆ hS₆ .const (by rw [len]; decide) (by rw [len]; decide) (by rw [len]; decide)) (.of_left (sm _)))
      (.mul (.item hk (kn (by decide)) (hL ▸ hn₆) mm₆ hS₆ .const (by rw [len]; decide) (by rw [len]; decide) (by rw [len]; decide)) (.item hk (kn (by decide)) (hL ▸ hn₆) mm₆ hS₆ .const (by rw [len]; decide) (by rw [len]; decide) (by rw [len]; decide)) (.of_left (sm _)))
  rw [hL] at hn₇ u₇
  obtain ⟨M₇, e₇, hn₇⟩ := forget hn₇
  replace u₇ : Up L h₆ h₇ := u₇
  have hS₇ : IntsIn h₇ S M := hS₆.up u₇ hSL
  -- right
  refine wpAny_execs_cons (assign_int (v := itemAt M 1 * itemAt M 3 - itemAt M 2 * itemAt M 2) hk (kn (by decide)) (hL ▸ hn₇) ?_ fun h₈ t₈ tk₈ hn₈ u₈ => ?_)
  · have mm₇ : M₇ "m" = some (.ref S) := by rw [e₇, e₆]; simp [x18, x20, mm]
    exact .sub (.mul (.item hk (kn (by decide)) (hL ▸ hn₇) mm₇ hS₇ .const (by rw [len]; decide) (by rw [len]; decide) (by rw [len]; decide)) (.item hk (kn (by decide)) (hL ▸ hn₇) mm₇ hS₇ .const (by rw [len]; decide) (by rw [len]; decide) (by rw [len]; decide)) (.of_left (sm _)))
      (.mul (.item hk (kn (by decide)) (hL ▸ hn₇) mm₇ hS₇ .const (by rw [len]; decide) (by rw [len]; decide) (by rw [len]; decide)) (.item hk (kn (by decide)) (hL ▸ hn₇) mm₇ hS₇ .const (by rw [len]; decide) (by rw [len]; decide) (by rw [len]; decide)) (.of_left (sm _)))
  rw [hL] at hn₈ u₈
  replace u₈ : Up L h₇ h₈ := u₈
  have hS₈ : IntsIn h₈ S M := hS₇.up u₈ hSL
  have hd₈ : IntsIn h₈ dn [1, c1, c2] := ((hd₅.up u₆ hdL).up u₇ hdL).up u₈ hdL
  obtain ⟨M₈, hM₈, hn₈⟩ := forget hn₈
  have q1 : M₈ "m" = some (.ref S) := by rw [hM₈, e₇, e₆]; simp [x18, x20, x22, mm]
  have q2 : M₈ "down" = some (.ref dn) := by rw [hM₈, e₇, e₆]; simp [x19, x21, x23, md]
  have q3 : M₈ "left" = some (Value.int (itemAt M 2 * itemAt M 4 - itemAt M 3 * itemAt M 3) t₆) := by rw [hM₈, e₇, e₆]; simp [x24, x25]
  have q4 : M₈ "middle" = some (Value.int (itemAt M 1 * itemAt M 4 - itemAt M 2 * itemAt M 3) t₇) := by rw [hM₈, e₇]; simp [x26]
  have q5 : M₈ "right" = some (Value.int (itemAt M 1 * itemAt M 3 - itemAt M 2 * itemAt M 2) t₈) := by rw [hM₈]; simp
  -- return
  have zc1 : Builtin.Int.intBits c1 ≤ 64 := PySem.intBits_le_64 (by omega) (by omega)
  have zc2 : Builtin.Int.intBits c2 ≤ 64 := PySem.intBits_le_64 (by omega) (by omega)
  refine wpAny_execs_cons (wpAny_Return_some (wpAny_Compare1 (EvI.add (.sub (.name hk (kn (by decide)) (hL ▸ hn₈) q3) (.mul (.item hk (kn (by decide)) (hL ▸ hn₈) q1 hS₈ .const (by rw [len]; decide) (by rw [len]; decide) (by rw [len]; decide)) (.name hk (kn (by decide)) (hL ▸ hn₈) q4) (.of_left (sm _))))
    (.mul (.item hk (kn (by decide)) (hL ▸ hn₈) q1 hS₈ .const (by rw [len]; decide) (by rw [len]; decide) (by rw [len]; decide)) (.name hk (kn (by decide)) (hL ▸ hn₈) q5) (.of_left (sm _))) _ _ _ rfl fun t₉ tk₉ => ?_)))
  refine EvI.mul ((EvI.mul ((EvI.item hk (kn (by decide)) (hL ▸ hn₈) q2 hd₈ .const (by simp) (by simp) (by simp)).as j1) ((EvI.item hk (kn (by decide)) (hL ▸ hn₈) q2 hd₈ .const (by simp) (by simp) (by simp)).as j1) (.of_left zc1))) ((EvI.item hk (kn (by decide)) (hL ▸ hn₈) q2 hd₈ .const (by simp) (by simp) (by simp)).as j2) (.of_right zc2) _ _ _ rfl fun t₁₀ tk₁₀ => eq_int ?_
  rw [F.det, beq_self_eq_true]
  exact h _ (((U₅.trans u₆).trans u₇).trans u₈) hos₅ hba₅
end
end Mine
namespace Mine
open PySem

def strConst : Expr → Str
  | .Constant (.str x) _ _ => x
  | _ => Str.ofString ""
/-- the six level pieces, as the law's own row has them -/
def plains : List Str := match lawStmt 3 with
  | .Assign _ (.Subscript (.List es _) _ _) _ => es.map strConst
  | _ => []
theorem plains_len : plains.length = 6 := by decide

structure Facts (plain : Str) (b0 b1 c1 c2 : Int) : Prop where
  ok : RowsOk [b0, b1] [1, c1, c2] plain
  rows : ∀ j, j < 4 → (∀ r ∈ rowsAt plain [b0, b1] [1, c1, c2] j, RowOk [b0, b1] [1, c1, c2] (3 - (j : Int)) r) ∧ (rowsAt plain [b0, b1] [1, c1, c2] j).length ≤ 1000
  law : LawFact b0 b1 c1 c2 (sumsAt plain [b0, b1] [1, c1, c2] 4)

structure TopNames (base : Heap) (fL fR : Addr) : Prop where
  def_ : FnIs base (stmtAt atLaw) fL
  rowsDef : FnIs base (stmtAt atRows) fR
  glob : ∃ mg, base.Ns mainGlobals mg ∧ mg "range" = none ∧ mg "sum" = none ∧ mg "_law_weights_of_rows" = some (.ref fR)
  blt : ∃ mb, base.Ns builtinsNs mb ∧ mb "range" = some (.type "range") ∧ mb "sum" = some (.builtin "sum")

theorem y1 : ¬ (Str.ofString "adds" = Str.ofString "level") := by decide
theorem y2 : ¬ (Str.ofString "level" = Str.ofString "down") := by decide
theorem y3 : ¬ (Str.ofString "level" = Str.ofString "plain") := by decide
theorem y4 : ¬ (Str.ofString "down" = Str.ofString "plain") := by decide
theorem y5 : ¬ (Str.ofString "level" = Str.ofString "m") := by decide
theorem y6 : ¬ (Str.ofString "down" = Str.ofString "m") := by decide

section
variable {prog : Program} {w : World} {A : Around} {E : Value → Shared → Prop} {s : Shared}

theorem list_strs_item {value slice : Expr} {l : Addr} {items : Array Value} {x : Str} {t : Tok} {i : Int} {u : Tok} {Q : Value → Shared → Prop} (hl : s.heap.IsList l items) (h0 : 0 ≤ i) (h1 : i < 2 ^ 63) (hx : items[i.toNat]? = some (.str x t))
    (h : Q (.str x t) s) (hs : subscripted slice false (.ref l) (.int i u) = operate [.ref l, .int i u] (getItem (.ref l) (.int i u)) := by with_unfolding_all rfl) :
    wpAny (model prog w) A (subscriptTail value slice (.ref l) (.int i u)) Q E s :=
  tail_any hl.typeIs slot_list_getitem.lookup (wpAny_getItem_list hl h0 h1 hx h) hs

set_option maxHeartbeats 1000000 in
theorem plain_stmt {env : Env} {L c l : Addr} {base : Heap} {ns : List Int} {m : Str → Option Value} {Q : Flow → Shared → Prop} (e : EnvFor env (stmtAt atLaw) L) (hh : A.handled = none) {fL fR : Addr} (N : TopNames base fL fR) (hb : ∀ b o, base.get? b = some o → s.heap.get? b = some o)
    (hn : s.heap.Ns L m) (hc : env.cells.lookup (Str.ofString "script") = some c) (hcl : s.heap.IsCell c (some (.ref l))) (hl : IntsIn s.heap l ns)
    (h : ∀ k h' t tk, k < 6 → h'.Ns L (fun z => if z = Str.ofString "plain" then some (.str (plains.getD k (Str.ofString "")) t) else m z) → Up L s.heap h' → Q .next { s with heap := h', toks := tk }) :
    wpAny (model prog w) A (exec (lawStmt 3) env) Q E s := by
  have hk : env.scope.kind = .function := e.kind rfl
  have kn : ∀ {n : Str} {q : NameKind}, (defScope (stmtAt atLaw)).names.lookup n = some q → env.kindOf n = some q := fun {n q} hq => by
    show env.scope.names.lookup n = _
    rw [e.scope]; exact hq
  obtain ⟨mg, hg, _, hg1, _⟩ := N.glob
  obtain ⟨mb, hbl, _, hbl1⟩ := N.blt
  rw [← e.locals] at hn
  refine wpAny_Assign_Name (Subscript_ (wpAny_List_spliced (spliced_more (litStr (spliced_more (litStr (spliced_more (litStr (spliced_more (litStr (spliced_more (litStr (spliced_more (litStr (Calls.spliced_nil ⟨by show 6 ≤ sizeLine; decide, ?_⟩)))))))))))))))
  have upP : ∀ (o' : Obj) b o, s.heap.get? b = some o → (s.heap.push o').get? b = some o := fun o' b o q => Heap.get?_push_of_some _ q
  refine wpAny_BinOp (Call_Name1 (Calls.Name_function_global hk (kn (by decide)) (Calls.loadGlobal_builtin (e.globals ▸ hg.keeps fun b o q => upP _ b o (hb b o q)) hg1 (e.builtins ▸ hbl.keeps fun b o q => upP _ b o (hb b o q)) hbl1 (Calls.callWith_builtin rfl (Calls.evalArgs_plain (Calls.spliced_cons ?_))))))
  refine wpAny_Name (wpAny_loadName_cell hk (kn (by decide)) hc (hcl.keeps (upP _)) ?_) (by decide)
  refine Calls.spliced_nil (sum_keep hh (hl.keeps fun o q => upP _ _ o q) fun h₂ tk₂ t₂ keep₂ => wpAny_Constant_int (mod_int (by decide) ?_))
  have r0 := Int.fmod_nonneg_of_pos ns.sum (show (0 : Int) < 6 by decide)
  have r1 := Int.fmod_lt_of_pos ns.sum (show (0 : Int) < 6 by decide)
  obtain ⟨k, hk6⟩ : ∃ k : Nat, ns.sum.fmod 6 = (k : Int) := ⟨_, (Int.toNat_of_nonneg r0).symm⟩
  rw [hk6] at r0 r1 ⊢
  have hkl : k < 6 := by omega
  have up₂ : ∀ b o, s.heap.get? b = some o → h₂.get? b = some o := fun b o q => keep₂ b o (upP _ b o q)
  have fin : ∀ t (x : Str) tk, plains.getD k (Str.ofString "") = x → wpAny (model prog w) A (storeName env "plain" (.str x t)) (fun _ s' => Q .next s') E { s with heap := h₂, toks := tk } := by
    intro t x tk hx
    subst hx
    refine wpAny_storeName_local (kn (by decide)) (hn.keeps up₂) (fun h₃ hn₃ hs₃ => ?_) (plainScope hk)
    rw [e.locals] at hn₃ hs₃
    exact h k h₃ t _ hkl hn₃ ((Up.of_keep up₂).trans (.of_same hs₃))
  have hL₂ : h₂.IsList s.heap.objs.size #[.str (plains.getD 0 (Str.ofString "")) s.toks, .str (plains.getD 1 (Str.ofString "")) (s.toks + 1), .str (plains.getD 2 (Str.ofString "")) (s.toks + 1 + 1), .str (plains.getD 3 (Str.ofString "")) (s.toks + 1 + 1 + 1), .str (plains.getD 4 (Str.ofString "")) (s.toks + 1 + 1 + 1 + 1), .str (plains.getD 5 (Str.ofString "")) (s.toks + 1 + 1 + 1 + 1 + 1)] :=
    ⟨_, keep₂ _ _ (Heap.get?_push_size _ rfl), rfl, _, rfl⟩
  match k, hkl with
  | 0, _ => exact list_strs_item hL₂ r0 (by omega) rfl (fin _ _ _ rfl)
  | 1, _ => exact list_strs_item hL₂ r0 (by omega) rfl (fin _ _ _ rfl)
  | 2, _ => exact list_strs_item hL₂ r0 (by omega) rfl (fin _ _ _ rfl)
  | 3, _ => exact list_strs_item hL₂ r0 (by omega) rfl (fin _ _ _ rfl)
  | 4, _ => exact list_strs_item hL₂ r0 (by omega) rfl (fin _ _ _ rfl)
  | 5, _ => exact list_strs_item hL₂ r0 (by omega) rfl (fin _ _ _ rfl)
  | k + 6, hk' => omega

end
end Mine
namespace Mine
open PySem

section
variable {prog : Program} {w : World} {A : Around} {E : Value → Shared → Prop} {s : Shared}

set_option maxHeartbeats 4000000 in
theorem call_law {base : Heap} {fI fS fC fT fR fA fL l : Addr} {ns : List Int} {Q : Value → Shared → Prop} (HF : ∀ k b0 b1 c1 c2, k < 6 → 0 ≤ b0 ∧ b0 < 5 → 0 ≤ b1 ∧ b1 < 5 → 1 ≤ c1 ∧ c1 < 5 → 1 ≤ c2 ∧ c2 < 5 → Facts (plains.getD k (Str.ofString "")) b0 b1 c1 c2)
    (N : Names base fI fS fC) (N2 : TakenNames base fC fT) (N3 : RowsNames base fR fT) (N4 : LawNames base fA) (N5 : TopNames base fL fR) (hh : A.handled = none) (hroom : A.depth + 5 < recursionLimit)
    (hb : ∀ b o, base.get? b = some o → s.heap.get? b = some o) (hl : IntsIn s.heap l ns) (hz : ns.length ≤ 1000) (h : ∀ s', Ext s s' → Q (.bool true) s') :
    wpAny (model prog w) A (call (.ref fL) [.ref l]) Q E s := by
  refine enterCell (n := "script") (by omega) N5.def_ N.lim hb ?_ (by decide) (fun L => rfl) rfl rfl rfl fun env h₁ tk₁ c e1 e2 e3 e4 e5 hc hcL hc₀ hcl hn hk₁ => ?_
  · rintro ⟨name, qualname, params, body, scope, globals, closure, defaults, kwdefaults, doc, pyModule, anns, code, closureTuple, builtins⟩ h1 h2 h3
    dsimp only at h1 h2 h3
    subst h1 h2 h3
    rfl
  have e : EnvFor env (stmtAt atLaw) s.heap.objs.size := ⟨e1, e2, e3, e4, e5⟩
  have hk : env.scope.kind = .function := e.kind rfl
  have kn : ∀ {n : Str} {q : NameKind}, (defScope (stmtAt atLaw)).names.lookup n = some q → env.kindOf n = some q := fun {n q} hq => by
    show env.scope.names.lookup n = _
    rw [e.scope]; exact hq
  obtain ⟨mg, hg, hg1, hg2, hg3⟩ := N5.glob
  obtain ⟨mb, hbl, hbl1, hbl2⟩ := N5.blt
  have hh' : (A.deeper env).handled = none := hh
  have hroom' : (A.deeper env).depth + 4 < recursionLimit := by show A.depth + 1 + 4 < _; omega
  obtain ⟨L, hL⟩ : ∃ L, L = s.heap.objs.size := ⟨_, rfl⟩
  have hLs : s.heap.get? L = none := hL ▸ getAbove _
  rw [← hL] at e hcL hn
  have heL := e.locals
  have hLb : base.get? L = none := by
    cases q : base.get? L with
    | none => rfl
    | some o => rw [hb _ _ q] at hLs; cases hLs
  have hb₁ : ∀ b o, base.get? b = some o → h₁.get? b = some o := fun b o q => hk₁ b o (hb b o q)
  have U₁ : Up L s.heap h₁ := .of_keep hk₁
  have hl₁ : IntsIn h₁ l ns := hl.keeps fun o q => hk₁ _ o q
  have hlL : l ≠ L := hl₁.ne hn
  -- adds
  refine wpAny_execs_cons (adds_stmt (cnt := 4) (c := c) (l := l) (ns := ns) (base := base) hh' hk (kn (by decide)) hc (kn (by decide)) (kn (by decide)) rfl rfl (by decide) (by decide) (by decide) (by decide) (by decide) (e.builtins ▸ hbl) hbl1 hbl2 (e.globals ▸ hg) hg1 hg2 hb₁ (heL ▸ hn) hcl hl₁ hz (by decide) (by decide) (by decide) (by decide)
    (fun D h₂ tk₂ hD₀ hD hn₂ u₂ => ?_) rfl (by decide))
  rw [heL] at hn₂ u₂
  replace u₂ : Up L h₁ h₂ := u₂
  have hDL : D ≠ L := hD.ne hn₂
  have len : (addsOf ns 4 4).length = 4 := by simp [addsOf]
  obtain ⟨M₂, e₂, hn₂⟩ := forget hn₂
  have a₂ : M₂ "adds" = some (.ref D) := by rw [e₂]; simp
  -- level
  refine wpAny_execs_cons (assign_ints (ns := [(1 + itemAt (addsOf ns 4 4) 0).fmod 5, (2 + itemAt (addsOf ns 4 4) 1).fmod 5]) hk (kn (by decide)) (heL ▸ hn₂) ?_ (by simp) fun lv h₃ tk₃ hlv hlv₀ hn₃ u₃ => ?_)
  · refine .cons ⟨.fmod (.add .const (.item hk (kn (by decide)) (heL ▸ hn₂) a₂ hD .const (by rw [len]; decide) (by rw [len]; decide) (by rw [len]; decide))) .const (by decide), fun _ => rfl⟩ (.cons ⟨.fmod (.add .const (.item hk (kn (by decide)) (heL ▸ hn₂) a₂ hD .const (by rw [len]; decide) (by rw [len]; decide) (by rw [len]; decide))) .const (by decide), fun _ => rfl⟩ .nil)
  rw [heL] at hn₃ u₃
  replace u₃ : Up L h₂ h₃ := u₃
  obtain ⟨M₃, e₃, hn₃⟩ := forget hn₃
  have a₃ : M₃ "adds" = some (.ref D) := by rw [e₃]; simp [y1, a₂]
  have hD₃ := hD.up u₃ hDL
  -- down
  refine wpAny_execs_cons (assign_ints (ns := [1, 1 + (itemAt (addsOf ns 4 4) 2).fmod 4, 1 + (1 + itemAt (addsOf ns 4 4) 3).fmod 4]) hk (kn (by decide)) (heL ▸ hn₃) ?_ (by simp) fun dn h₄ tk₄ hdn hdn₀ hn₄ u₄ => ?_)
  · refine .cons ⟨.const, fun _ => rfl⟩ (.cons ⟨.add .const (.fmod (.item hk (kn (by decide)) (heL ▸ hn₃) a₃ hD₃ .const (by rw [len]; decide) (by rw [len]; decide) (by rw [len]; decide)) .const (by decide)), fun _ => rfl⟩ (.cons ⟨.add .const (.fmod (.add .const (.item hk (kn (by decide)) (heL ▸ hn₃) a₃ hD₃ .const (by rw [len]; decide) (by rw [len]; decide) (by rw [len]; decide))) .const (by decide)), fun _ => rfl⟩ .nil))
  rw [heL] at hn₄ u₄
  replace u₄ : Up L h₃ h₄ := u₄
  have p1 := Int.fmod_nonneg_of_pos (1 + itemAt (addsOf ns 4 4) 0) (show (0 : Int) < 5 by decide)
  have p2 := Int.fmod_lt_of_pos (1 + itemAt (addsOf ns 4 4) 0) (show (0 : Int) < 5 by decide)
  have p3 := Int.fmod_nonneg_of_pos (2 + itemAt (addsOf ns 4 4) 1) (show (0 : Int) < 5 by decide)
  have p4 := Int.fmod_lt_of_pos (2 + itemAt (addsOf ns 4 4) 1) (show (0 : Int) < 5 by decide)
  have p5 := Int.fmod_nonneg_of_pos (itemAt (addsOf ns 4 4) 2) (show (0 : Int) < 4 by decide)
  have p6 := Int.fmod_lt_of_pos (itemAt (addsOf ns 4 4) 2) (show (0 : Int) < 4 by decide)
  have p7 := Int.fmod_nonneg_of_pos (1 + itemAt (addsOf ns 4 4) 3) (show (0 : Int) < 4 by decide)
  have p8 := Int.fmod_lt_of_pos (1 + itemAt (addsOf ns 4 4) 3) (show (0 : Int) < 4 by decide)
  obtain ⟨b0, hb0⟩ : ∃ b, b = (1 + itemAt (addsOf ns 4 4) 0).fmod 5 := ⟨_, rfl⟩
  obtain ⟨b1, hb1⟩ : ∃ b, b = (2 + itemAt (addsOf ns 4 4) 1).fmod 5 := ⟨_, rfl⟩
  obtain ⟨c1, hc1⟩ : ∃ b, b = 1 + (itemAt (addsOf ns 4 4) 2).fmod 4 := ⟨_, rfl⟩
  obtain ⟨c2, hc2⟩ : ∃ b, b = 1 + (1 + itemAt (addsOf ns 4 4) 3).fmod 4 := ⟨_, rfl⟩
  rw [← hb0, ← hb1] at hlv
  rw [← hc1, ← hc2] at hdn
  obtain ⟨M₄, e₄, hn₄⟩ := forget hn₄
  have lv₄ : M₄ "level" = some (.ref lv) := by rw [e₄, e₃]; simp [y2]
  have dn₄ : M₄ "down" = some (.ref dn) := by rw [e₄]; simp
  have U₄ : Up L s.heap h₄ := ((U₁.trans u₂).trans u₃).trans u₄
  have hcl₄ : h₄.IsCell c (some (.ref l)) := cell_up (cell_up (cell_up hcl u₂ hcL) u₃ hcL) u₄ hcL
  have hlv₄ := hlv.up u₄ (hlv.ne hn₃)
  -- plain
  refine wpAny_execs_cons (plain_stmt e hh' N5 (base_up hb hLb U₄) hn₄ hc hcl₄ (hl.up U₄ hlL) fun k h₅ tp tk₅ hk6 hn₅ u₅ => ?_)
  replace u₅ : Up L h₄ h₅ := u₅
  obtain ⟨M₅, e₅, hn₅⟩ := forget hn₅
  have lv₅ : M₅ "level" = some (.ref lv) := by rw [e₅]; simp [y3, lv₄]
  have dn₅ : M₅ "down" = some (.ref dn) := by rw [e₅]; simp [y4, dn₄]
  have pl₅ : M₅ "plain" = some (.str (plains.getD k (Str.ofString "")) tp) := by rw [e₅]; simp
  have U₅ := U₄.trans u₅
  have hlv₅ : IntsIn h₅ lv [b0, b1] := hlv₄.up u₅ (hlv.ne hn₃)
  have hdn₅ : IntsIn h₅ dn [1, c1, c2] := hdn.up u₅ (hdn.ne hn₄)
  have HFk := HF k b0 b1 c1 c2 hk6 ⟨by omega, by omega⟩ ⟨by omega, by omega⟩ ⟨by omega, by omega⟩ ⟨by omega, by omega⟩
  obtain ⟨x, hx⟩ : ∃ x, x = plains.getD k (Str.ofString "") := ⟨_, rfl⟩
  rw [← hx] at HFk pl₅
  have hb₅ := base_up hb hLb U₅
  -- m
  obtain ⟨oR, fdR, hR1, hR2, _⟩ := N5.rowsDef.out
  refine wpAny_execs_cons (wpAny_Assign_Name (Call_Name (trees := _) rfl (Calls.Name_function_global hk (kn (by decide)) (Calls.loadGlobal_global (e.globals ▸ hg.keeps hb₅) hg3 (Calls.callWith_function (o := oR) (fd := fdR) (Calls.evalArgs_plain ?_))))))
  refine Calls.spliced_cons (nm hk (kn (by decide)) (heL ▸ hn₅) pl₅ (Calls.spliced_cons (nm hk (kn (by decide)) (heL ▸ hn₅) lv₅ (Calls.spliced_cons (nm hk (kn (by decide)) (heL ▸ hn₅) dn₅ (Calls.spliced_nil ⟨⟨hb₅ _ _ hR1, hR2⟩, ?_⟩))))))
  refine call_rows N N2 N3 hh' hroom' hb₅ hlv₅ hdn₅ HFk.ok HFk.rows fun S s₆ items x₆ hS₀ hSp hSi => ?_
  have keep₆ : ∀ b o, h₅.get? b = some o → s₆.heap.get? b = some o := x₆.keep
  have hn₆ : s₆.heap.Ns L M₅ := hn₅.keeps keep₆
  have hS₆ : IntsIn s₆.heap S (sumsAt x [b0, b1] [1, c1, c2] 4) := ⟨items.toList, by simpa using hSp.isList, hSi⟩
  refine wpAny_storeName_local (kn (by decide)) (heL ▸ hn₆) (fun h₇ hn₇ hs₇ => ?_) (plainScope hk)
  rw [heL] at hn₇ hs₇
  have u₇ : Up L s₆.heap h₇ := .of_same hs₇
  obtain ⟨M₇, e₇, hn₇⟩ := forget hn₇
  have U₇ : Up L s.heap h₇ := (U₅.trans (.of_keep keep₆)).trans u₇
  show wpAny _ _ (execs ((defBody (stmtAt atLaw)).drop 5) env) _ _ _
  refine law_tail e hh' (by omega) N4 (base_up hb hLb U₇) hLb hn₇ (by rw [e₇]; simp) (by rw [e₇]; simp [y5, lv₅]) (by rw [e₇]; simp [y6, dn₅]) (hS₆.up u₇ (hS₆.ne hn₆)) ((hlv₅.keeps fun o q => keep₆ _ o q).up u₇ (hlv₅.ne hn₅)) ((hdn₅.keeps fun o q => keep₆ _ o q).up u₇ (hdn₅.ne hn₅)) HFk.law ⟨by omega, by omega⟩ ⟨by omega, by omega⟩ ⟨by omega, by omega⟩ ⟨by omega, by omega⟩ fun s₈ u₈ hos₈ hba₈ => ?_
  refine h s₈ ⟨fun b o q => u₈ b o (fun z => by rw [z, hLs] at q; cases q) (U₇ b o (fun z => by rw [z, hLs] at q; cases q) q), hos₈.trans x₆.os, fun q => hba₈ (x₆.bare q)⟩
end
end Mine
namespace Mine
open PySem

def shStep (plain : Str) (b : Int) (r : Str × Int) : List (Str × Int) :=
  ((if r.2 < b then [(r.1 ++ Str.ofString "(", r.2 + 1)] else []) ++ (if (if r.2 < 0 then -r.2 else r.2) ≤ b then [(r.1 ++ plain, r.2)] else [])) ++ if -r.2 < b then [(r.1 ++ Str.ofString ")", r.2 - 1)] else []
def wStep (level down : List Int) (b : Int) (r : Int × Int) : List (Int × Int) :=
  ((if r.1 < b then [(r.1 + 1, r.2)] else []) ++ (if (if r.1 < 0 then -r.1 else r.1) ≤ b then [(r.1, r.2 * itemAt level r.1)] else [])) ++ if -r.1 < b then [(r.1 - 1, r.2 * itemAt down r.1)] else []
def shAt (plain : Str) : Nat → List (Str × Int)
  | 0 => [(Str.ofString "", 0)]
  | j + 1 => (shAt plain j).flatMap (shStep plain (3 - (j : Int)))
def wAt (level down : List Int) : Nat → List (Int × Int)
  | 0 => [(0, 1)]
  | j + 1 => (wAt level down j).flatMap (wStep level down (3 - (j : Int)))

theorem map_one {α β : Type} {c : Prop} [Decidable c] (f : α → β) (x : α) : (if c then [x] else []).map f = if c then [f x] else [] := by split <;> rfl
theorem sh_step (plain : Str) (level down : List Int) (b : Int) (r : Row) : (rowStep plain level down b r).map (fun q : Row => (q.1, q.2.1)) = shStep plain b (r.1, r.2.1) := by
  unfold rowStep shStep
  simp only [List.map_append, map_one]
theorem w_step (plain : Str) (level down : List Int) (b : Int) (r : Row) : (rowStep plain level down b r).map (fun q : Row => (q.2.1, q.2.2)) = wStep level down b (r.2.1, r.2.2) := by
  unfold rowStep wStep
  simp only [List.map_append, map_one]
theorem map_flat {α β : Type} {f : α → List α} {g : α → β} {h : β → List β} (e : ∀ x, (f x).map g = h (g x)) : ∀ l : List α, (l.flatMap f).map g = (l.map g).flatMap h
  | [] => rfl
  | x :: l => by rw [List.flatMap_cons, List.map_append, e, map_flat e l, List.map_cons, List.flatMap_cons]
theorem sh_rows (plain : Str) (level down : List Int) : ∀ j, (rowsAt plain level down j).map (fun q : Row => (q.1, q.2.1)) = shAt plain j
  | 0 => rfl
  | j + 1 => by
    show ((rowsAt plain level down j).flatMap (rowStep plain level down (3 - (j : Int)))).map _ = _
    rw [map_flat (g := fun q : Row => (q.1, q.2.1)) (sh_step plain level down _), sh_rows plain level down j]
    rfl
theorem w_rows (plain : Str) (level down : List Int) : ∀ j, (rowsAt plain level down j).map (fun q : Row => (q.2.1, q.2.2)) = wAt level down j
  | 0 => rfl
  | j + 1 => by
    show ((rowsAt plain level down j).flatMap (rowStep plain level down (3 - (j : Int)))).map _ = _
    rw [map_flat (g := fun q : Row => (q.2.1, q.2.2)) (w_step plain level down _), w_rows plain level down j]
    rfl

def msum : List Bool → List Int → Int
  | b :: bs, x :: xs => (if b then x else 0) + msum bs xs
  | _, _ => 0
theorem msum_rows : ∀ l : List Row, ((l.filter fun r => chk r.1).map (·.2.2)).sum = msum (l.map fun r => chk r.1) (l.map (·.2.2))
  | [] => rfl
  | r :: l => by
    have ih := msum_rows l
    rw [List.map_cons, List.map_cons]
    cases h : chk r.1 with
    | true => rw [List.filter_cons_of_pos (p := fun r : Row => chk r.1) h, List.map_cons, List.sum_cons, ih]; rfl
    | false =>
      rw [List.filter_cons_of_neg (p := fun r : Row => chk r.1) (by rw [h]; decide), ih]
      show _ = (0 : Int) + _
      omega
def maskOf (plain : Str) (j : Nat) : List Bool := (shAt plain j).map fun q => chk q.1
theorem weigh_eq (plain : Str) (level down : List Int) (j : Nat) : weigh plain level down j = msum (maskOf plain j) ((wAt level down j).map (·.2)) := by
  unfold weigh maskOf
  rw [msum_rows, ← sh_rows plain level down j, ← w_rows plain level down j, List.map_map, List.map_map]
  rfl
theorem masks : (plains.all fun p => (List.range 5).all fun j => maskOf p j == maskOf (Str.ofString "x") j) = true := by decide +kernel

def msk : Nat → List Bool
  | 1 => [false, true, false]
  | 2 => [false, false, true, false, true, false, false, false, false]
  | 3 => [false, false, true, false, true, false, false, true, false, true, false, false, false, false, false, false, false, false, false]
  | _ => [true, true, true, true, true, false, true, true, true, true, false, false, false, false, false, false, false, false, false]
theorem msk_eq : ∀ k, k < 6 → ∀ j, j < 5 → 1 ≤ j → maskOf (plains.getD k (Str.ofString "")) j = msk j := by decide +kernel

def momOf (b0 b1 c1 c2 : Int) : List Int := [1, msum (msk 1) ((wAt [b0, b1] [1, c1, c2] 1).map (·.2)), msum (msk 2) ((wAt [b0, b1] [1, c1, c2] 2).map (·.2)), msum (msk 3) ((wAt [b0, b1] [1, c1, c2] 3).map (·.2)), msum (msk 4) ((wAt [b0, b1] [1, c1, c2] 4).map (·.2))]
theorem sums_eq {k : Nat} (hk : k < 6) (b0 b1 c1 c2 : Int) : sumsAt (plains.getD k (Str.ofString "")) [b0, b1] [1, c1, c2] 4 = momOf b0 b1 c1 c2 := by
  show (([1] ++ [weigh _ _ _ 1]) ++ [weigh _ _ _ 2]) ++ [weigh _ _ _ 3] ++ [weigh _ _ _ 4] = _
  rw [weigh_eq, weigh_eq, weigh_eq, weigh_eq, msk_eq k hk 1 (by decide) (by decide), msk_eq k hk 2 (by decide) (by decide), msk_eq k hk 3 (by decide) (by decide), msk_eq k hk 4 (by decide) (by decide)]
  rfl

def factB (b0 b1 c1 c2 : Int) : Bool :=
  let M := momOf b0 b1 c1 c2
  M.all (fun n => decide (-1000 ≤ n) && decide (n ≤ 1000)) && decide ((65536 - b0) * (65536 - b1) - c1 ≠ 0) && decide (((65536 - b0) * (65536 - b1) - c1).natAbs.log2 < 9000) && decide ((cutOf b0 b1 c1).natAbs < 16 ^ 64) &&
    decide (ap (cutOf b0 b1 c1).natAbs = 66 :: (dueOf M).map fun n => n.toNat.toUInt8) &&
    decide ((itemAt M 2 * itemAt M 4 - itemAt M 3 * itemAt M 3) - itemAt M 1 * (itemAt M 1 * itemAt M 4 - itemAt M 2 * itemAt M 3) + itemAt M 2 * (itemAt M 1 * itemAt M 3 - itemAt M 2 * itemAt M 2) = c1 * c1 * c2)
theorem fact_of {b0 b1 c1 c2 : Int} (h : factB b0 b1 c1 c2 = true) : LawFact b0 b1 c1 c2 (momOf b0 b1 c1 c2) := by
  unfold factB at h
  simp only [Bool.and_eq_true, decide_eq_true_eq, List.all_eq_true] at h
  obtain ⟨⟨⟨⟨⟨h1, h2⟩, h3⟩, h4⟩, h5⟩, h6⟩ := h
  refine ⟨rfl, h1, ⟨h2, h3⟩, h4, ?_, h6⟩
  rw [h5]
  unfold byteArr
  simp

def deepOk (level down : Nat) (behind : Int) (q : Str × Int) : Bool :=
  decide ((if q.2 < 0 then -q.2 else q.2) ≤ behind → -(level : Int) ≤ q.2 ∧ q.2 < level) && decide (-q.2 < behind → -(down : Int) ≤ q.2 ∧ q.2 < down) && decide (q.1.length ≤ 800)
theorem deeps : ∀ k, k < 6 → ∀ j, j < 4 → ((shAt (plains.getD k (Str.ofString "")) j).all (deepOk 2 3 (3 - (j : Int)))) = true ∧ (shAt (plains.getD k (Str.ofString "")) j).length ≤ 1000 := by decide +kernel
theorem plain_short : ∀ k, k < 6 → (plains.getD k (Str.ofString "")).length ≤ 100 := by decide +kernel

theorem rows_ok {k : Nat} (hk : k < 6) (b0 b1 c1 c2 : Int) (j : Nat) (hj : j < 4) : (∀ r ∈ rowsAt (plains.getD k (Str.ofString "")) [b0, b1] [1, c1, c2] j, RowOk [b0, b1] [1, c1, c2] (3 - (j : Int)) r) ∧ (rowsAt (plains.getD k (Str.ofString "")) [b0, b1] [1, c1, c2] j).length ≤ 1000 := by
  obtain ⟨h1, h2⟩ := deeps k hk j hj
  rw [← sh_rows _ [b0, b1] [1, c1, c2]] at h1 h2
  rw [List.length_map] at h2
  refine ⟨fun r hr => ?_, h2⟩
  have := List.all_eq_true.mp h1 _ (List.mem_map_of_mem hr)
  unfold deepOk at this
  simp only [Bool.and_eq_true, decide_eq_true_eq] at this
  exact ⟨this.1.1, this.1.2, this.2⟩
end Mine
namespace Mine
open PySem
theorem fc00 : ∀ c1, c1 < 4 → ∀ c2, c2 < 4 → factB (0 : Nat) (0 : Nat) ((c1 : Nat) + 1) ((c2 : Nat) + 1) = true := by decide +kernel
theorem fc01 : ∀ c1, c1 < 4 → ∀ c2, c2 < 4 → factB (0 : Nat) (1 : Nat) ((c1 : Nat) + 1) ((c2 : Nat) + 1) = true := by decide +kernel
theorem fc02 : ∀ c1, c1 < 4 → ∀ c2, c2 < 4 → factB (0 : Nat) (2 : Nat) ((c1 : Nat) + 1) ((c2 : Nat) + 1) = true := by decide +kernel
theorem fc03 : ∀ c1, c1 < 4 → ∀ c2, c2 < 4 → factB (0 : Nat) (3 : Nat) ((c1 : Nat) + 1) ((c2 : Nat) + 1) = true := by decide +kernel
theorem fc04 : ∀ c1, c1 < 4 → ∀ c2, c2 < 4 → factB (0 : Nat) (4 : Nat) ((c1 : Nat) + 1) ((c2 : Nat) + 1) = true := by decide +kernel
theorem fc10 : ∀ c1, c1 < 4 → ∀ c2, c2 < 4 → factB (1 : Nat) (0 : Nat) ((c1 : Nat) + 1) ((c2 : Nat) + 1) = true := by decide +kernel
theorem fc11 : ∀ c1, c1 < 4 → ∀ c2, c2 < 4 → factB (1 : Nat) (1 : Nat) ((c1 : Nat) + 1) ((c2 : Nat) + 1) = true := by decide +kernel
theorem fc12 : ∀ c1, c1 < 4 → ∀ c2, c2 < 4 → factB (1 : Nat) (2 : Nat) ((c1 : Nat) + 1) ((c2 : Nat) + 1) = true := by decide +kernel
theorem fc13 : ∀ c1, c1 < 4 → ∀ c2, c2 < 4 → factB (1 : Nat) (3 : Nat) ((c1 : Nat) + 1) ((c2 : Nat) + 1) = true := by decide +kernel
theorem fc14 : ∀ c1, c1 < 4 → ∀ c2, c2 < 4 → factB (1 : Nat) (4 : Nat) ((c1 : Nat) + 1) ((c2 : Nat) + 1) = true := by decide +kernel
theorem fc20 : ∀ c1, c1 < 4 → ∀ c2, c2 < 4 → factB (2 : Nat) (0 : Nat) ((c1 : Nat) + 1) ((c2 : Nat) + 1) = true := by decide +kernel
theorem fc21 : ∀ c1, c1 < 4 → ∀ c2, c2 < 4 → factB (2 : Nat) (1 : Nat) ((c1 : Nat) + 1) ((c2 : Nat) + 1) = true := by decide +kernel
theorem fc22 : ∀ c1, c1 < 4 → ∀ c2, c2 < 4 → factB (2 : Nat) (2 : Nat) ((c1 : Nat) + 1) ((c2 : Nat) + 1) = true := by decide +kernel
theorem fc23 : ∀ c1, c1 < 4 → ∀ c2, c2 < 4 → factB (2 : Nat) (3 : Nat) ((c1 : Nat) + 1) ((c2 : Nat) + 1) = true := by decide +kernel
theorem fc24 : ∀ c1, c1 < 4 → ∀ c2, c2 < 4 → factB (2 : Nat) (4 : Nat) ((c1 : Nat) + 1) ((c2 : Nat) + 1) = true := by decide +kernel
theorem fc30 : ∀ c1, c1 < 4 → ∀ c2, c2 < 4 → factB (3 : Nat) (0 : Nat) ((c1 : Nat) + 1) ((c2 : Nat) + 1) = true := by decide +kernel
theorem fc31 : ∀ c1, c1 < 4 → ∀ c2, c2 < 4 → factB (3 : Nat) (1 : Nat) ((c1 : Nat) + 1) ((c2 : Nat) + 1) = true := by decide +kernel
theorem fc32 : ∀ c1, c1 < 4 → ∀ c2, c2 < 4 → factB (3 : Nat) (2 : Nat) ((c1 : Nat) + 1) ((c2 : Nat) + 1) = true := by decide +kernel
theorem fc33 : ∀ c1, c1 < 4 → ∀ c2, c2 < 4 → factB (3 : Nat) (3 : Nat) ((c1 : Nat) + 1) ((c2 : Nat) + 1) = true := by decide +kernel
theorem fc34 : ∀ c1, c1 < 4 → ∀ c2, c2 < 4 → factB (3 : Nat) (4 : Nat) ((c1 : Nat) + 1) ((c2 : Nat) + 1) = true := by decide +kernel
theorem fc40 : ∀ c1, c1 < 4 → ∀ c2, c2 < 4 → factB (4 : Nat) (0 : Nat) ((c1 : Nat) + 1) ((c2 : Nat) + 1) = true := by decide +kernel
theorem fc41 : ∀ c1, c1 < 4 → ∀ c2, c2 < 4 → factB (4 : Nat) (1 : Nat) ((c1 : Nat) + 1) ((c2 : Nat) + 1) = true := by decide +kernel
theorem fc42 : ∀ c1, c1 < 4 → ∀ c2, c2 < 4 → factB (4 : Nat) (2 : Nat) ((c1 : Nat) + 1) ((c2 : Nat) + 1) = true := by decide +kernel
theorem fc43 : ∀ c1, c1 < 4 → ∀ c2, c2 < 4 → factB (4 : Nat) (3 : Nat) ((c1 : Nat) + 1) ((c2 : Nat) + 1) = true := by decide +kernel
theorem fc44 : ∀ c1, c1 < 4 → ∀ c2, c2 < 4 → factB (4 : Nat) (4 : Nat) ((c1 : Nat) + 1) ((c2 : Nat) + 1) = true := by decide +kernel
theorem fact_all (b0 : Nat) (h0 : b0 < 5) (b1 : Nat) (h1 : b1 < 5) : ∀ c1, c1 < 4 → ∀ c2, c2 < 4 → factB (b0 : Nat) (b1 : Nat) ((c1 : Nat) + 1) ((c2 : Nat) + 1) = true :=
  match b0, h0, b1, h1 with
  | 0, _, 0, _ => fc00
  | 0, _, 1, _ => fc01
  | 0, _, 2, _ => fc02
  | 0, _, 3, _ => fc03
  | 0, _, 4, _ => fc04
  | 1, _, 0, _ => fc10
  | 1, _, 1, _ => fc11
  | 1, _, 2, _ => fc12
  | 1, _, 3, _ => fc13
  | 1, _, 4, _ => fc14
  | 2, _, 0, _ => fc20
  | 2, _, 1, _ => fc21
  | 2, _, 2, _ => fc22
  | 2, _, 3, _ => fc23
  | 2, _, 4, _ => fc24
  | 3, _, 0, _ => fc30
  | 3, _, 1, _ => fc31
  | 3, _, 2, _ => fc32
  | 3, _, 3, _ => fc33
  | 3, _, 4, _ => fc34
  | 4, _, 0, _ => fc40
  | 4, _, 1, _ => fc41
  | 4, _, 2, _ => fc42
  | 4, _, 3, _ => fc43
  | 4, _, 4, _ => fc44
  | a + 5, h, _, _ => absurd h (by omega)
  | _, _, b + 5, h => absurd h (by omega)
theorem facts_all (k : Nat) (b0 b1 c1 c2 : Int) (hk : k < 6) (hb0 : 0 ≤ b0 ∧ b0 < 5) (hb1 : 0 ≤ b1 ∧ b1 < 5) (hc1 : 1 ≤ c1 ∧ c1 < 5) (hc2 : 1 ≤ c2 ∧ c2 < 5) : Facts (plains.getD k (Str.ofString "")) b0 b1 c1 c2 := by
  refine ⟨⟨plain_short k hk, ?_, ?_, by simp, by simp⟩, fun j hj => rows_ok hk b0 b1 c1 c2 j hj, ?_⟩
  · intro n hn
    simp only [List.mem_cons, List.not_mem_nil, or_false] at hn
    omega
  · intro n hn
    simp only [List.mem_cons, List.not_mem_nil, or_false] at hn
    omega
  · rw [sums_eq hk]
    refine fact_of ?_
    have := fact_all b0.toNat (by omega) b1.toNat (by omega) (c1 - 1).toNat (by omega) (c2 - 1).toNat (by omega)
    rw [Int.toNat_of_nonneg hb0.1, Int.toNat_of_nonneg hb1.1, Int.toNat_of_nonneg (by omega), Int.toNat_of_nonneg (by omega)] at this
    rwa [show c1 - 1 + 1 = c1 by omega, show c2 - 1 + 1 = c2 by omega] at this
end Mine
namespace Mine
open PySem

theorem fn_of {p : Program} {loose : List Str} {mean : ExcName → Option Value} {mg mb : Str → Option Value} {h : Heap} (T : Top p loose mean mg mb h) (st : Stmt) (n : Str)
    (hd : ∃ d ∈ recsOf p, d.name = n ∧ d.params = defArgs st ∧ d.body = defBody st ∧ d.scope = defScope st) : ∃ a, mg n = some (.ref a) ∧ FnIs h st a := by
  obtain ⟨d, hm, h1, h2, h3, h4⟩ := hd
  obtain ⟨a, o, pm, code, doc, q1, q2, q3, q4⟩ := T.fn d hm
  exact ⟨a, h1 ▸ q1, ⟨o, _, q2, q3, h4, congrArg _ h3, h2, rfl, rfl, rfl, rfl, rfl, q4⟩⟩

theorem rec0 : ∃ d ∈ recsOf hd2.view_39, d.name = Str.ofString "Int2AP" ∧ d.params = defArgs (stmtAt atInt) ∧ d.body = defBody (stmtAt atInt) ∧ d.scope = defScope (stmtAt atInt) := ⟨_, List.mem_of_getElem? (i := 0) rfl, rfl, rfl, rfl, rfl⟩
theorem rec1 : ∃ d ∈ recsOf hd2.view_39, d.name = Str.ofString "_iter_escaped_chars" ∧ d.params = defArgs (stmtAt atIter) ∧ d.body = defBody (stmtAt atIter) ∧ d.scope = defScope (stmtAt atIter) := ⟨_, List.mem_of_getElem? (i := 1) rfl, rfl, rfl, rfl, rfl⟩
theorem rec2 : ∃ d ∈ recsOf hd2.view_39, d.name = Str.ofString "_strip_quoted_realnames" ∧ d.params = defArgs (stmtAt atStrip) ∧ d.body = defBody (stmtAt atStrip) ∧ d.scope = defScope (stmtAt atStrip) := ⟨_, List.mem_of_getElem? (i := 2) rfl, rfl, rfl, rfl, rfl⟩
theorem rec3 : ∃ d ∈ recsOf hd2.view_39, d.name = Str.ofString "_check_parenthesis" ∧ d.params = defArgs (stmtAt atCheck) ∧ d.body = defBody (stmtAt atCheck) ∧ d.scope = defScope (stmtAt atCheck) := ⟨_, List.mem_of_getElem? (i := 3) rfl, rfl, rfl, rfl, rfl⟩
theorem rec4 : ∃ d ∈ recsOf hd2.view_39, d.name = Str.ofString "_law_taken" ∧ d.params = defArgs (stmtAt atTaken) ∧ d.body = defBody (stmtAt atTaken) ∧ d.scope = defScope (stmtAt atTaken) := ⟨_, List.mem_of_getElem? (i := 4) rfl, rfl, rfl, rfl, rfl⟩
theorem rec5 : ∃ d ∈ recsOf hd2.view_39, d.name = Str.ofString "_law_weights_of_rows" ∧ d.params = defArgs (stmtAt atRows) ∧ d.body = defBody (stmtAt atRows) ∧ d.scope = defScope (stmtAt atRows) := ⟨_, List.mem_of_getElem? (i := 5) rfl, rfl, rfl, rfl, rfl⟩
theorem rec6 : ∃ d ∈ recsOf hd2.view_39, d.name = Str.ofString "law" ∧ d.params = defArgs (stmtAt atLaw) ∧ d.body = defBody (stmtAt atLaw) ∧ d.scope = defScope (stmtAt atLaw) := ⟨_, List.mem_of_getElem? (i := 6) rfl, rfl, rfl, rfl, rfl⟩
theorem freeW : ∀ x ∈ ([Str.ofString "enumerate", Str.ofString "len", Str.ofString "int", Str.ofString "abs", Str.ofString "divmod", Str.ofString "isinstance", Str.ofString "bool", Str.ofString "sum", Str.ofString "bytes", Str.ofString "range"] : List Str),
    x ∉ startupNames ∧ x ∉ looseW hd2.view_39 [] ∧ x ∉ (recsOf hd2.view_39).map (·.name) ∧ x ∉ (litsOf hd2.view_39).map (·.1) ∧ x ∉ (clssOf hd2.view_39 (looseW hd2.view_39 [])).map (·.name) := by decide +kernel
end Mine
namespace Mine
open PySem
theorem boots : bootBuiltins "enumerate" = some (.type "enumerate") ∧ bootBuiltins "len" = some (.builtin "len") ∧ bootBuiltins "int" = some (.type "int") ∧ bootBuiltins "abs" = some (.builtin "abs") ∧ bootBuiltins "divmod" = some (.builtin "divmod") ∧
    bootBuiltins "isinstance" = some (.builtin "isinstance") ∧ bootBuiltins "bool" = some (.type "bool") ∧ bootBuiltins "sum" = some (.builtin "sum") ∧ bootBuiltins "bytes" = some (.type "bytes") ∧ bootBuiltins "range" = some (.type "range") := by decide +kernel

/-- what the seven defs find at the top -/
theorem all_names {loose : List Str} {mean : ExcName → Option Value} {mg mb : Str → Option Value} {h : Heap} (hl : loose = looseW hd2.view_39 []) (T : Top hd2.view_39 loose mean mg mb h) :
    ∃ fI fS fC fT fR fA fL, Names h fI fS fC ∧ TakenNames h fC fT ∧ RowsNames h fR fT ∧ LawNames h fA ∧ TopNames h fL fR ∧ mg (Str.ofString "law") = some (.ref fL) := by
  subst hl
  have fr : ∀ x ∈ ([Str.ofString "enumerate", Str.ofString "len", Str.ofString "int", Str.ofString "abs", Str.ofString "divmod", Str.ofString "isinstance", Str.ofString "bool", Str.ofString "sum", Str.ofString "bytes", Str.ofString "range"] : List Str), mg x = none := fun x hx =>
    T.free x (freeW x hx).1 (freeW x hx).2.1 (freeW x hx).2.2.1 (freeW x hx).2.2.2.1 (freeW x hx).2.2.2.2
  have bb : ∀ x : Str, x ≠ "__name__" → mb x = bootBuiltins x := T.builtins
  obtain ⟨b1, b2, b3, b4, b5, b6, b7, b8, b9, b10⟩ := boots
  obtain ⟨fA, eA, FA⟩ := fn_of T _ _ rec0
  obtain ⟨fI, eI, FI⟩ := fn_of T _ _ rec1
  obtain ⟨fS, eS, FS⟩ := fn_of T _ _ rec2
  obtain ⟨fC, eC, FC⟩ := fn_of T _ _ rec3
  obtain ⟨fT, eT, FT⟩ := fn_of T _ _ rec4
  obtain ⟨fR, eR, FR⟩ := fn_of T _ _ rec5
  obtain ⟨fL, eL, FL⟩ := fn_of T _ _ rec6
  refine ⟨fI, fS, fC, fT, fR, fA, fL, ⟨FI, FS, FC, T.nolimit, ⟨mg, T.g, fr _ (by simp), fr _ (by simp), eI, eS⟩, ⟨mb, T.b, (bb _ (by decide)).trans b1, (bb _ (by decide)).trans b2⟩⟩,
    ⟨FT, ⟨mg, T.g, fr _ (by simp), fr _ (by simp), eC⟩, ⟨mb, T.b, (bb _ (by decide)).trans b6, (bb _ (by decide)).trans b7⟩⟩,
    ⟨FR, ⟨mg, T.g, fr _ (by simp), fr _ (by simp), eT⟩, ⟨mb, T.b, (bb _ (by decide)).trans b4, (bb _ (by decide)).trans b8⟩⟩,
    ⟨⟨FA, T.nolimit, ⟨mg, T.g, fr _ (by simp), fr _ (by simp), fr _ (by simp)⟩, ⟨mb, T.b, (bb _ (by decide)).trans b3, (bb _ (by decide)).trans b4, (bb _ (by decide)).trans b5⟩⟩,
     ⟨⟨mg, T.g, eA, fr _ (by simp), fr _ (by simp)⟩, ⟨mb, T.b, (bb _ (by decide)).trans b6, (bb _ (by decide)).trans b9⟩⟩,
     ⟨⟨mg, T.g, fr _ (by simp)⟩, ⟨mb, T.b, (bb _ (by decide)).trans b9⟩⟩⟩,
    ⟨FL, FR, ⟨mg, T.g, fr _ (by simp), fr _ (by simp), eR⟩, ⟨mb, T.b, (bb _ (by decide)).trans b10, (bb _ (by decide)).trans b8⟩⟩, eL⟩
end Mine
set_option maxHeartbeats 4000000 in
theorem PySem.Challenge.cw_wn0022_02_holds : PySem.Challenge.rw_wn0022_02.Holds := by
  refine Mine.hd2 ?_
  intro w s₀ s₁ mg mb G Y fa o pm cd doc dV kV ho hd hcd hD hmg hg args vals as hpre hlay hrd hwl hlo
  refine Ground.open G ?_
  intro T B D TE TW
  obtain ⟨fI, fS, fC, fT, fR, fA, fL, N1, N2, N3, N4, N5, eL⟩ := Mine.all_names rfl T
  have efa : fa = fL := by
    have := hmg.symm.trans eL
    cases this
    rfl
  subst efa
  clear hd hcd hD ho hmg Y B D TE TW
  wrow_args hpre hlay hrd hwl hlo
  refine wpAny_mono (Mine.call_law (base := s₁.heap) Mine.facts_all N1 N2 N3 N4 N5 rfl (by decide) (fun _ _ q => q) ⟨_, by assumption, by assumption⟩ (by omega) (Q := fun v s' => v = .bool true ∧ Mine.Ext s₁ s') (E := fun _ _ => False) fun s' x => ⟨rfl, x⟩) (fun v s' q => ?_) fun _ _ q => q.elim
  obtain ⟨rfl, x⟩ := q
  refine ⟨.inl ⟨.bool true, .bool true, [], rfl, fun _ => rfl, .bool true, ?_, unshared_nil⟩, OldK.of_keep x.keep, x.os, x.bare (.of_eq hg)⟩
  first | rfl | kernel_rfl | exact postW_of rfl
