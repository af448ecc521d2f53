import PyProof.Rows.All
import Wide.All
import OpenK.AllK
import Wide.FinOn
import PySem.Challenge.RW_wn0022_03
open PySem PySem.W PyProof.Rows
set_option Elab.async false
namespace Mine
set_option maxRecDepth 100000 in
set_option maxHeartbeats 8000000 in
open_top hd2 for PySem.Challenge.rw_wn0022_03
end Mine
set_option maxRecDepth 100000
namespace Mine
open PySem
/-- where the defs stand among the rows of this statement's text -/
def stmtAt (i : Nat) : Stmt := PySem.Challenge.pw_wn0022_03.main.body.getD i (.Pass default)
def atIter : Nat := 1
def atStrip : Nat := 2
def atCheck : Nat := 3
def atInt : Nat := 5
def defBody : Stmt → List Stmt
  | .FunctionDef _ _ b _ _ _ _ _ _ _ => b
  | _ => []
def defArgs : Stmt → Arguments
  | .FunctionDef _ a _ _ _ _ _ _ _ _ => a
  | _ => default
def defScope : Stmt → Scope
  | .FunctionDef _ _ _ _ _ _ sc _ _ _ => sc
  | _ => default
def forBody : Stmt → List Stmt
  | .For _ _ b _ _ => b
  | _ => []
def forTgt : Stmt → Expr
  | .For t _ _ _ _ => t
  | _ => .Constant .none 0 default
def nthS (l : List Stmt) (i : Nat) : Stmt := l.getD i (.Pass default)
end Mine
namespace Mine
open PySem

/-- the pairs that the escape scan hands out: reading from place i on, b = a backslash stands open -/
def escGo : List Nat → Nat → Bool → List (Nat × Str)
  | [], i, true => [(i - 1, ⟨#[92]⟩)]
  | [], _, false => []
  | c :: r, i, true => (i, ⟨#[92, c]⟩) :: escGo r (i + 1) false
  | c :: r, i, false => if c = 92 then escGo r (i + 1) true else (i, ⟨#[c]⟩) :: escGo r (i + 1) false

/-- the generator's doings since s₀: what is older than its frame stands as it stood (and its own object, laid right behind that frame) -/
def Since (C : Addr) (s₀ s : Shared) : Prop :=
  ∃ h' tk, s = { s₀ with heap := h', toks := tk } ∧ ∀ b o, b ≠ C → b < C + 2 → s₀.heap.get? b = some o → h'.get? b = some o
theorem Since.refl (C : Addr) (s : Shared) : Since C s s := ⟨s.heap, s.toks, rfl, fun _ _ _ _ e => e⟩
theorem Since.step {C : Addr} {s₀ s : Shared} (x : Since C s₀ s) {h' : Heap} {tk : Nat} (hk : ∀ b o, b ≠ C → b < C + 2 → s.heap.get? b = some o → h'.get? b = some o) :
    Since C s₀ { s with heap := h', toks := tk } := by
  obtain ⟨h₁, tk₁, rfl, hk₁⟩ := x
  exact ⟨h', tk, rfl, fun b o hC h2 e => hk b o hC h2 (hk₁ b o hC h2 e)⟩

/-- what the reader may do between two turns: it leaves alone what is not older than the generator's frame, and the base -/
def Agree (C : Addr) (base : Heap) (s s' : Shared) : Prop :=
  (∀ b o, C ≤ b → s.heap.get? b = some o → s'.heap.get? b = some o) ∧ ∀ b o, base.get? b = some o → s'.heap.get? b = some o

def TupAt (h : Heap) (T : Addr) (p : Nat × Str) : Prop := ∃ t u, h.IsTuple T #[.int p.1 t, .str p.2 u]

def escProto (C : Addr) (base : Heap) (toks : List (Nat × Str)) : Protocol := fun m s₀ v s kap =>
  ∃ T p, toks[toks.length - 1 - m]? = some p ∧ v = .ref T ∧ TupAt s.heap T p ∧ C ≤ T ∧ Since C s₀ s ∧
    ∀ s'', Agree C base s s'' → kap (.send .none) s''

def escEnd (C : Addr) : GenEnd := fun n s₀ r s₁ => r = .ok (.ret .none) ∧ n = 0 ∧ Since C s₀ s₁

section
variable {M : Model} {A : Around} {R : GenEnd} {Y : Protocol} {n : Nat} {s₀ : Shared} {c : Code} {fs : List Frame} {s : Shared} {env : Env}
  {K : Flow → Sem Fin} {H : Value → Sem Fin} {gd : Bool → Bool} {lv : List Value → List Value}

theorem seg_If {test : Expr} {body orelse : List Stmt} {pos : Pos}
    (h : wpAny M (A.over c fs) (isTrue test env (eval test env)) (fun b s' => if b = true then Seg M A R Y n s₀ c ((execs body env).wrap K H gd lv) fs s' else Seg M A R Y n s₀ c ((execs orelse env).wrap K H gd lv) fs s')
      (fun x s' => Seg M A R Y n s₀ c (H x) fs s') s) : Seg M A R Y n s₀ c ((exec (.If test body orelse pos) env).wrap K H gd lv) fs s := by
  rw [exec_If]
  refine seg_bind_wrap (wpAny_standAt (seg_bind_wrap (wpAny_mono h (fun b s' hb => ?_) fun _ _ x => x)))
  cases b with
  | true => simpa using hb
  | false => simpa using hb

/-- a plain statement -/
theorem seg_plain {st : Stmt} (h : wpAny M (A.over c fs) (exec st env) (fun f s' => Seg M A R Y n s₀ c (K f) fs s') (fun x s' => Seg M A R Y n s₀ c (H x) fs s') s) :
    Seg M A R Y n s₀ c ((exec st env).wrap K H gd lv) fs s := seg_wrap h

theorem seg_For {target iter : Expr} {body orelse : List Stmt} {pos : Pos}
    (h : wpAny M (A.over c fs) (eval iter env) (fun x s₁ => wpAny M (A.over c fs) (pyIter x) (fun it s₂ =>
        ∀ p, Seg M A R Y n s₀ (.forLoop target it body orelse env) (M.den (.forLoop target it body orelse env))
          (.ret (fun r => ((match r with | .ok f => (.pure f : Sem Flow) | .error e => .raise e).onRaise fun (x : Value) => do
            if (← field x 1) == Value.none then unsupported "frame.own-activation:exception-without-traceback"
            setFlight x env.frame).wrap K H gd lv) none (gd false) (lv []) c p [] :: fs) s₂)
        (fun x s' => Seg M A R Y n s₀ c (H x) fs s') s₁) (fun x s' => Seg M A R Y n s₀ c (H x) fs s') s)
    (hs : ∀ x, foldedSetIterable iter env x = pure x := by intro _; rfl) :
    Seg M A R Y n s₀ c ((exec (.For target iter body orelse pos) env).wrap K H gd lv) fs s := by
  rw [exec_For]
  refine seg_bind_wrap (wpAny_standAt (seg_bind_wrap (wpAny_mono h (fun x s₁ h₁ => ?_) fun _ _ e => e)))
  refine seg_bind_wrap (wpAny_of_eq (hs x) ?_)
  refine seg_bind_wrap (wpAny_standAt (seg_bind_wrap (wpAny_holding (wpAny_mono h₁ (fun it s₂ h₂ => ?_) fun _ _ e => e))))
  exact seg_call h₂
end

end Mine
namespace Mine
open PySem

def escFor : Stmt := nthS (defBody (stmtAt atIter)) 2

section
variable {prog : Program} {w : World} {A : Around} {E : Value → Shared → Prop} {s : Shared} {cenv : Env} {m : Str → Option Value}

theorem nm {x : Str} {pos : Pos} {v : Value} {Q : Value → Shared → Prop} (hk : cenv.scope.kind = .function) (hl : cenv.kindOf x = some .local) (hn : s.heap.Ns cenv.locals m) (hv : m x = some v) (h : Q v s)
    (hd : (x == ("__debug__" : Str)) = false := by decide) : wpAny (model prog w) A (eval (.Name x pos) cenv) Q E s :=
  wpAny_Name (wpAny_loadName_local hk hl hn hv h) hd

theorem nmTrue {x : Str} {pos : Pos} {b : Bool} {Q : Bool → Shared → Prop} (hk : cenv.scope.kind = .function) (hl : cenv.kindOf x = some .local) (hn : s.heap.Ns cenv.locals m) (hv : m x = some (.bool b)) (h : Q b s)
    (hd : (x == ("__debug__" : Str)) = false := by decide) : wpAny (model prog w) A (isTrue (.Name x pos) cenv (eval (.Name x pos) cenv)) Q E s :=
  isTrue_plain (nm hk hl hn hv (wpAny_truthy_bool h) hd)

theorem plainScope (hk : cenv.scope.kind = .function) : (cenv.scope.kind == .class || (cenv.scope.kind == .module && cenv.locals != cenv.globals)) = false := by rw [hk]; rfl

theorem setBool {x : Str} {p q r : Pos} {b : Bool} {Q : Flow → Shared → Prop} (hk : cenv.scope.kind = .function) (hl : cenv.kindOf x = some .local) (hn : s.heap.Ns cenv.locals m)
    (h : ∀ h', h'.Ns cenv.locals (fun y => if y = x then some (.bool b) else m y) → Heap.SameBut cenv.locals s.heap h' → Q .next { s with heap := h', toks := s.toks + 1 }) :
    wpAny (model prog w) A (exec (.Assign [.Name x p] (.Constant (.bool b) 0 q) r) cenv) Q E s :=
  wpAny_Assign_Name (show wpAny _ _ (pure (Value.bool b)) _ _ s from wpAny_pure (wpAny_storeName_local hl hn (fun h' hn' hs' => h h' hn' hs') (plainScope hk)))

/-- the pair that is handed out, laid down as a tuple -/
theorem pairOf {e1 e2 : Expr} {k : Nat} {pos : Pos} {Q : Value → Shared → Prop}
    (h : wpAny (model prog w) A (eval e1 cenv) (fun v1 s1 => wpAny (model prog w) A (eval e2 cenv) (fun v2 s2 =>
      Q (.ref s2.heap.objs.size) { s2 with heap := s2.heap.push { cls := .type "tuple", data := .seq #[v1, v2] } }) E s1) E s)
    (h1 : starEach [e1, e2] cenv = [(false, eval e1 cenv), (false, eval e2 cenv)] := by rfl) :
    wpAny (model prog w) A (eval (.Tuple [e1, e2] k pos) cenv) Q E s := by
  refine wpAny_Tuple_spliced ?_
  rw [h1]
  refine Calls.spliced_cons (wpAny_mono h (fun v1 s1 hh => ?_) fun _ _ e => e)
  refine Calls.spliced_cons (wpAny_mono hh (fun v2 s2 hh2 => ?_) fun _ _ e => e)
  exact Calls.spliced_nil ⟨by show 2 ≤ sizeLine; decide, hh2⟩

theorem litStr {x : Str} {k : Nat} {pos : Pos} {Q : Value → Shared → Prop} (h : Q (.str x s.toks) { s with toks := s.toks + 1 }) :
    wpAny (model prog w) A (eval (.Constant (.str x) k pos) cenv) Q E s := Calls.Constant_str h
end

theorem tupNew {h : Heap} {i : Nat} {t u : Tok} {x : Str} :
    TupAt (h.push { cls := .type "tuple", data := .seq #[.int i t, .str x u] }) h.objs.size (i, x) :=
  ⟨t, u, _, Heap.get?_push_size _ rfl, rfl, _, rfl⟩

theorem getAbove (h : Heap) : h.get? h.objs.size = none := by
  cases e : h.get? h.objs.size with
  | none => rfl
  | some o => exact absurd (Heap.lt_size e) (Nat.lt_irrefl _)

section
variable {prog : Program} {w : World} {A : Around}

abbrev EnumPt (x : Str) : Nat → Array Value → Prop := fun i vals => ∃ t v, (∃ c u, x.cps[i]? = some c ∧ v = .str ⟨#[c]⟩ u) ∧ vals = #[.int i t, v]

theorem n1 : ¬ (Str.ofString "escape" = Str.ofString "ch") := by decide
theorem n2 : ¬ (Str.ofString "escape" = Str.ofString "pos") := by decide
theorem n3 : ¬ (Str.ofString "pos" = Str.ofString "ch") := by decide
theorem n4 : ¬ (Str.ofString "pos" = Str.ofString "escape") := by decide
theorem n5 : ¬ (Str.ofString "ch" = Str.ofString "escape") := by decide
theorem n6 : ¬ (Str.ofString "ch" = Str.ofString "pos") := by decide

theorem atPlace {toks pre rest : List (Nat × Str)} {p : Nat × Str} (h : toks = pre ++ p :: rest) : toks[toks.length - 1 - rest.length]? = some p := by
  subst h
  have : (pre ++ p :: rest).length - 1 - rest.length = pre.length := by simp
  rw [this]; simp

theorem oneSign {c d : Nat} {x : Str} (h : x = ⟨#[d]⟩) : ((⟨#[c]⟩ : Str) == x) = decide (c = d) := by
  subst h
  by_cases e : c = d
  · subst e; simp
  · have : ¬ ((⟨#[c]⟩ : Str) = ⟨#[d]⟩) := fun h => e (by simpa using h)
    simp [e, this]

structure EscKinds (cenv : Env) : Prop where
  kind : cenv.scope.kind = .function
  co : cenv.scope.isCoroutine = false
  pos : cenv.kindOf "pos" = some .local
  ch : cenv.kindOf "ch" = some .local
  escape : cenv.kindOf "escape" = some .local
  inter : interactive cenv = false

theorem seg_escLoop {e : Addr} {fp wr : List Addr} {St : Nat → Heap → Prop} {Mid : Nat → Addr → Heap → Prop} {x : Str} {cenv : Env} {base : Heap} {toks : List (Nat × Str)} {fs : List Frame}
    (W : ∀ A' : Around, A'.handled = none → WalksT prog w A' e fp wr x.cps.size (EnumPt x) St Mid) (hfp : ∀ b ∈ fp, cenv.locals + 1 < b)
    (k : EscKinds cenv) (hfs : splitAtGen fs = none) (hfg : fs.any Frame.guarded = false) (hA : ∀ c, (A.over c fs).handled = none)
    (hend : ∀ (b : Bool) (pre : List (Nat × Str)) (s₀ s : Shared) (m : Str → Option Value) (tk : Tok) (c : Code), s.heap.Ns cenv.locals m → m "escape" = some (.bool b) → m "pos" = some (.int (x.cps.size - 1 : Nat) tk) → Since cenv.locals s₀ s →
      toks = pre ++ escGo [] x.cps.size b → Seg (model prog w) A (escEnd cenv.locals) (escProto cenv.locals base toks) (escGo [] x.cps.size b).length s₀ c (.pure (.done .next)) fs s) :
    ∀ (r : List Nat) (i : Nat) (b : Bool) (pre : List (Nat × Str)) (s₀ s : Shared) (m : Str → Option Value) (tk : Tok), x.cps.toList.drop i = r → i ≤ x.cps.size → toks = pre ++ escGo r i b →
      St i s.heap → s.heap.Ns cenv.locals m → m "escape" = some (.bool b) → m "pos" = some (.int (i - 1 : Nat) tk) → Since cenv.locals s₀ s →
      Seg (model prog w) A (escEnd cenv.locals) (escProto cenv.locals base toks) (escGo r i b).length s₀
        (.forLoop (forTgt escFor) (.ref e) (forBody escFor) [] cenv)
        ((model prog w).den (.forLoop (forTgt escFor) (.ref e) (forBody escFor) [] cenv)) fs s := by
  have hwr : ∀ b ∈ wr, cenv.locals + 1 < b := fun b hb => hfp b ((W (A.over (.block [] cenv) fs) (hA _)).sub b hb)
  have hCw : cenv.locals ∉ wr := fun h => Nat.lt_irrefl _ (Nat.lt_of_succ_lt (hwr _ h))
  have hlow : ∀ b, b < cenv.locals + 2 → b ∉ wr := fun b hb h => Nat.lt_irrefl _ (Nat.lt_of_lt_of_le hb (hwr b h))
  have hfp' : ∀ b ∈ fp, cenv.locals < b := fun b hb => Nat.lt_of_succ_lt (hfp b hb)
  intro r
  induction r with
  | nil =>
    intro i b pre s₀ s m tk hr hi htoks hst hn hesc hpos hsince
    have hin : i = x.cps.size := by
      have := congrArg List.length hr
      simp at this; omega
    subst hin
    show Seg _ A _ _ _ s₀ _ ((forTurn _ (.ref e) _ [] cenv).onRaise _) fs s
    simp only [forTurn]
    rw [Sem.onRaise_eq_wrap]
    refine seg_bind_wrap (wpAny_standAt ?_)
    refine seg_bind_wrap (wpAny_onRaise ((W _ (hA _)).done s _ _ hst fun h' tk' hk' => ?_))
    refine seg_again rfl ?_
    exact hend b pre s₀ _ m tk _ (hn.at' fun o x => hk' _ o hCw x) hesc hpos (hsince.step fun b' o _ hb e => hk' b' o (hlow b' hb) e) htoks
  | cons c r ih =>
    intro i b pre s₀ s m tk hr hi htoks hst hn hesc hpos hsince
    have hlt : i < x.cps.size := by
      have := congrArg List.length hr
      simp at this; omega
    have hc : x.cps[i]? = some c := by
      have h1 := congrArg (·[0]?) hr
      simpa using h1
    have hr' : x.cps.toList.drop (i + 1) = r := by
      have h1 := congrArg List.tail hr
      simpa using h1
    show Seg _ A _ _ _ s₀ _ ((forTurn _ (.ref e) _ [] cenv).onRaise _) fs s
    simp only [forTurn]
    rw [Sem.onRaise_eq_wrap]
    refine seg_bind_wrap (wpAny_standAt ?_)
    refine seg_bind_wrap (wpAny_onRaise ((W _ (hA _)).item i s _ _ hlt hst fun T vals h₁ tk₁ hPt hT hTt hMid hk₁ => ?_))
    obtain ⟨tp, v, ⟨c', u, hc', rfl⟩, rfl⟩ := hPt
    rw [hc] at hc'; cases hc'
    refine seg_bind_wrap ((W _ (hA _)).go _ _ _ i T _ _ _ hMid fun h₂ hst₂ hk₂ => ?_)
    have hTw : T ∉ wr := (W _ (hA (.block [] cenv))).apart i T _ hMid
    have ht₂ : h₂.IsTuple T #[.int i tp, .str ⟨#[c]⟩ u] := by
      obtain ⟨o, ho, r⟩ := hTt
      exact ⟨o, hk₂ T o hTw ho, r⟩
    refine seg_bind_wrap (wpAny_assign_Tuple (hA _) ht₂ rfl rfl fun h₃ hx₃ => ?_)
    replace hx₃ : Heap.ExtBut h₂.objs.size h₂ h₃ := hx₃
    have up₃ : ∀ b o, b ∉ wr → s.heap.get? b = some o → h₃.get? b = some o := fun b o hb e => by
      have e2 := hk₂ b o hb (hk₁ b o hb e)
      exact hx₃ b o (Nat.ne_of_lt (Heap.lt_size e2)) e2
    have hn₃ : h₃.Ns cenv.locals m := hn.at' fun o e => up₃ _ o hCw e
    show wpAny _ _ (do holding [.str ⟨#[c]⟩ u] (assign (.Name "pos" _) cenv (.int i tp)); do holding [] (assign (.Name "ch" _) cenv (.str ⟨#[c]⟩ u)); pure ()) _ _ _
    refine wpAny_bind (wpAny_holding (wpAny_assign_Name (wpAny_storeName_local k.pos hn₃ (fun h₄ hn₄ hs₄ => ?_) (plainScope k.kind))))
    replace hs₄ : Heap.SameBut cenv.locals h₃ h₄ := hs₄
    refine wpAny_bind (wpAny_holding (wpAny_assign_Name (wpAny_storeName_local k.ch hn₄ (fun h₅ hn₅ hs₅ => wpAny_pure ?_) (plainScope k.kind))))
    replace hs₅ : Heap.SameBut cenv.locals h₄ h₅ := hs₅
    have up₅ : ∀ b o, b ≠ cenv.locals → h₂.get? b = some o → h₅.get? b = some o := fun b o hb e =>
      hs₅.extBut b o hb (hs₄.extBut b o hb (hx₃ b o (Nat.ne_of_lt (Heap.lt_size e)) e))
    have hst₅ : St (i + 1) h₅ := (W _ (hA (.block [] cenv))).frame _ _ _ hst₂ fun b hb o e => up₅ b o (Nat.ne_of_gt (hfp' b hb)) e
    have hsince₅ : ∀ {tk'}, Since cenv.locals s₀ { s with heap := h₅, toks := tk' } := hsince.step fun b o hne hb e => up₅ b o hne (hk₂ b o (hlow b hb) (hk₁ b o (hlow b hb) e))
    rw [Sem.bind_eq_wrap', Sem.wrap_wrap]
    refine seg_execs_cons (seg_If (nmTrue k.kind k.escape hn₅ (b := b) (by simp [n1, n2, hesc]) ?_))
    have hposT : (fun y => if y = Str.ofString "ch" then some (.str ⟨#[c]⟩ u) else if y = Str.ofString "pos" then some (.int i tp) else m y) (Str.ofString "pos") = some (Value.int ((i + 1 - 1 : Nat) : Int) tp) := by
      simp [n3]
    cases b with
    | true =>
      rw [if_pos rfl]
      have e1 : escGo (c :: r) i true = (i, ⟨#[92, c]⟩) :: escGo r (i + 1) false := rfl
      rw [e1] at htoks ⊢
      rw [List.length_cons]
      refine seg_execs_cons (seg_Expr_Yield hfs rfl hfg (pairOf (nm k.kind k.pos hn₅ (v := .int i tp) (by simp [n3]) (wpAny_BinOp (litStr (nm k.kind k.ch (m := fun y => if y = Str.ofString "ch" then some (.str ⟨#[c]⟩ u) else if y = Str.ofString "pos" then some (.int i tp) else m y) hn₅ (v := .str ⟨#[c]⟩ u) (by simp)
        (add_str (fun t' tk' => ?_) (by show 1 + 1 ≤ sizeLine; decide))))))) k.co k.inter)
      intro kap hkap
      refine ⟨_, (i, ⟨#[92, c]⟩), atPlace htoks, rfl, tupNew, Nat.le_of_lt hn₅.lt, hsince.step fun b o hne hb e => Heap.get?_push_of_some _ (up₅ b o hne (hk₂ b o (hlow b hb) (hk₁ b o (hlow b hb) e))), fun s'' hag => hkap _ _ ?_⟩
      have hn₆ := hn₅.at' (h' := s''.heap) fun o e => hag.1 _ o (Nat.le_refl _) (Heap.get?_push_of_some _ e)
      have hst₆ : St (i + 1) s''.heap := (W _ (hA (.block [] cenv))).frame _ _ _ hst₅ fun b hb o e => hag.1 b o (Nat.le_of_lt (hfp' b hb)) (Heap.get?_push_of_some _ e)
      refine seg_execs_cons (seg_plain (setBool k.kind k.escape hn₆ fun h₇ hn₇ hs₇ => seg_execs_nil (seg_again rfl ?_)))
      replace hs₇ : Heap.SameBut cenv.locals s''.heap h₇ := hs₇
      refine ih (i + 1) false (pre ++ [(i, ⟨#[92, c]⟩)]) s'' _ _ tp hr' hlt (by rw [htoks]; simp) ((W _ (hA (.block [] cenv))).frame _ _ _ hst₆ fun b hb o e => hs₇.extBut b o (Nat.ne_of_gt (hfp' b hb)) e) hn₇ (by simp) (by simp [n3, n4]) ((Since.refl _ s'').step fun b o hne hb e => hs₇.extBut b o hne e)
    | false =>
      rw [if_neg Bool.false_ne_true]
      refine seg_execs_cons (seg_If (wpAny_isTrue_Compare1 (nm k.kind k.ch hn₅ (v := .str ⟨#[c]⟩ u) (by simp) (litStr (eq_str (wpAny_truthy_bool ?_))))))
      have e0 : ((⟨#[c]⟩ : Str) == Str.ofString "\\") = decide (c = 92) := oneSign (by decide)
      rw [e0]
      by_cases h92 : c = 92
      · rw [if_pos (by simp [h92])]
        have e1 : escGo (c :: r) i false = escGo r (i + 1) true := by show (if c = 92 then _ else _) = _; rw [if_pos h92]
        rw [e1] at htoks ⊢
        refine seg_execs_cons (seg_plain (setBool k.kind k.escape hn₅ fun h₇ hn₇ hs₇ => seg_execs_nil (seg_execs_nil (seg_execs_nil (seg_again rfl ?_)))))
        replace hs₇ : Heap.SameBut cenv.locals h₅ h₇ := hs₇
        refine ih (i + 1) true pre s₀ _ _ tp hr' hlt htoks ((W _ (hA (.block [] cenv))).frame _ _ _ hst₅ fun b hb o e => hs₇.extBut b o (Nat.ne_of_gt (hfp' b hb)) e) hn₇ (by simp) (by simp [n3, n4]) (hsince.step fun b o hne hb e => hs₇.extBut b o hne (up₅ b o hne (hk₂ b o (hlow b hb) (hk₁ b o (hlow b hb) e))))
      · rw [if_neg (by simp [h92])]
        have e1 : escGo (c :: r) i false = (i, ⟨#[c]⟩) :: escGo r (i + 1) false := by show (if c = 92 then _ else _) = _; rw [if_neg h92]
        rw [e1] at htoks ⊢
        rw [List.length_cons]
        refine seg_execs_cons (seg_Expr_Yield hfs rfl hfg (pairOf (nm k.kind k.pos hn₅ (v := .int i tp) (by simp [n3]) (nm k.kind k.ch hn₅ (v := .str ⟨#[c]⟩ u) (by simp) ?_))) k.co k.inter)
        intro kap hkap
        refine ⟨_, (i, ⟨#[c]⟩), atPlace htoks, rfl, tupNew, Nat.le_of_lt hn₅.lt, hsince.step fun b o hne hb e => Heap.get?_push_of_some _ (up₅ b o hne (hk₂ b o (hlow b hb) (hk₁ b o (hlow b hb) e))), fun s'' hag => hkap _ _ ?_⟩
        have hn₆ := hn₅.at' (h' := s''.heap) fun o e => hag.1 _ o (Nat.le_refl _) (Heap.get?_push_of_some _ e)
        have hst₆ : St (i + 1) s''.heap := (W _ (hA (.block [] cenv))).frame _ _ _ hst₅ fun b hb o e => hag.1 b o (Nat.le_of_lt (hfp' b hb)) (Heap.get?_push_of_some _ e)
        refine seg_execs_nil (seg_execs_nil (seg_execs_nil (seg_again rfl ?_)))
        refine ih (i + 1) false (pre ++ [(i, ⟨#[c]⟩)]) s'' _ _ tp hr' hlt (by rw [htoks]; simp) hst₆ hn₆ (by simp [n1, n2, hesc]) (by simp [n3]) (Since.refl _ s'')
end
end Mine
namespace Mine
open PySem

/-- the pairs of a text -/
def escOf (x : Str) : List (Nat × Str) := escGo x.cps.toList 0 false

structure EnumNames (cenv : Env) (base : Heap) : Prop where
  addr : cenv.kindOf "addr" = some .local
  enum : cenv.kindOf "enumerate" = some .globalImplicit
  glob : ∃ mg, base.Ns cenv.globals mg ∧ mg "enumerate" = none
  blt : ∃ mb, base.Ns cenv.builtins mb ∧ mb "enumerate" = some (.type "enumerate")

section
variable {prog : Program} {w : World} {A : Around}
theorem n7 : ¬ (Str.ofString "addr" = Str.ofString "escape") := by decide
theorem n8 : ¬ (Str.ofString "addr" = Str.ofString "pos") := by decide

theorem seg_esc {x : Str} {t : Tok} {cenv : Env} {base : Heap} {s₀ s : Shared} {m : Str → Option Value} (hh : A.handled = none)
    (k : EscKinds cenv) (e : EnumNames cenv base) (hn : s.heap.Ns cenv.locals m) (hm : m "addr" = some (.str x t)) (hbase : ∀ b o, base.get? b = some o → s.heap.get? b = some o) (hbC : ∀ b o, base.get? b = some o → b < cenv.locals) (hsince : Since cenv.locals s₀ s) (hgen : cenv.locals + 1 < s.heap.objs.size) :
    Seg (model prog w) A (escEnd cenv.locals) (escProto cenv.locals base (escOf x)) (escOf x).length s₀
      (.func (defBody (stmtAt atIter)) cenv)
      ((model prog w).den (.func (defBody (stmtAt atIter)) cenv)) [] s := by
  obtain ⟨mg, hg, hge⟩ := e.glob
  obtain ⟨mb, hb, hbe⟩ := e.blt
  refine seg_func (seg_execs_cons (seg_plain ?_))
  refine wpAny_Assign_Name (wpAny_Constant_int (wpAny_storeName_local k.pos hn (fun h₁ hn₁ hs₁ => ?_) (plainScope k.kind)))
  replace hs₁ : Heap.SameBut cenv.locals s.heap h₁ := hs₁
  refine seg_execs_cons (seg_plain (setBool k.kind k.escape hn₁ fun h₂ hn₂ hs₂ => ?_))
  replace hs₂ : Heap.SameBut cenv.locals h₁ h₂ := hs₂
  have base₂ : ∀ b o, base.get? b = some o → h₂.get? b = some o := fun b o q => hs₂.extBut b o (Nat.ne_of_lt (hbC b o q)) (hs₁.extBut b o (Nat.ne_of_lt (hbC b o q)) (hbase b o q))
  refine seg_execs_cons (seg_For ?_)
  refine Call_Name1 (Calls.Name_function_global k.kind e.enum (Calls.loadGlobal_builtin (hg.keeps base₂) hge (hb.keeps base₂) hbe ?_))
  refine PyProof.Rows.callWith_type rfl (Calls.evalArgs_plain (Calls.spliced_cons (nm k.kind e.addr hn₂ (v := .str x t) (by simp [n7, n8, hm]) (Calls.spliced_nil ?_))))
  refine call_enumerate_str fun h₃ he₃ hit₃ hsz₃ hk₃ => ?_
  replace hk₃ : ∀ b o, h₂.get? b = some o → h₃.get? b = some o := hk₃
  replace hsz₃ : h₃.objs.size = h₂.objs.size + 2 := hsz₃
  replace he₃ : IsEnum h₃ (h₂.objs.size + 1) h₂.objs.size 0 .none := he₃
  replace hit₃ : h₃.IsStrIter h₂.objs.size (strIterType x) x t 0 := hit₃
  refine wpAny_pyIter_enum he₃ fun p => ?_
  have hC₂ : cenv.locals + 1 < h₂.objs.size := by rw [hs₂.1, hs₁.1]; exact hgen
  have hne : h₂.objs.size + 1 ≠ h₂.objs.size := Nat.succ_ne_self _
  obtain ⟨St', hSt', D⟩ : ∃ St' : Nat → Heap → Prop, St' 0 h₃ ∧ ∀ A' : Around, A'.handled = none → Draws prog w A' h₂.objs.size [h₂.objs.size] x.cps.size (fun i v => ∃ c u, x.cps[i]? = some c ∧ v = .str ⟨#[c]⟩ u) St' := by
    unfold strIterType at hit₃
    cases ha : x.cps.all (· < 128) with
    | true => exact ⟨_, by simpa [ha] using hit₃, fun A' hA => Draws.strAscii hA _ x t⟩
    | false => exact ⟨_, by simpa [ha] using hit₃, fun A' hA => Draws.strWide hA _ x t⟩
  refine seg_escLoop (pre := []) (tk := s.toks) (base := base) (toks := escOf x) (x := x)
    (fun A' hA => WalksT.enumerateD (D A'.in1 hA) (h₂.objs.size + 1) hne (by simp) (by simp)) ?_ k rfl rfl (by intro _; exact hh) ?_ x.cps.toList 0 false s₀ _ _ (by simp) (Nat.zero_le _) (by simp [escOf]) ⟨⟨_, he₃⟩, hSt'⟩ (hn₂.keeps hk₃) (by simp) (by simp [n4]) ?_
  · intro b hb
    rcases List.mem_cons.mp hb with rfl | hb
    · exact Nat.lt_succ_of_lt hC₂
    · rw [List.mem_singleton.mp hb]; exact hC₂
  · intro b pre s₁ s₂ m₂ tk c hn₅ hesc hpos hsince₂ htoks
    refine seg_leaf (.ok .next) ?_
    show Seg _ _ _ _ _ _ _ ((execs _ cenv).wrap _ _ _ _) [] _
    refine seg_execs_cons (seg_If (nmTrue k.kind k.escape hn₅ hesc ?_))
    cases b with
    | false =>
      rw [if_neg Bool.false_ne_true]
      exact seg_execs_nil (seg_execs_nil (seg_end (.ok (.ret .none)) ⟨rfl, rfl, hsince₂⟩))
    | true =>
      rw [if_pos rfl]
      have e1 : escGo [] x.cps.size true = [(x.cps.size - 1, ⟨#[92]⟩)] := rfl
      rw [e1] at htoks ⊢
      refine seg_execs_cons (seg_Expr_Yield rfl rfl rfl (pairOf (nm k.kind k.pos hn₅ hpos (litStr ?_))) k.co k.inter)
      intro kap hkap
      refine ⟨_, _, atPlace htoks, rfl, tupNew, Nat.le_of_lt hn₅.lt, hsince₂.step fun b o _ hb e => Heap.get?_push_of_some _ e, fun s'' hag => hkap _ _ ?_⟩
      exact seg_execs_nil (seg_execs_nil (seg_end (.ok (.ret .none)) ⟨rfl, rfl, Since.refl _ _⟩))
  · exact hsince.step fun b o hne hb e => hk₃ b o (hs₂.extBut b o hne (hs₁.extBut b o hne e))
end
end Mine
namespace Mine
open PySem

structure GMoved (C : Addr) (g : Nat) (s s' : Shared) : Prop where
  heap : ∀ b o, b < C → s.heap.get? b = some o → s'.heap.get? b = some o
  gens : GenOnlyQ g s.gens s'.gens
  os : s'.os = s.os

def GenSt (prog : Program) (w : World) (A : Around) (a : Addr) (g : Nat) (C : Addr) (base : Heap) (toks : List (Nat × Str)) (j : Nat) (s : Shared) : Prop :=
  s.heap.IsGen a g ∧ a = C + 1 ∧ ∃ gs, s.gens[g]? = some gs ∧ ∀ s'', Agree C base s s'' →
    gs.Goes (model prog w) A.in1 (escEnd C) (escProto C base toks) (toks.length - j) (.send .none) s''

section
variable {prog : Program} {w : World} {A : Around} {E : Value → Shared → Prop} {s : Shared} {a : Addr} {g : Nat} {C : Addr} {base : Heap} {toks : List (Nat × Str)} {j : Nat}

theorem GenSt.frame {s' : Shared} (st : GenSt prog w A a g C base toks j s) (hag : Agree C base s s') (hg : s'.gens[g]? = s.gens[g]?) : GenSt prog w A a g C base toks j s' := by
  obtain ⟨⟨o, nm, qn, ho, r⟩, hCa, gs, hgs, hgo⟩ := st
  exact ⟨⟨o, nm, qn, hag.1 a o (by rw [hCa]; exact Nat.le_succ _) ho, r⟩, hCa, gs, hg.trans hgs, fun s'' h2 => hgo s'' ⟨fun b o hb e => h2.1 b o hb (hag.1 b o hb e), h2.2⟩⟩

/-- a turn of the generator: by hand, as the library's own two rules for it have no word for what is left suspended -/
theorem next_gen {n : Nat} {gs : GenState} {Q : Option Value → Shared → Prop} (hh : A.handled = none) (hl : s.heap.NoLimit) (hroom : A.depth < recursionLimit)
    (hg : s.heap.IsGen a g) (hgs : s.gens[g]? = some gs)
    (hgo : gs.Goes (model prog w) A.in1 (escEnd C) (escProto C base toks) n (.send .none) (s.setGen g .running))
    (hY : ∀ v s₁ gs', gs'.bare = true → escProto C base toks (n - 1) (s.setGen g .running) v s₁ (fun r' s'' => match n with
        | 0 => False
        | m + 1 => gs'.Goes (model prog w) A.in1 (escEnd C) (escProto C base toks) m r' s'') → Q (some v) (s₁.setGen g gs'))
    (hP : ∀ s₁, n = 0 → Since C (s.setGen g .running) s₁ → ∀ h', (∀ b o, s₁.heap.get? b = some o → h'.get? b = some o) → Q none { s₁.setGen g .finished with heap := h' }) :
    wpAny (model prog w) A (pyNext (.ref a)) Q E s := by
  unfold pyNext
  refine wpAny_bind (wpAny_attempt (wpAny_callSpecial?_slot (name := Str.ofString "__next__") hg.typeIs slot_gen_next
    (wpAny_call_entry slot_gen_next hg.typeIs entry_gen_next ?_ (args_gen_next _))))
  show wpAny _ A.in1 (Builtin.Generator.genWake (.ref a) (.send .none)) _ _ s
  unfold Builtin.Generator.genWake
  refine wpAny_bind (wpAny_holding (wpAny_genNumber hg (wpAny_bind (wpAny_genState hgs ?_))))
  cases gs with
  | running => exact hgo.elim
  | finished => exact hgo.elim
  | _ =>
    refine wpAny_bind (wpAny_roomToWake hl hroom ?_)
    show wpAny _ A.in1 (.resume g (.send .none) [] _) _ _ s
    refine wpAny_resumeQ hgs hgo (fun x s₁ hx => ?_) (fun v s₁ gs' hb hv => ?_)
    · obtain ⟨rfl, hn, hp⟩ := hx
      show wpAny _ A.in1 (newExc (.type "StopIteration") [] >>= _) _ _ _
      refine wpAny_bind ?_
      simp only [newExc, newTuple]
      refine wpAny_bind (wpAny_newObj_type ?_ (by size_fits))
      refine wpAny_bind (m := firstArgMember _ _) (wpAny_of_eq (a := Value.none) (by first | rfl | (simp only [firstArgMember]; rfl)) ?_)
      refine wpAny_newObj_type ?_ (by size_fits)
      simp only [raiseNew]
      refine wpAny_bind (wpAny_bind (wpAny_handled ?_))
      first | rw [show A.in1.handled = none from hh] | rw [hh]
      refine wpAny_throw ?_
      refine wpAny_bind (wpAny_isInstance (T := "StopIteration") (b := true) ⟨_, Heap.get?_push_size _ rfl, rfl⟩ isSubtype_stop ?_)
      exact wpAny_pure (hP s₁ hn hp _ fun b o hb => Heap.get?_push_of_some _ (Heap.get?_push_of_some _ hb))
    · exact wpAny_pure ⟨v, rfl, wpAny_pure (hY v s₁ gs' hb hv)⟩

theorem gen_item {p : Nat × Str} {Q : Option Value → Shared → Prop} (hh : A.handled = none) (hroom : A.depth < recursionLimit) (hl : base.NoLimit) (hb : ∀ b o, base.get? b = some o → s.heap.get? b = some o)
    (hp : toks[j]? = some p) (st : GenSt prog w A a g C base toks j s)
    (h : ∀ T s', TupAt s'.heap T p → C ≤ T → GenSt prog w A a g C base toks (j + 1) s' → GMoved C g s s' → Q (some (.ref T)) s') : wpAny (model prog w) A (pyNext (.ref a)) Q E s := by
  obtain ⟨hg, hCa, gs, hgs, hgo⟩ := st
  have hj : j < toks.length := (List.getElem?_eq_some_iff.mp hp).1
  obtain ⟨m, hm⟩ : ∃ m, toks.length - j = m + 1 := ⟨toks.length - j - 1, by omega⟩
  rw [hm] at hgo
  refine next_gen hh (hl.keeps hb) hroom hg hgs (hgo _ ⟨fun _ _ _ e => e, hb⟩) (fun v s₁ gs' hbr hv => ?_) (fun s₁ hn => absurd hn (Nat.succ_ne_zero m))
  obtain ⟨T, q, hq, rfl, hT, hCT, ⟨h₁, tk₁, rfl, hk₁⟩, hkap⟩ := hv
  have hidx : toks.length - 1 - (m + 1 - 1) = j := by omega
  rw [hidx, hp] at hq
  cases hq
  have haC : a ≠ C := by rw [hCa]; exact Nat.succ_ne_self _
  have ha2 : a < C + 2 := by rw [hCa]; exact Nat.lt_succ_self _
  have e : toks.length - (j + 1) = m := by omega
  refine h T _ hT hCT ⟨let ⟨o, nm, qn, ho, r⟩ := hg; ⟨o, nm, qn, hk₁ a o haC ha2 ho, r⟩, hCa, gs', setGen_self (gs := .running) (setGen_self hgs), fun s'' hag => ?_⟩
    ⟨fun b o hb e => hk₁ b o (Nat.ne_of_lt hb) (Nat.lt_succ_of_lt (Nat.lt_succ_of_lt hb)) e, GenOnlyQ.of ((GenOnly.setGen s g .running).trans (GenOnly.setGen _ g gs')) (setGen_self (gs := .running) (setGen_self hgs)) hbr, rfl⟩
  rw [e]
  exact hkap s'' hag

theorem gen_done {Q : Option Value → Shared → Prop} (hh : A.handled = none) (hroom : A.depth < recursionLimit) (hl : base.NoLimit) (hb : ∀ b o, base.get? b = some o → s.heap.get? b = some o)
    (hbC : ∀ b o, base.get? b = some o → b < C) (st : GenSt prog w A a g C base toks toks.length s) (h : ∀ s', GMoved C g s s' → Q none s') : wpAny (model prog w) A (pyNext (.ref a)) Q E s := by
  obtain ⟨hg, hCa, gs, hgs, hgo⟩ := st
  rw [Nat.sub_self] at hgo
  refine next_gen hh (hl.keeps hb) hroom hg hgs (hgo _ ⟨fun _ _ _ e => e, hb⟩) (fun v s₁ gs' hbr hv => ?_) (fun s₁ hn hp h' hk => ?_)
  · obtain ⟨T, q, hq, rfl, hT, hCT, ⟨h₁, tk₁, rfl, hk₁⟩, hkap⟩ := hv
    exact False.elim (hkap _ ⟨fun _ _ _ e => e, fun b o e => hk₁ b o (Nat.ne_of_lt (hbC b o e)) (Nat.lt_succ_of_lt (Nat.lt_succ_of_lt (hbC b o e))) (hb b o e)⟩)
  · obtain ⟨h₁, tk₁, rfl, hk₁⟩ := hp
    exact h _ ⟨fun b o hb e => hk b o (hk₁ b o (Nat.ne_of_lt hb) (Nat.lt_succ_of_lt (Nat.lt_succ_of_lt hb)) e), GenOnlyQ.of ((GenOnly.setGen s g .running).trans (GenOnly.setGen _ g .finished)) (setGen_self (gs := .running) (setGen_self hgs)) rfl, rfl⟩
end
end Mine
namespace Mine
open PySem

/-- one of the text's own defs stands at an address, as its row says it -/
structure FnIs (h : Heap) (st : Stmt) (a : Addr) : Prop where
  out : ∃ o fd, h.get? a = some o ∧ o.data = .func fd ∧ fd.scope = defScope st ∧ fd.body = .stmts (defBody st) ∧ fd.params = defArgs st ∧ fd.closure = [] ∧
    fd.globals = mainGlobals ∧ fd.builtins = builtinsNs ∧ fd.defaults = .none ∧ fd.kwdefaults = .none ∧ h.CodeRec fd.code fd.qualname

theorem FnIs.keeps {h h' : Heap} {st : Stmt} {a : Addr} (x : FnIs h st a) (hk : ∀ b o, h.get? b = some o → h'.get? b = some o) : FnIs h' st a := by
  obtain ⟨o, fd, h1, h2, h3, h4, h5, h6, h7, h8, h9, h10, h11⟩ := x.out
  exact ⟨o, fd, hk _ _ h1, h2, h3, h4, h5, h6, h7, h8, h9, h10, h11.keeps hk⟩

section
variable {prog : Program} {w : World} {A : Around} {E : Value → Shared → Prop} {s : Shared}

theorem call_esc {fI : Addr} {base : Heap} {x : Str} {t : Tok} {Q : Value → Shared → Prop} (hh : A.handled = none) (hroom : A.depth < recursionLimit) (fn : FnIs base (stmtAt atIter) fI)
    (hl : base.NoLimit) (hb : ∀ b o, base.get? b = some o → s.heap.get? b = some o) (hg : ∃ mg, base.Ns mainGlobals mg ∧ mg "enumerate" = none) (hbl : ∃ mb, base.Ns builtinsNs mb ∧ mb "enumerate" = some (.type "enumerate"))
    (h : ∀ s', (∀ A' : Around, A'.handled = none → GenSt prog w A' (s.heap.objs.size + 1) s.gens.size s.heap.objs.size base (escOf x) 0 s') → (∀ b o, s.heap.get? b = some o → s'.heap.get? b = some o) → s'.os = s.os → (∃ gs, gs.bare = true ∧ s'.gens = s.gens.push gs) →
      Q (.ref (s.heap.objs.size + 1)) s') :
    wpAny (model prog w) A (call (.ref fI) [.str x t]) Q E s := by
  obtain ⟨o, fd, h1, h2, h3, h4, h5, h6, h7, h8, h9, h10, h11⟩ := fn.out
  refine wpAny_call ?_
  refine codeAny_call_generator hroom (hb _ _ h1) h2 (by rw [h3]; rfl) (by rw [h3]; rfl) h4 (h11.keeps hb) ?_
  have hbind : bindArgs fd ⟨[.str x t], []⟩ = pure [((Str.ofString "addr"), Value.str x t)] := by
    obtain ⟨name, qualname, params, body, scope, globals, closure, defaults, kwdefaults, doc, pyModule, anns, code, closureTuple, builtins⟩ := fd
    subst h3 h4 h5 h6 h9 h10
    rfl
  rw [hbind]
  have hcell : ∀ y ∈ fd.scope.names, y.2 ≠ .cell := by rw [h3]; decide
  have hloc : ∀ y ∈ [((Str.ofString "addr"), Value.str x t)], fd.scope.names.lookup y.1 = some .local := by rw [h3]; intro y hy; rw [List.mem_singleton.mp hy]; show (defScope (stmtAt atIter)).names.lookup (Str.ofString "addr") = _; decide
  refine wpAny_pure (wpAny_newFunctionEnv hcell hloc (fun h' hn hs => ?_) (by rw [h3]; rfl))
  have hsz : h'.objs.size = s.heap.objs.size + 1 := by rw [hs.1, Heap.size_push]
  have keep' : ∀ b o, s.heap.get? b = some o → h'.get? b = some o := fun b o e => hs.extBut b o (Nat.ne_of_lt (Heap.lt_size e)) (Heap.get?_push_of_some _ e)
  refine ⟨(hl.keeps hb).keeps keep', ?_⟩
  show Q (.ref h'.objs.size) _
  rw [hsz]
  have hget : ∀ o : Obj, o.isFreed = false → (h'.push o).get? (s.heap.objs.size + 1) = some o := fun o ho => hsz ▸ Heap.get?_push_size h' ho
  refine h _ (fun A' hA => ⟨⟨_, _, _, hget _ rfl, rfl, rfl, rfl⟩, rfl, _, Array.getElem?_push_size .., fun s'' hag => ⟨rfl, ?_⟩⟩) (fun b o e => Heap.get?_push_of_some _ (keep' b o e)) rfl ⟨_, rfl, rfl⟩
  rw [Nat.sub_zero]
  obtain ⟨mg, hg1, hg2⟩ := hg
  obtain ⟨mb, hb1, hb2⟩ := hbl
  have hn₂ := (hn.push { cls := .type "generator", data := .fields #[.int s.gens.size 0, .str fd.name (s.toks + [((Str.ofString "addr"), Value.str x t)].length), .str fd.qualname (s.toks + [((Str.ofString "addr"), Value.str x t)].length + 1)] }).at' (h' := s''.heap) fun o e => hag.1 _ o (Nat.le_refl _) e
  have hgen := hag.1 (s.heap.objs.size + 1) _ (Nat.le_succ _) (hget _ rfl)
  refine seg_esc (cenv := newEnv fd.scope s.heap.objs.size fd.globals fd.closure (fd.qualname ++ ".<locals>.") (some fI) fd.code none fd.builtins) (A := A'.in1) hA ?_ ?_ hn₂ rfl hag.2 (fun b o e => Heap.lt_size (hb b o e)) (Since.refl _ _) (Heap.lt_size hgen)
  · rw [h3]
    exact ⟨rfl, rfl, rfl, rfl, rfl, rfl⟩
  · rw [h3, h7, h8]
    exact ⟨rfl, rfl, ⟨mg, hg1, hg2⟩, ⟨mb, hb1, hb2⟩⟩
end
end Mine
namespace Mine
open PySem

section
variable {prog : Program} {w : World} {A : Around} {E : Value → Shared → Prop} {s : Shared}

theorem letGo_gen {elts : List Expr} {k : Nat} {pos : Pos} {a T : Addr} {g : Nat} {Q : Unit → Shared → Prop} (hg : s.heap.IsGen a g) (hQ : Q () s) :
    wpAny (model prog w) A (letOwnedTupleGo (.Tuple elts k pos) (.ref a) (.ref T)) Q E s := by
  obtain ⟨o, nm, qn, ho, hc, hd, hs⟩ := hg
  unfold letOwnedTupleGo
  refine wpAny_bind (wpAny_load ho ?_)
  rw [hc, hd]
  show wpAny _ A (if (["enumerate", "zip", "dict_itemiterator", "dict_reverseitemiterator", "odict_iterator", "itertools.zip_longest", "itertools.pairwise"].contains "generator" &&
      (#[.int (g : Int) 0, nm, qn] : Array Value)[0]? == some (rawInt T)) = true then _ else _) Q E s
  rw [if_neg (by
    rw [show (["enumerate", "zip", "dict_itemiterator", "dict_reverseitemiterator", "odict_iterator", "itertools.zip_longest", "itertools.pairwise"].contains "generator") = false from by decide, Bool.false_and]
    exact Bool.false_ne_true)]
  exact wpAny_pure hQ

/-- a for over the generator's pairs, by what holds between its turns -/
theorem loop_gen {R : Result → Shared → Prop} {toks : List (Nat × Str)} {a C : Addr} {g : Nat} {base : Heap} {env : Env} {p1 p2 p3 : Pos} {body : List Stmt} {m : Str → Option Value}
    (hh : A.handled = none) (hroom : A.depth < recursionLimit) (hl : base.NoLimit) (hbC : ∀ b o, base.get? b = some o → b < C) (hLC : env.locals < C) (hbL : ∀ b o, base.get? b = some o → b ≠ env.locals)
    (hk : env.scope.kind = .function) (hkp : env.kindOf "pos" = some .local) (hkc : env.kindOf "ch" = some .local)
    (J : Nat → (Str → Option Value) → Heap → Prop) (Z : Value → Heap → Prop)
    (hJ : ∀ j m h h', J j m h → (∀ b o, b < C → b ≠ env.locals → h.get? b = some o → h'.get? b = some o) → J j m h') (hJb : ∀ j m h, J j m h → ∀ b o, base.get? b = some o → h.get? b = some o)
    (step : ∀ j p tp tc m s₁, toks[j]? = some p → J j m s₁.heap → s₁.heap.Ns env.locals (fun y => if y = "ch" then some (.str p.2 tc) else if y = "pos" then some (.int p.1 tp) else m y) →
      wpAny (model prog w) A (execs body env) (fun f s₂ => (∃ h' tk, s₂ = { s₁ with heap := h', toks := tk } ∧ ∀ b o, C ≤ b → s₁.heap.get? b = some o → h'.get? b = some o) ∧
        match f with | .next => ∃ m₂, s₂.heap.Ns env.locals m₂ ∧ J (j + 1) m₂ s₂.heap | .ret v => Z v s₂.heap | _ => False) (notedBy (model prog w) A env fun e s' => R (.error e) s') s₁)
    (hret : ∀ v s', Z v s'.heap → s'.os = s.os → (AllBare s.gens → AllBare s'.gens) → R (.ok (.ret v)) s')
    (hafter : ∀ m' s', s'.heap.Ns env.locals m' → J toks.length m' s'.heap → s'.os = s.os → (AllBare s.gens → AllBare s'.gens) → R (.ok .next) s')
    (st : GenSt prog w A a g C base toks 0 s) (hn : s.heap.Ns env.locals m) (h0 : J 0 m s.heap) :
    codeAny (model prog w) A (.forLoop (.Tuple [.Name "pos" p1, .Name "ch" p2] 0 p3) (.ref a) body [] env) R s := by
  refine codeAny_forLoop_any (fun k s' => ∃ j m', k = toks.length + 1 - j ∧ j ≤ toks.length ∧ GenSt prog w A a g C base toks j s' ∧ s'.heap.Ns env.locals m' ∧ J j m' s'.heap ∧ s'.os = s.os ∧ (AllBare s.gens → AllBare s'.gens)) ?_
    (toks.length + 1) ⟨0, m, rfl, Nat.zero_le _, st, hn, h0, rfl, id⟩
  rintro k s' ⟨j, m', rfl, hj, st', hn', hJ', hos, hbare⟩
  have hb' := hJb _ _ _ hJ'
  cases hv : toks[j]? with
  | none =>
    have hje : j = toks.length := Nat.le_antisymm hj (by simpa using hv)
    subst hje
    refine gen_done hh hroom hl hb' hbC st' fun s₁ mv => wpAny_execs_nil ?_
    exact hafter m' s₁ (hn'.at' fun o e => mv.heap _ o hLC e) (hJ _ _ _ _ hJ' fun b o hb _ e => mv.heap b o hb e) (mv.os.trans hos) fun q => mv.gens.bare (hbare q)
  | some p =>
    have hlt : j < toks.length := (List.getElem?_eq_some_iff.mp hv).1
    refine gen_item hh hroom hl hb' hv st' fun T s₁ hT hCT st₁ mv => ?_
    refine letGo_gen st₁.1 ?_
    obtain ⟨tp, tc, hT⟩ := hT
    refine wpAny_assign_Tuple hh hT rfl rfl fun h₃ hx₃ => ?_
    have hn₁ : s₁.heap.Ns env.locals m' := hn'.at' fun o e => mv.heap _ o hLC e
    have up₃ : ∀ b o, s₁.heap.get? b = some o → h₃.get? b = some o := fun b o e => hx₃ b o (Nat.ne_of_lt (Heap.lt_size e)) e
    have hn₃ : h₃.Ns env.locals m' := hn₁.keeps up₃
    show wpAny _ _ (do holding [.str p.2 tc] (assign (.Name "pos" _) env (.int p.1 tp)); do holding [] (assign (.Name "ch" _) env (.str p.2 tc)); pure ()) _ _ _
    refine wpAny_bind (wpAny_holding (wpAny_assign_Name (wpAny_storeName_local hkp hn₃ (fun h₄ hn₄ hs₄ => ?_) (plainScope hk))))
    replace hs₄ : Heap.SameBut env.locals h₃ h₄ := hs₄
    refine wpAny_bind (wpAny_holding (wpAny_assign_Name (wpAny_storeName_local hkc hn₄ (fun h₅ hn₅ hs₅ => wpAny_pure ?_) (plainScope hk))))
    replace hs₅ : Heap.SameBut env.locals h₄ h₅ := hs₅
    have up₅ : ∀ b o, b ≠ env.locals → s₁.heap.get? b = some o → h₅.get? b = some o := fun b o hb e => hs₅.extBut b o hb (hs₄.extBut b o hb (up₃ b o e))
    have hJ₁ : J j m' s₁.heap := hJ _ _ _ _ hJ' fun b o hb _ e => mv.heap b o hb e
    have hJ₅ : J j m' h₅ := hJ _ _ _ _ hJ₁ fun b o _ hb e => up₅ b o hb e
    have hb₁ := hJb _ _ _ hJ₁
    refine wpAny_mono (step j p tp tc m' _ hv hJ₅ hn₅) (fun f s₂ hf => ?_) fun _ _ e => e
    obtain ⟨⟨h₆, tk₆, rfl, hk₆⟩, hf⟩ := hf
    cases f with
    | next =>
      obtain ⟨m₂, hn₂, hJ₂⟩ := hf
      refine ⟨toks.length + 1 - (j + 1), by omega, j + 1, m₂, rfl, hlt, ?_, hn₂, hJ₂, mv.os.trans hos, fun q => mv.gens.bare (hbare q)⟩
      exact st₁.frame ⟨fun b o hb e => hk₆ b o hb (up₅ b o (Nat.ne_of_gt (Nat.lt_of_lt_of_le hLC hb)) e), hJb _ _ _ hJ₂⟩ rfl
    | brk => exact hf.elim
    | cont => exact hf.elim
    | ret v => exact hret v _ hf (mv.os.trans hos) fun q => mv.gens.bare (hbare q)
end
end Mine
namespace Mine
open PySem

/-- what a call leaves behind: all that stood stands as it stood; the world outside is untouched; what is left of generators asks for no cleaning up -/
structure Ext (s s' : Shared) : Prop where
  keep : ∀ b o, s.heap.get? b = some o → s'.heap.get? b = some o
  os : s'.os = s.os
  bare : AllBare s.gens → AllBare s'.gens
theorem Ext.refl (s : Shared) : Ext s s := ⟨fun _ _ e => e, rfl, id⟩
theorem Ext.trans {s s' s'' : Shared} (x : Ext s s') (y : Ext s' s'') : Ext s s'' := ⟨fun b o e => y.keep b o (x.keep b o e), y.os.trans x.os, fun q => y.bare (x.bare q)⟩
theorem Ext.of_heap {s : Shared} {h' : Heap} {tk : Nat} (hk : ∀ b o, s.heap.get? b = some o → h'.get? b = some o) : Ext s { s with heap := h', toks := tk } := ⟨hk, rfl, id⟩

structure Names (base : Heap) (fI fS fC : Addr) : Prop where
  iter : FnIs base (stmtAt atIter) fI
  strip : FnIs base (stmtAt atStrip) fS
  check : FnIs base (stmtAt atCheck) fC
  lim : base.NoLimit
  glob : ∃ mg, base.Ns mainGlobals mg ∧ mg "enumerate" = none ∧ mg "len" = none ∧ mg "_iter_escaped_chars" = some (.ref fI) ∧ mg "_strip_quoted_realnames" = some (.ref fS)
  blt : ∃ mb, base.Ns builtinsNs mb ∧ mb "enumerate" = some (.type "enumerate") ∧ mb "len" = some (.builtin "len")

section
variable {prog : Program} {w : World} {A : Around} {E : Value → Shared → Prop} {s : Shared}

theorem callDef1 {env : Env} {f : Str} {p pos : Pos} {e : Expr} {a : Addr} {st : Stmt} {base : Heap} {mg : Str → Option Value} {Q : Value → Shared → Prop} (hk : env.scope.kind = .function) (hx : env.kindOf f = some .globalImplicit)
    (hg : base.Ns env.globals mg) (hv : mg f = some (.ref a)) (fn : FnIs base st a) (hb : ∀ b o, base.get? b = some o → s.heap.get? b = some o)
    (h : wpAny (model prog w) A (eval e env) (fun v s₁ => (∀ b o, base.get? b = some o → s₁.heap.get? b = some o) ∧ wpAny (model prog w) A (call (.ref a) [v]) Q E s₁) E s)
    (hs : starEach [e] env = [(false, eval e env)] := by rfl) (hd : (f == ("__debug__" : Str)) = false := by decide) :
    wpAny (model prog w) A (eval (.Call (.Name f p) [e] [] pos) env) Q E s := by
  obtain ⟨o, fd, h1, h2, _⟩ := fn.out
  refine Call_Name1 (Calls.Name_function_global hk hx (Calls.loadGlobal_global (hg.keeps hb) hv ?_) hd) hs
  refine Calls.callWith_function (o := o) (fd := fd) (Calls.evalArgs_plain (Calls.spliced_cons (wpAny_mono h (fun v s₁ h₁ => Calls.spliced_nil ⟨⟨h₁.1 _ _ h1, h2⟩, h₁.2⟩) fun _ _ e => e)))

/-- the def's own frame -/
theorem enterDef {st : Stmt} {f : Addr} {base : Heap} {n : Str} {v : Value} {Q : Value → Shared → Prop} (hroom : A.depth < recursionLimit) (fn : FnIs base st f) (hl : base.NoLimit) (hb : ∀ b o, base.get? b = some o → s.heap.get? b = some o)
    (hbind : ∀ fd : FuncData, fd.params = defArgs st → fd.defaults = .none → fd.kwdefaults = .none → bindArgs fd ⟨[v], []⟩ = pure [(n, v)])
    (hcell : ∀ y ∈ (defScope st).names, y.2 ≠ .cell) (hloc : (defScope st).names.lookup n = some .local) (hco : (defScope st).isCoroutine = false) (hgen : (defScope st).isGenerator = false) (hk : (defScope st).kind = .function)
    (h : ∀ env h₁, env.scope = defScope st → env.locals = s.heap.objs.size → env.globals = mainGlobals → env.builtins = builtinsNs → interactive env = false →
      h₁.Ns s.heap.objs.size (fun y => if y = n then some v else none) → (∀ b o, s.heap.get? b = some o → h₁.get? b = some o) →
      wpAny (model prog w) (A.deeper env) (execs (defBody st) env) (fun fl s' => Q (match fl with | .ret v => v | _ => .none) s') (fun _ _ => False) { s with heap := h₁, toks := s.toks + 1 }) :
    wpAny (model prog w) A (call (.ref f) [v]) Q E s := by
  obtain ⟨o, fd, h1, h2, h3, h4, h5, h6, h7, h8, h9, h10, h11⟩ := fn.out
  refine wpAny_call (codeAny_call_def (binds := [(n, v)]) hroom (hb _ _ h1) h2 (hl.keeps hb) (h11.keeps hb) h4 (BindsTo.of_eq (hbind fd h5 h9 h10)) (by rw [h3]; exact hcell) (by intro y hy; rw [List.mem_singleton.mp hy, h3]; exact hloc)
    (fun h₁ hn hk₁ => ?_) (by rw [h3]; exact hco) (by rw [h3]; exact hgen) (by rw [h3]; exact hk))
  have e : (fun y : Str => ([(n, v)] : List (Str × Value)).reverse.lookup y) = fun y : Str => if y = n then some v else none := by
    funext y
    by_cases hy : y = n
    · subst hy; simp
    · have : (y == n) = false := by simpa using hy
      simp [List.lookup, this, hy]
  rw [e] at hn
  refine wpAny_mono (h (callEnv fd s.heap.objs.size f) h₁ h3 rfl h7 h8 ?_ hn hk₁) (fun fl s' q => q) fun _ _ q => q.elim
  show interactive (callEnv fd s.heap.objs.size f) = false
  unfold interactive callEnv newEnv
  dsimp only
  rw [h3, hk]
  rfl
end
end Mine
namespace Mine
open PySem

/-- one pair's turn of the scan for quoted names: the start, the open quote's place, the pieces so far -/
def stripStep (x : Str) (st : Nat × Option Nat × List Str) (p : Nat × Str) : Nat × Option Nat × List Str :=
  if p.2 = ⟨#[34]⟩ then
    match st.2.1 with
    | none => (st.1, some p.1, st.2.2)
    | some o => (p.1 + 1, none, if st.1 = o then st.2.2 else st.2.2 ++ [Txt.slice x (some (st.1 : Int)) (some (o : Int))])
  else st
def stripFold (x : Str) (l : List (Nat × Str)) : Nat × Option Nat × List Str := l.foldl (stripStep x) (0, none, [])
def stripOf (x : Str) : Str :=
  if 34 ∈ x.cps.toList then
    let r := stripFold x (escOf x)
    Str.join (Str.ofString "") (if r.1 < x.length then r.2.2 ++ [Txt.slice x (some (r.1 : Int)) none] else r.2.2)
  else x

theorem escGo_len : ∀ (r : List Nat) (i : Nat) (b : Bool), (escGo r i b).length ≤ r.length + 1
  | [], _, true => Nat.le_refl _
  | [], _, false => Nat.zero_le _
  | c :: r, i, true => by
    have := escGo_len r (i + 1) false
    show (escGo r (i + 1) false).length + 1 ≤ r.length + 1 + 1
    omega
  | c :: r, i, false => by
    have h1 := escGo_len r (i + 1) true
    have h2 := escGo_len r (i + 1) false
    show (if c = 92 then escGo r (i + 1) true else (i, ⟨#[c]⟩) :: escGo r (i + 1) false).length ≤ r.length + 1 + 1
    split
    · omega
    · simp only [List.length_cons]; omega
theorem escOf_len (x : Str) : (escOf x).length ≤ x.length + 1 := by
  have := escGo_len x.cps.toList 0 false
  simpa [escOf, Str.length] using this

/-- the pieces are few and short -/
theorem strip_small (x : Str) (p : Nat × Str) (st : Nat × Option Nat × List Str) (n : Nat) (h1 : st.2.2.length ≤ n) (h2 : ∀ y ∈ st.2.2, y.length ≤ x.length) :
    (stripStep x st p).2.2.length ≤ n + 1 ∧ ∀ y ∈ (stripStep x st p).2.2, y.length ≤ x.length := by
  unfold stripStep
  split
  · cases hs : st.2.1 with
    | none => exact ⟨by simp only; omega, h2⟩
    | some o =>
      dsimp only
      split
      · exact ⟨by omega, h2⟩
      · refine ⟨by rw [List.length_append, List.length_singleton]; omega, fun y hy => ?_⟩
        rcases List.mem_append.mp hy with hy | hy
        · exact h2 y hy
        · rw [List.mem_singleton.mp hy]; exact PyProof.Txt.length_slice_le x _ _
  · exact ⟨by omega, h2⟩

theorem sum_small (B : Nat) : ∀ (l : List Str), (∀ y ∈ l, y.length ≤ B) → (l.map (·.length)).sum ≤ l.length * B
  | [], _ => by simp
  | y :: r, h => by
    have h1 := sum_small B r fun z hz => h z (List.mem_cons_of_mem _ hz)
    have h2 := h y List.mem_cons_self
    simp only [List.map_cons, List.sum_cons, List.length_cons]
    rw [Nat.succ_mul]
    omega

structure EnvFor (env : Env) (st : Stmt) (L : Addr) : Prop where
  scope : env.scope = defScope st
  locals : env.locals = L
  globals : env.globals = mainGlobals
  builtins : env.builtins = builtinsNs
  inter : interactive env = false
theorem EnvFor.kindOf {env : Env} {st : Stmt} {L : Addr} (e : EnvFor env st L) {n : Str} {k : NameKind} (h : (defScope st).names.lookup n = some k) : env.kindOf n = some k := by
  unfold Env.kindOf; rw [e.scope]; exact h
theorem EnvFor.kind {env : Env} {st : Stmt} {L : Addr} (e : EnvFor env st L) {k : ScopeKind} (h : (defScope st).kind = k) : env.scope.kind = k := by rw [e.scope]; exact h

def optVal (v : Value) : Option Nat → Prop
  | none => v = .none
  | some o => ∃ t, v = .int o t

/-- what stands between two turns of the scan -/
def StripJ (x : Str) (t : Tok) (toks : List (Nat × Str)) (h₀ : Heap) (D : Addr) (j : Nat) (m : Str → Option Value) (h : Heap) : Prop :=
  (∀ b o, h₀.get? b = some o → h.get? b = some o) ∧ m "addr" = some (.str x t) ∧ m "result" = some (.ref D) ∧
  (∃ t1, m "start" = some (.int (stripFold x (toks.take j)).1 t1)) ∧ (∃ v, m "open_pos" = some v ∧ optVal v (stripFold x (toks.take j)).2.1) ∧
  (∃ items, h.PlainList D items ∧ StrsAre items.toList (stripFold x (toks.take j)).2.2) ∧
  (stripFold x (toks.take j)).2.2.length ≤ j ∧ (∀ y ∈ (stripFold x (toks.take j)).2.2, y.length ≤ x.length)

theorem take_succ_fold {x : Str} {toks : List (Nat × Str)} {j : Nat} {p : Nat × Str} (h : toks[j]? = some p) : stripFold x (toks.take (j + 1)) = stripStep x (stripFold x (toks.take j)) p := by
  have : toks.take (j + 1) = toks.take j ++ [p] := by rw [List.take_succ, h]; rfl
  rw [this]
  unfold stripFold
  rw [List.foldl_append]; rfl

def stripFor : Stmt := nthS (defBody (stmtAt atStrip)) 4
theorem m1 : ¬ (Str.ofString "addr" = Str.ofString "ch") := by decide
theorem m2 : ¬ (Str.ofString "addr" = Str.ofString "open_pos") := by decide
theorem m3 : ¬ (Str.ofString "addr" = Str.ofString "start") := by decide
theorem m4 : ¬ (Str.ofString "result" = Str.ofString "ch") := by decide
theorem m5 : ¬ (Str.ofString "result" = Str.ofString "pos") := by decide
theorem m6 : ¬ (Str.ofString "result" = Str.ofString "open_pos") := by decide
theorem m7 : ¬ (Str.ofString "result" = Str.ofString "start") := by decide
theorem m8 : ¬ (Str.ofString "start" = Str.ofString "ch") := by decide
theorem m9 : ¬ (Str.ofString "start" = Str.ofString "pos") := by decide
theorem m10 : ¬ (Str.ofString "start" = Str.ofString "open_pos") := by decide
theorem m11 : ¬ (Str.ofString "open_pos" = Str.ofString "ch") := by decide
theorem m12 : ¬ (Str.ofString "open_pos" = Str.ofString "pos") := by decide
theorem m13 : ¬ (Str.ofString "open_pos" = Str.ofString "start") := by decide
theorem m14 : ¬ (Str.ofString "addr" = Str.ofString "pos") := by decide
theorem m15 : ¬ (Str.ofString "addr" = Str.ofString "result") := by decide
theorem m16 : ¬ (Str.ofString "start" = Str.ofString "result") := by decide
theorem m17 : ¬ (Str.ofString "open_pos" = Str.ofString "result") := by decide

section
variable {prog : Program} {w : World} {A : Around} {E : Value → Shared → Prop}

/-- one turn of the scan -/
theorem strip_turn {env : Env} {L C D : Addr} {x : Str} {t : Tok} {toks : List (Nat × Str)} {h₀ : Heap} (e : EnvFor env (stmtAt atStrip) L) (hx : x.length ≤ 1000) (hT : toks.length ≤ 1001)
    (hDL : D ≠ L) (hD₀ : h₀.get? D = none) (hDC : D < C) (hLC : L < C) (hL₀ : h₀.get? L = none) {j : Nat} {p : Nat × Str} {tp tc : Tok} {m : Str → Option Value} {s₁ : Shared}
    (hp : toks[j]? = some p) (hJ : StripJ x t toks h₀ D j m s₁.heap) (hn : s₁.heap.Ns L (fun y => if y = "ch" then some (.str p.2 tc) else if y = "pos" then some (.int p.1 tp) else m y)) :
    wpAny (model prog w) A (execs (forBody stripFor) env) (fun f s₂ => (∃ h' tk, s₂ = { s₁ with heap := h', toks := tk } ∧ ∀ b o, C ≤ b → s₁.heap.get? b = some o → h'.get? b = some o) ∧
        match f with | .next => ∃ m₂, s₂.heap.Ns L m₂ ∧ StripJ x t toks h₀ D (j + 1) m₂ s₂.heap | .ret v => False | _ => False) E s₁ := by
  have hk : env.scope.kind = .function := e.kind rfl
  have hch : env.kindOf "ch" = some .local := e.kindOf (by decide)
  obtain ⟨hkeep, hma, hmr, ⟨t1, hms⟩, ⟨v, hmo, hov⟩, ⟨items, hpl, hst⟩, hlen, hsm⟩ := hJ
  rw [← e.locals] at hn
  refine wpAny_execs_cons (wpAny_If (wpAny_isTrue_Compare1 (nm hk hch hn (v := .str p.2 tc) (by simp) (litStr (eq_str (wpAny_truthy_bool ?_))))))
  have hq : Str.ofString "\"" = (⟨#[34]⟩ : Str) := by decide
  rw [hq]
  have keepL : ∀ {h h' : Heap}, (∀ b o, h₀.get? b = some o → h.get? b = some o) → Heap.SameBut L h h' → ∀ b o, h₀.get? b = some o → h'.get? b = some o := fun k hs b o q =>
    hs.extBut b o (fun (z : b = L) => by rw [z, hL₀] at q; cases q) (k b o q)
  have hstep := take_succ_fold (x := x) hp
  by_cases h34 : p.2 = ⟨#[34]⟩
  · rw [if_pos (by rw [h34]; exact beq_self_eq_true _)]
    cases hop : (stripFold x (toks.take j)).2.1 with
    | none =>
      rw [hop] at hov
      cases (hov : v = .none)
      have hst' : stripStep x (stripFold x (toks.take j)) p = ((stripFold x (toks.take j)).1, some p.1, (stripFold x (toks.take j)).2.2) := by
        unfold stripStep; rw [if_pos h34, hop]
      refine wpAny_execs_cons (wpAny_If (wpAny_isTrue_Compare1 (nm hk (e.kindOf (by decide)) hn (v := .none) (by simp [m11, m12, hmo]) (wpAny_pure (wpAny_is_plain rfl (wpAny_truthy_bool ?_))))))
      rw [if_pos (by rfl)]
      refine wpAny_execs_cons (wpAny_Assign_Name (nm hk (e.kindOf (by decide)) hn (v := .int p.1 tp) (by simp [n3]) (wpAny_storeName_local (e.kindOf (by decide)) hn (fun h₂ hn₂ hs₂ => wpAny_execs_nil (wpAny_execs_nil (wpAny_execs_nil ?_))) (plainScope hk))))
      rw [e.locals] at hn₂ hs₂
      refine ⟨⟨h₂, _, rfl, fun b o hb q => hs₂.extBut b o (fun z => Nat.lt_irrefl _ (Nat.lt_of_lt_of_le hLC (z ▸ hb))) q⟩, _, hn₂, ?_⟩
      unfold StripJ
      rw [hstep, hst']
      exact ⟨keepL hkeep hs₂, by simp [m1, m2, m14, hma], by simp [m4, m5, m6, hmr], ⟨t1, by simp [m8, m9, m10, hms]⟩, ⟨.int p.1 tp, by simp, tp, rfl⟩, ⟨items, hpl.at fun o q => hs₂.extBut D o hDL q, hst⟩, by simp only; omega, hsm⟩
    | some o =>
      rw [hop] at hov
      obtain ⟨t2, rfl⟩ := hov
      refine wpAny_execs_cons (wpAny_If (wpAny_isTrue_Compare1 (nm hk (e.kindOf (by decide)) hn (v := .int o t2) (by simp [m11, m12, hmo]) (wpAny_pure (wpAny_is_plain rfl (wpAny_truthy_bool ?_))))))
      rw [if_neg (by simp)]
      have hst' : stripStep x (stripFold x (toks.take j)) p = (p.1 + 1, none, if (stripFold x (toks.take j)).1 = o then (stripFold x (toks.take j)).2.2 else (stripFold x (toks.take j)).2.2 ++ [Txt.slice x (some ((stripFold x (toks.take j)).1 : Int)) (some (o : Int))]) := by
        unfold stripStep; rw [if_pos h34, hop]
      have hsmall := strip_small x p (stripFold x (toks.take j)) j hlen hsm
      rw [hst'] at hsmall
      have hjn : j < toks.length := (List.getElem?_eq_some_iff.mp hp).1
      refine wpAny_execs_cons (wpAny_mono (Q := fun f s₂ => f = .next ∧ ∃ h₃ tk₃ items', s₂ = { s₁ with heap := h₃, toks := tk₃ } ∧ (∀ b o, h₀.get? b = some o → h₃.get? b = some o) ∧ (∀ b o, C ≤ b → s₁.heap.get? b = some o → h₃.get? b = some o) ∧
        h₃.Ns env.locals (fun y => if y = "ch" then some (.str p.2 tc) else if y = "pos" then some (.int p.1 tp) else m y) ∧ h₃.PlainList D items' ∧ StrsAre items'.toList (stripStep x (stripFold x (toks.take j)) p).2.2) ?_ (fun f s₂ hf => ?_) fun _ _ q => q)
      · refine wpAny_If (wpAny_isTrue_Compare1 (nm hk (e.kindOf (by decide)) hn (v := .int (stripFold x (toks.take j)).1 t1) (by simp [m8, m9, hms]) (nm hk (e.kindOf (by decide)) hn (v := .int o t2) (by simp [m11, m12, hmo]) (ne_int (wpAny_truthy_bool ?_)))))
        rw [hst']
        by_cases hso : (stripFold x (toks.take j)).1 = o
        · rw [if_neg (by simp [hso]), if_pos hso]
          exact wpAny_execs_nil ⟨rfl, s₁.heap, _, items, rfl, hkeep, fun _ _ _ q => q, hn, hpl, hst⟩
        · rw [if_pos (by simp; omega), if_neg hso]
          refine wpAny_execs_cons (wpAny_Expr ?_ e.inter)
          refine wpAny_Call_append rfl rfl rfl rfl (nm hk (e.kindOf (by decide)) hn (v := .ref D) (by simp [m4, m5, hmr]) ⟨D, items, rfl, ?_, ?_⟩)
          · obtain ⟨n, hn'⟩ := hpl
            exact ⟨_, n, hn', rfl, rfl, rfl⟩
          refine Subscript_ (nm hk (e.kindOf (by decide)) hn (v := .str x t) (by simp [m1, m14, hma]) (wpAny_Slice (nm hk (e.kindOf (by decide)) hn (v := .int (stripFold x (toks.take j)).1 t1) (by simp [m8, m9, hms]) (nm hk (e.kindOf (by decide)) hn (v := .int o t2) (by simp [m11, m12, hmo]) (wpAny_pure ?_)))))
          refine tail_of_ItemOn (SBH.sliceItem_ss (P := fun h => ∀ b o, s₁.heap.get? b = some o → h.get? b = some o) (fun h ob kk b o q => Heap.get?_push_of_some _ (kk b o q)) (fun _ _ q => q) (fun h' t' k' hk' => ?_) (by have := sizeLine_eq; omega))
            (by with_unfolding_all rfl) (by intro _; with_unfolding_all rfl)
          refine wpAny_list_append_plain (hpl.at fun o q => hk' D o q) (fun h₃ hpl₃ hs₃ => ?_) (by
            have h1 := hst.len_eq
            have h2 : items.toList.length = items.size := by simp
            have := sizeLine_eq; omega)
          replace hs₃ : Heap.SameBut D h' h₃ := hs₃
          refine wpAny_execs_nil ⟨rfl, h₃, _, _, rfl, fun b o q => hs₃.extBut b o (fun z => by rw [z, hD₀] at q; cases q) (hk' b o (hkeep b o q)), fun b o hb q => hs₃.extBut b o (fun z => Nat.lt_irrefl _ (Nat.lt_of_lt_of_le hDC (z ▸ hb))) (hk' b o q),
            (hn.at' fun o q => hs₃.extBut _ o (fun z => hDL (z.symm.trans e.locals)) (hk' _ o q)), hpl₃, ?_⟩
          rw [Array.toList_push]
          exact hst.append' (.cons _ _ .nil)
      · obtain ⟨rfl, h₃, tk₃, items', rfl, hk₃, hC₃, hn₃, hpl₃, hst₃⟩ := hf
        refine wpAny_execs_cons (wpAny_Assign_Name (wpAny_BinOp (nm hk (e.kindOf (by decide)) hn₃ (v := .int p.1 tp) (by simp [n3]) (wpAny_Constant_int (add_int (wpAny_storeName_local (e.kindOf (by decide)) hn₃ (fun h₄ hn₄ hs₄ => ?_) (plainScope hk)))))))
        replace hs₄ : Heap.SameBut L h₃ h₄ := e.locals ▸ hs₄
        refine wpAny_execs_cons (wpAny_Assign_Name (wpAny_pure (wpAny_storeName_local (e.kindOf (by decide)) hn₄ (fun h₅ hn₅ hs₅ => wpAny_execs_nil (wpAny_execs_nil (wpAny_execs_nil ?_))) (plainScope hk))))
        replace hs₅ : Heap.SameBut L h₄ h₅ := e.locals ▸ hs₅
        rw [e.locals] at hn₅
        have hC : ∀ b, C ≤ b → b ≠ L := fun b hb z => Nat.lt_irrefl _ (Nat.lt_of_lt_of_le hLC (z ▸ hb))
        refine ⟨⟨h₅, _, rfl, fun b o hb q => hs₅.extBut b o (hC b hb) (hs₄.extBut b o (hC b hb) (hC₃ b o hb q))⟩, _, hn₅, ?_⟩
        unfold StripJ
        rw [hstep]
        rw [hst'] at hst₃ ⊢
        refine ⟨keepL (keepL hk₃ hs₄) hs₅, by simp [m1, m2, m3, m14, hma], by simp [m4, m5, m6, m7, hmr], ⟨_, by simp [m10]; rfl⟩, ⟨.none, by simp, rfl⟩, ⟨items', (hpl₃.at fun o q => hs₄.extBut D o hDL q).at fun o q => hs₅.extBut D o hDL q, hst₃⟩, hsmall.1, hsmall.2⟩
  · rw [if_neg (by simp [h34])]
    have hst' : stripStep x (stripFold x (toks.take j)) p = stripFold x (toks.take j) := by
      unfold stripStep; rw [if_neg h34]
    refine wpAny_execs_nil (wpAny_execs_nil ⟨⟨s₁.heap, _, rfl, fun _ _ _ e => e⟩, _, e.locals ▸ hn, ?_⟩)
    unfold StripJ
    rw [hstep, hst']
    exact ⟨hkeep, by simp [m1, m14, hma], by simp [m4, m5, hmr], ⟨t1, by simp [m8, m9, hms]⟩, ⟨v, by simp [m11, m12, hmo], hov⟩, ⟨items, hpl, hst⟩, by omega, hsm⟩
end
end Mine
namespace Mine
open PySem

section
variable {prog : Program} {w : World} {A : Around} {E : Value → Shared → Prop} {s : Shared}

set_option maxHeartbeats 4000000 in
theorem call_strip {base : Heap} {fI fS fC : Addr} {x : Str} {t : Tok} {Q : Value → Shared → Prop} (N : Names base fI fS fC) (hb : ∀ b o, base.get? b = some o → s.heap.get? b = some o) (hh : A.handled = none) (hroom : A.depth + 1 < recursionLimit)
    (hx : x.length ≤ 1000) (h : ∀ t' s', Ext s s' → Q (.str (stripOf x) t') s') : wpAny (model prog w) A (call (.ref fS) [.str x t]) Q E s := by
  refine enterDef (n := "addr") (Nat.lt_of_succ_lt hroom) N.strip N.lim hb ?_ (by decide) (by decide) rfl rfl rfl fun env h₁ e1 e2 e3 e4 e5 hn hk₁ => ?_
  · rintro ⟨name, qualname, params, body, scope, globals, closure, defaults, kwdefaults, doc, pyModule, anns, code, closureTuple, builtins⟩ h1 h2 h3
    dsimp only at h1 h2 h3
    subst h1 h2 h3
    rfl
  have e : EnvFor env (stmtAt atStrip) s.heap.objs.size := ⟨e1, e2, e3, e4, e5⟩
  have hk : env.scope.kind = .function := e.kind rfl
  have hh' : (A.deeper env).handled = none := hh
  have hroom' : (A.deeper env).depth < recursionLimit := hroom
  have hnL : h₁.Ns env.locals (fun y => if y = "addr" then some (.str x t) else none) := by rw [e2]; exact hn
  have hL₀ : s.heap.get? env.locals = none := by rw [e2]; exact getAbove _
  have hbL : ∀ b o, s.heap.get? b = some o → b ≠ env.locals := fun b o q z => by rw [z, hL₀] at q; cases q
  refine wpAny_execs_cons (wpAny_If (wpAny_isTrue_Compare1 (litStr (nm hk (e.kindOf (by decide)) hnL (v := .str x t) (by simp) (notIn_str (wpAny_truthy_bool ?_))))))
  rw [show Str.ofString "\"" = (⟨#[34]⟩ : Str) from by decide, StrLaws.found_one]
  by_cases h34 : 34 ∈ x.cps.toList
  · rw [if_neg (by simp [h34])]
    have hres : stripOf x = Str.join (Str.ofString "") (if (stripFold x (escOf x)).1 < x.length then (stripFold x (escOf x)).2.2 ++ [Txt.slice x (some ((stripFold x (escOf x)).1 : Int)) none] else (stripFold x (escOf x)).2.2) := by
      unfold stripOf; rw [if_pos h34]
    refine wpAny_execs_nil (wpAny_execs_cons (wpAny_Assign_Name (wpAny_Constant_int (wpAny_storeName_local (e.kindOf (by decide)) hnL (fun h₂ hn₂ hs₂ => ?_) (plainScope hk)))))
    replace hs₂ : Heap.SameBut env.locals h₁ h₂ := hs₂
    refine wpAny_execs_cons (wpAny_Assign_Name (wpAny_pure (wpAny_storeName_local (e.kindOf (by decide)) hn₂ (fun h₃ hn₃ hs₃ => ?_) (plainScope hk))))
    replace hs₃ : Heap.SameBut env.locals h₂ h₃ := hs₃
    refine wpAny_execs_cons (wpAny_Assign_Name (wpAny_List_spliced (Calls.spliced_nil ⟨Nat.zero_le _, wpAny_storeName_local (e.kindOf (by decide)) (hn₃.push _) (fun h₄ hn₄ hs₄ => ?_) (plainScope hk)⟩)))
    replace hs₄ : Heap.SameBut env.locals (h₃.push { cls := .type "list", data := .seq ([] : List Value).toArray }) h₄ := hs₄
    have hD₄ : h₄.PlainList h₃.objs.size #[] := by
      refine ⟨0, hs₄.extBut _ _ (fun z => ?_) (Heap.get?_push_size _ rfl)⟩
      exact Nat.lt_irrefl _ (z ▸ hn₃.lt)
    have up₃ : ∀ b o, s.heap.get? b = some o → h₃.get? b = some o := fun b o q => hs₃.extBut b o (hbL b o q) (hs₂.extBut b o (hbL b o q) (hk₁ b o q))
    have up₄ : ∀ b o, s.heap.get? b = some o → h₄.get? b = some o := fun b o q => hs₄.extBut b o (hbL b o q) (Heap.get?_push_of_some _ (up₃ b o q))
    have hb₄ : ∀ b o, base.get? b = some o → h₄.get? b = some o := fun b o q => up₄ b o (hb b o q)
    have hDL : h₃.objs.size ≠ env.locals := Nat.ne_of_gt hn₃.lt
    have hDC : h₃.objs.size < h₄.objs.size := by rw [hs₄.1, Heap.size_push]; exact Nat.lt_succ_self _
    have hLC : env.locals < h₄.objs.size := hn₄.lt
    have hD₀ : s.heap.get? h₃.objs.size = none := by
      cases q : s.heap.get? h₃.objs.size with
      | none => rfl
      | some o => exact absurd (Heap.lt_size (up₃ _ _ q)) (Nat.lt_irrefl _)
    obtain ⟨mg, hg, hg1, hg2, hg3, hg4⟩ := N.glob
    obtain ⟨mb, hbl, hbl1, hbl2⟩ := N.blt
    refine wpAny_execs_cons (wpAny_For (callDef1 hk (e.kindOf (by decide)) (e3 ▸ hg) hg3 N.iter hb₄ (nm hk (e.kindOf (by decide)) hn₄ (v := .str x t) (by simp [m2, m3, m15]) ⟨hb₄, call_esc hh' hroom' N.iter N.lim hb₄ ⟨mg, hg, hg1⟩ ⟨mb, hbl, hbl1⟩ fun s₅ hgen hk₅ hos₅ hgs₅ => ?_⟩)))
    have st₅ := hgen (A.deeper env) hh'
    refine wpAny_pyIter_gen st₅.1 ?_
    replace hk₅ : ∀ b o, h₄.get? b = some o → s₅.heap.get? b = some o := hk₅
    refine loop_gen hh' hroom' N.lim (fun b o q => Heap.lt_size (hb₄ b o q)) hLC (fun b o q => hbL b o (hb b o q)) hk (e.kindOf (by decide)) (e.kindOf (by decide)) (StripJ x t (escOf x) s.heap h₃.objs.size) (fun _ _ => False)
      ?_ (fun j m h q => fun b o z => q.1 b o (hb b o z)) ?_ (fun _ _ q => q.elim) ?_ st₅ (hn₄.at' fun o q => hk₅ _ o q) ?_
    · rintro j m h h' ⟨q1, q2, q3, q4, q5, ⟨items, q6, q7⟩, q8⟩ hkk
      exact ⟨fun b o z => hkk b o (Heap.lt_size (up₄ b o z)) (hbL b o z) (q1 b o z), q2, q3, q4, q5, ⟨items, q6.at fun o z => hkk _ o hDC hDL z, q7⟩, q8⟩
    · intro j p tp tc m s₁ hp hJ hn₁
      have := strip_turn (E := notedBy (model prog w) (A.deeper env) env fun e s' => cameBackBy (model prog w) (A.deeper env) env (fun _ _ => False) e s') (A := A.deeper env) (prog := prog) (w := w) e hx (Nat.le_trans (escOf_len x) (by omega)) (e2 ▸ hDL) hD₀ hDC (e2 ▸ hLC) (e2 ▸ hL₀) hp hJ (e2 ▸ hn₁)
      rw [← e2] at this
      exact this
    · intro m' s' hn' hJ hos hbare
      obtain ⟨q1, q2, q3, ⟨t1, q4⟩, ⟨v, q5, _⟩, ⟨items, q6, q7⟩, q8, q9⟩ := hJ
      rw [List.take_length] at q4 q7 q8 q9
      have hb' : ∀ b o, base.get? b = some o → s'.heap.get? b = some o := fun b o q => q1 b o (hb b o q)
      have hlen := escOf_len x
      show wpAny _ _ (execs _ env) _ _ _
      refine wpAny_execs_cons (wpAny_mono (Q := fun f s₂ => f = .next ∧ ∃ h₆ tk₆ items', s₂ = { s' with heap := h₆, toks := tk₆ } ∧ (∀ b o, s.heap.get? b = some o → h₆.get? b = some o) ∧ h₆.Ns env.locals m' ∧ h₆.PlainList h₃.objs.size items' ∧
        StrsAre items'.toList (if (stripFold x (escOf x)).1 < x.length then (stripFold x (escOf x)).2.2 ++ [Txt.slice x (some ((stripFold x (escOf x)).1 : Int)) none] else (stripFold x (escOf x)).2.2)) ?_ (fun f s₂ hf => ?_) fun _ _ q => q)
      · refine wpAny_If (wpAny_isTrue_Compare1 (nm hk (e.kindOf (by decide)) hn' q4 (Call_Name1 (Calls.Name_function_global hk (e.kindOf (by decide)) (Calls.loadGlobal_builtin (e3 ▸ hg.keeps hb') hg2 (e4 ▸ hbl.keeps hb') hbl2
          (Calls.callWith_builtin rfl (Calls.evalArgs_plain (Calls.spliced_cons (nm hk (e.kindOf (by decide)) hn' q2 (Calls.spliced_nil (len_str (by omega) (lt_int (wpAny_truthy_bool ?_)))))))))))))
        by_cases hlt : (stripFold x (escOf x)).1 < x.length
        · rw [if_pos (by simp; omega), if_pos hlt]
          refine wpAny_execs_cons (wpAny_Expr ?_ e.inter)
          refine wpAny_Call_append rfl rfl rfl rfl (nm hk (e.kindOf (by decide)) hn' q3 ⟨_, items, rfl, ?_, ?_⟩)
          · obtain ⟨n, hn'⟩ := q6
            exact ⟨_, n, hn', rfl, rfl, rfl⟩
          refine Subscript_ (nm hk (e.kindOf (by decide)) hn' q2 (wpAny_Slice (nm hk (e.kindOf (by decide)) hn' q4 (wpAny_pure (wpAny_pure ?_)))))
          refine tail_of_ItemOn (SBH.sliceItem_sn (P := fun h => ∀ b o, s'.heap.get? b = some o → h.get? b = some o) (fun h ob kk b o q => Heap.get?_push_of_some _ (kk b o q)) (fun _ _ q => q) (fun h' t' k' hk' => ?_) (by have := sizeLine_eq; omega))
            (by with_unfolding_all rfl) (by intro _; with_unfolding_all rfl)
          refine wpAny_list_append_plain (q6.at fun o q => hk' _ o q) (fun h₆ hpl₆ hs₆ => ?_) (by
            have h1 := q7.len_eq
            have h2 : items.toList.length = items.size := by simp
            have := sizeLine_eq; omega)
          replace hs₆ : Heap.SameBut h₃.objs.size h' h₆ := hs₆
          refine wpAny_execs_nil ⟨rfl, h₆, _, _, rfl, fun b o q => hs₆.extBut b o (fun z => by rw [z, hD₀] at q; cases q) (hk' b o (q1 b o q)), (hn'.at' fun o q => hs₆.extBut _ o (Ne.symm hDL) (hk' _ o q)), hpl₆, ?_⟩
          rw [Array.toList_push]
          exact q7.append' (.cons _ _ .nil)
        · rw [if_neg (by simp; omega), if_neg hlt]
          exact wpAny_execs_nil ⟨rfl, s'.heap, _, items, rfl, q1, hn', q6, q7⟩
      · obtain ⟨rfl, h₆, tk₆, items', rfl, q1', hn₆, hpl₆, hst₆⟩ := hf
        refine wpAny_execs_cons (wpAny_Return_some (Call_method1 rfl rfl rfl (litStr ?_)))
        refine ⟨"str", "str.join", F.plainAttrs_str, F.slot_str_join, F.type_str_join, typeIs_str _ _ _, (fun _ e => nomatch e), ?_⟩
        refine Calls.callWith_builtin rfl (Calls.evalArgs_plain (Calls.spliced_cons (nm hk (e.kindOf (by decide)) hn₆ q3 (Calls.spliced_nil ?_))))
        have hys : ∀ y ∈ (if (stripFold x (escOf x)).1 < x.length then (stripFold x (escOf x)).2.2 ++ [Txt.slice x (some ((stripFold x (escOf x)).1 : Int)) none] else (stripFold x (escOf x)).2.2), y.length ≤ 1000 := by
          intro y hy
          split at hy
          · rcases List.mem_append.mp hy with hy | hy
            · exact Nat.le_trans (q9 y hy) hx
            · rw [List.mem_singleton.mp hy]; exact Nat.le_trans (PyProof.Txt.length_slice_le x _ _) hx
          · exact Nat.le_trans (q9 y hy) hx
        have hys2 : (if (stripFold x (escOf x)).1 < x.length then (stripFold x (escOf x)).2.2 ++ [Txt.slice x (some ((stripFold x (escOf x)).1 : Int)) none] else (stripFold x (escOf x)).2.2).length ≤ 1002 := by
          split
          · rw [List.length_append, List.length_singleton]; omega
          · omega
        refine join_list (ys := if (stripFold x (escOf x)).1 < x.length then (stripFold x (escOf x)).2.2 ++ [Txt.slice x (some ((stripFold x (escOf x)).1 : Int)) none] else (stripFold x (escOf x)).2.2) hpl₆.isList hst₆ ?_ fun t' k' => ?_
        · have h1 := sum_small 1000 _ hys
          have h0 : (Str.ofString "").length = 0 := by decide
          rw [h0, Nat.mul_zero, Nat.add_zero]
          exact Nat.le_trans h1 (by omega)
        · have h' := h t' { s' with heap := h₆, toks := k' } ⟨q1', hos.trans hos₅, fun q => hbare (by obtain ⟨gs, hb1, hb2⟩ := hgs₅; rw [hb2]; exact AllBare.push q hb1)⟩
          rw [hres, ← PySem.StrLaws.glued_eq_join] at h'
          exact h'
    · refine ⟨fun b o q => hk₅ b o (up₄ b o q), by simp [m2, m3, m15], by simp, ⟨_, by simp [m10, m16, stripFold]; rfl⟩, ⟨.none, by simp [m17], rfl⟩, ⟨#[], hD₄.at fun o q => hk₅ _ o q, .nil⟩, Nat.zero_le _, fun y hy => nomatch hy⟩
  · rw [if_pos (by simp [h34])]
    refine wpAny_execs_cons (wpAny_Return_some (nm hk (e.kindOf (by decide)) hnL (v := .str x t) (by simp) ?_))
    have : stripOf x = x := by unfold stripOf; rw [if_neg h34]
    have h' := h t { s with heap := h₁, toks := s.toks + 1 + 1 } (Ext.of_heap hk₁)
    rw [this] at h'
    exact h'
end
end Mine
namespace Mine
open PySem

/-- the count of open brackets along the pairs -/
def chkGo : List (Nat × Str) → Int → Bool
  | [], n => n == 0
  | p :: r, n => if p.2 = ⟨#[40]⟩ then chkGo r (n + 1) else if p.2 = ⟨#[41]⟩ then (if n - 1 < 0 then false else chkGo r (n - 1)) else chkGo r n
/-- what the check answers -/
def chk (x : Str) : Bool := chkGo (escOf (stripOf x)) 0

def ChkJ (toks : List (Nat × Str)) (h₀ : Heap) (j : Nat) (m : Str → Option Value) (h : Heap) : Prop :=
  (∀ b o, h₀.get? b = some o → h.get? b = some o) ∧ ∃ n t, m "opens" = some (.int n t) ∧ chkGo (toks.drop j) n = chkGo toks 0
def ChkZ (toks : List (Nat × Str)) (h₀ : Heap) (v : Value) (h : Heap) : Prop := (∀ b o, h₀.get? b = some o → h.get? b = some o) ∧ v = .bool (chkGo toks 0)

def chkFor : Stmt := nthS (defBody (stmtAt atCheck)) 2
theorem k1 : ¬ (Str.ofString "opens" = Str.ofString "ch") := by decide
theorem k2 : ¬ (Str.ofString "opens" = Str.ofString "pos") := by decide
theorem k3 : ¬ (Str.ofString "addr" = Str.ofString "opens") := by decide

section
variable {prog : Program} {w : World} {A : Around} {E : Value → Shared → Prop} {s : Shared}

theorem chk_turn {env : Env} {L C : Addr} {toks : List (Nat × Str)} {h₀ : Heap} (e : EnvFor env (stmtAt atCheck) L) (hLC : L < C) (hL₀ : h₀.get? L = none) {j : Nat} {p : Nat × Str} {tp tc : Tok} {m : Str → Option Value} {s₁ : Shared}
    (hp : toks[j]? = some p) (hJ : ChkJ toks h₀ j m s₁.heap) (hn : s₁.heap.Ns L (fun y => if y = "ch" then some (.str p.2 tc) else if y = "pos" then some (.int p.1 tp) else m y)) :
    wpAny (model prog w) A (execs (forBody chkFor) env) (fun f s₂ => (∃ h' tk, s₂ = { s₁ with heap := h', toks := tk } ∧ ∀ b o, C ≤ b → s₁.heap.get? b = some o → h'.get? b = some o) ∧
        match f with | .next => ∃ m₂, s₂.heap.Ns L m₂ ∧ ChkJ toks h₀ (j + 1) m₂ s₂.heap | .ret v => ChkZ toks h₀ v s₂.heap | _ => False) E s₁ := by
  have hk : env.scope.kind = .function := e.kind rfl
  have hch : env.kindOf "ch" = some .local := e.kindOf (by decide)
  have hop : env.kindOf "opens" = some .local := e.kindOf (by decide)
  obtain ⟨hkeep, n, t, hmo, hgo⟩ := hJ
  have hd : toks.drop j = p :: toks.drop (j + 1) := by
    have hlt : j < toks.length := (List.getElem?_eq_some_iff.mp hp).1
    rw [List.drop_eq_getElem_cons hlt]
    congr 1
    rw [List.getElem?_eq_getElem hlt] at hp
    exact Option.some.inj hp
  rw [hd] at hgo
  have hcons : ∀ r n, chkGo (p :: r) n = if p.2 = ⟨#[40]⟩ then chkGo r (n + 1) else if p.2 = ⟨#[41]⟩ then (if n - 1 < 0 then false else chkGo r (n - 1)) else chkGo r n := fun _ _ => rfl
  rw [hcons] at hgo
  rw [← e.locals] at hn
  have hC : ∀ b, C ≤ b → b ≠ L := fun b hb z => Nat.lt_irrefl _ (Nat.lt_of_lt_of_le hLC (z ▸ hb))
  have keepL : ∀ {h h' : Heap}, (∀ b o, h₀.get? b = some o → h.get? b = some o) → Heap.SameBut L h h' → ∀ b o, h₀.get? b = some o → h'.get? b = some o := fun k hs b o q =>
    hs.extBut b o (fun (z : b = L) => by rw [z, hL₀] at q; cases q) (k b o q)
  refine wpAny_execs_cons (wpAny_If (wpAny_isTrue_Compare1 (nm hk hch hn (v := .str p.2 tc) (by simp) (litStr (eq_str (wpAny_truthy_bool ?_))))))
  rw [show Str.ofString "(" = (⟨#[40]⟩ : Str) from by decide]
  by_cases h40 : p.2 = ⟨#[40]⟩
  · rw [if_pos h40] at hgo
    rw [if_pos (by rw [h40]; exact beq_self_eq_true _)]
    refine wpAny_execs_cons (wpAny_AugAssign_Name (wpAny_loadName_local hk hop hn (v := .int n t) (by simp [k1, k2, hmo]) (wpAny_Constant_int (iadd_int (wpAny_storeName_local hop hn (fun h₂ hn₂ hs₂ => wpAny_execs_nil (wpAny_execs_nil ?_)) (plainScope hk))))))
    rw [e.locals] at hn₂ hs₂
    exact ⟨⟨h₂, _, rfl, fun b o hb q => hs₂.extBut b o (hC b hb) q⟩, _, hn₂, keepL hkeep hs₂, n + 1, _, by simp; rfl, hgo⟩
  · rw [if_neg h40] at hgo
    rw [if_neg (by simp [h40])]
    refine wpAny_execs_cons (wpAny_If (wpAny_isTrue_Compare1 (nm hk hch hn (v := .str p.2 tc) (by simp) (litStr (eq_str (wpAny_truthy_bool ?_))))))
    rw [show Str.ofString ")" = (⟨#[41]⟩ : Str) from by decide]
    by_cases h41 : p.2 = ⟨#[41]⟩
    · rw [if_pos h41] at hgo
      rw [if_pos (by rw [h41]; exact beq_self_eq_true _)]
      refine wpAny_execs_cons (wpAny_AugAssign_Name (wpAny_loadName_local hk hop hn (v := .int n t) (by simp [k1, k2, hmo]) (wpAny_Constant_int (isub_int (wpAny_storeName_local hop hn (fun h₂ hn₂ hs₂ => ?_) (plainScope hk))))))
      replace hs₂ : Heap.SameBut L s₁.heap h₂ := e.locals ▸ hs₂
      refine wpAny_execs_cons (wpAny_If (wpAny_isTrue_Compare1 (nm hk hop hn₂ (v := .int (n - 1) _) (by simp; rfl) (wpAny_Constant_int (lt_int (wpAny_truthy_bool ?_))))))
      rw [e.locals] at hn₂
      by_cases hneg : n - 1 < 0
      · rw [if_pos hneg] at hgo
        rw [if_pos (by simpa using hneg)]
        refine wpAny_execs_cons (wpAny_Return_some (wpAny_pure ?_))
        exact ⟨⟨h₂, _, rfl, fun b o hb q => hs₂.extBut b o (hC b hb) q⟩, keepL hkeep hs₂, by rw [← hgo]⟩
      · rw [if_neg hneg] at hgo
        rw [if_neg (by simpa using hneg)]
        refine wpAny_execs_nil (wpAny_execs_nil (wpAny_execs_nil (wpAny_execs_nil ?_)))
        exact ⟨⟨h₂, _, rfl, fun b o hb q => hs₂.extBut b o (hC b hb) q⟩, _, hn₂, keepL hkeep hs₂, n - 1, _, by simp; rfl, hgo⟩
    · rw [if_neg h41] at hgo
      rw [if_neg (by simp [h41])]
      refine wpAny_execs_nil (wpAny_execs_nil (wpAny_execs_nil ?_))
      exact ⟨⟨s₁.heap, _, rfl, fun _ _ _ q => q⟩, _, e.locals ▸ hn, hkeep, n, t, by simp [k1, k2, hmo], hgo⟩

set_option maxHeartbeats 4000000 in
theorem call_check {base : Heap} {fI fS fC : Addr} {x : Str} {t : Tok} {Q : Value → Shared → Prop} (N : Names base fI fS fC) (hb : ∀ b o, base.get? b = some o → s.heap.get? b = some o) (hh : A.handled = none) (hroom : A.depth + 2 < recursionLimit)
    (hx : x.length ≤ 1000) (h : ∀ s', Ext s s' → Q (.bool (chk x)) s') : wpAny (model prog w) A (call (.ref fC) [.str x t]) Q E s := by
  refine enterDef (n := "addr") (by omega) N.check N.lim hb ?_ (by decide) (by decide) rfl rfl rfl fun env h₁ e1 e2 e3 e4 e5 hn hk₁ => ?_
  · rintro ⟨name, qualname, params, body, scope, globals, closure, defaults, kwdefaults, doc, pyModule, anns, code, closureTuple, builtins⟩ h1 h2 h3
    dsimp only at h1 h2 h3
    subst h1 h2 h3
    rfl
  have e : EnvFor env (stmtAt atCheck) s.heap.objs.size := ⟨e1, e2, e3, e4, e5⟩
  have hk : env.scope.kind = .function := e.kind rfl
  have hh' : (A.deeper env).handled = none := hh
  have hroom' : (A.deeper env).depth + 1 < recursionLimit := hroom
  have hroom'' : (A.deeper env).depth < recursionLimit := Nat.lt_of_succ_lt hroom'
  have hnL : h₁.Ns env.locals (fun y => if y = "addr" then some (.str x t) else none) := by rw [e2]; exact hn
  have hL₀ : s.heap.get? env.locals = none := by rw [e2]; exact getAbove _
  have hbL : ∀ b o, s.heap.get? b = some o → b ≠ env.locals := fun b o q z => by rw [z, hL₀] at q; cases q
  obtain ⟨mg, hg, hg1, hg2, hg3, hg4⟩ := N.glob
  obtain ⟨mb, hbl, hbl1, hbl2⟩ := N.blt
  have hb₁ : ∀ b o, base.get? b = some o → h₁.get? b = some o := fun b o q => hk₁ b o (hb b o q)
  have hop : env.kindOf "opens" = some .local := e.kindOf (by decide)
  refine wpAny_execs_cons (wpAny_Assign_Name (callDef1 hk (e.kindOf (by decide)) (e3 ▸ hg) hg4 N.strip hb₁ (nm hk (e.kindOf (by decide)) hnL (v := .str x t) (by simp) ⟨hb₁, call_strip N hb₁ hh' hroom' hx fun t' s₂ x₂ => ?_⟩)))
  have hn₂ : s₂.heap.Ns env.locals (fun y => if y = "addr" then some (.str x t) else none) := hnL.at' fun o q => x₂.keep _ o q
  have hk₂ : ∀ b o, s.heap.get? b = some o → s₂.heap.get? b = some o := fun b o q => x₂.keep b o (hk₁ b o q)
  have hos₂ : s₂.os = s.os := x₂.os
  have hbare₂ : AllBare s.gens → AllBare s₂.gens := x₂.bare
  refine wpAny_storeName_local (e.kindOf (by decide)) hn₂ (fun h₃ hn₃ hs₃ => ?_) (plainScope hk)
  refine wpAny_execs_cons (wpAny_Assign_Name (wpAny_Constant_int (wpAny_storeName_local hop hn₃ (fun h₄ hn₄ hs₄ => ?_) (plainScope hk))))
  replace hs₄ : Heap.SameBut env.locals h₃ h₄ := hs₄
  have up₄ : ∀ b o, s.heap.get? b = some o → h₄.get? b = some o := fun b o q => hs₄.extBut b o (hbL b o q) (hs₃.extBut b o (hbL b o q) (hk₂ b o q))
  have hb₄ : ∀ b o, base.get? b = some o → h₄.get? b = some o := fun b o q => up₄ b o (hb b o q)
  have hLC : env.locals < h₄.objs.size := hn₄.lt
  refine wpAny_execs_cons (wpAny_For (callDef1 hk (e.kindOf (by decide)) (e3 ▸ hg) hg3 N.iter hb₄ (nm hk (e.kindOf (by decide)) hn₄ (v := .str (stripOf x) t') (by simp [k3]) ⟨hb₄, call_esc hh' hroom'' N.iter N.lim hb₄ ⟨mg, hg, hg1⟩ ⟨mb, hbl, hbl1⟩ fun s₅ hgen hk₅ hos₅ hgs₅ => ?_⟩)))
  have st₅ := hgen (A.deeper env) hh'
  refine wpAny_pyIter_gen st₅.1 ?_
  replace hk₅ : ∀ b o, h₄.get? b = some o → s₅.heap.get? b = some o := hk₅
  have hos : s₅.os = s.os := hos₅.trans hos₂
  have hbare : AllBare s.gens → AllBare s₅.gens := fun q => by
    obtain ⟨gs, hb1, hb2⟩ := hgs₅
    rw [hb2]
    exact AllBare.push (hbare₂ q) hb1
  refine loop_gen hh' hroom'' N.lim (fun b o q => Heap.lt_size (hb₄ b o q)) hLC (fun b o q => hbL b o (hb b o q)) hk (e.kindOf (by decide)) (e.kindOf (by decide)) (ChkJ (escOf (stripOf x)) s.heap) (ChkZ (escOf (stripOf x)) s.heap)
    ?_ (fun j m h q => fun b o z => q.1 b o (hb b o z)) ?_ ?_ ?_ st₅ (hn₄.at' fun o q => hk₅ _ o q) ?_
  · rintro j m h h' ⟨q1, q2⟩ hkk
    exact ⟨fun b o z => hkk b o (Heap.lt_size (up₄ b o z)) (hbL b o z) (q1 b o z), q2⟩
  · intro j p tp tc m s₁ hp hJ hn₁
    have := chk_turn (E := notedBy (model prog w) (A.deeper env) env fun e s' => cameBackBy (model prog w) (A.deeper env) env (fun _ _ => False) e s') (A := A.deeper env) (prog := prog) (w := w) e (e2 ▸ hLC) (e2 ▸ hL₀) hp hJ (e2 ▸ hn₁)
    rw [← e2] at this
    exact this
  · rintro v s' ⟨q1, rfl⟩ q3 q4
    exact h s' ⟨q1, q3.trans hos, fun z => q4 (hbare z)⟩
  · rintro m' s' hn' ⟨q1, n, tn, q2, q3⟩ hos' hbare'
    rw [List.drop_length] at q3
    show wpAny _ _ (execs _ env) _ _ _
    refine wpAny_execs_cons (wpAny_Return_some (wpAny_Compare1 (nm hk hop hn' q2 (wpAny_Constant_int (eq_int ?_)))))
    have h' := h { s' with toks := s'.toks + 1 } ⟨q1, hos'.trans hos, fun z => hbare' (hbare z)⟩
    have : (n == 0) = chk x := q3
    rw [← this] at h'
    exact h'
  · exact ⟨fun b o q => hk₅ b o (up₄ b o q), 0, _, by simp; rfl, rfl⟩
end
end Mine
namespace Mine
open PySem

/-- the figures to the base 16, the last one first to be laid -/
def apF : Nat → Nat → List UInt8 → List UInt8
  | 0, _, acc => acc
  | f + 1, n, acc => if n = 0 then acc else apF f (n / 16) ((65 + n % 16).toUInt8 :: acc)
def ap (n : Nat) : List UInt8 := apF 64 n []

def apAlpha : Array UInt8 := #[65, 66, 67, 68, 69, 70, 71, 72, 73, 74, 75, 76, 77, 78, 79, 80]
theorem ap_letter : ∀ k : Fin 16, KBy.picked apAlpha (some ((k.val : Nat) : Int)) (some ((k.val : Nat) + 1 : Int)) = #[(65 + k.val).toUInt8] := by decide +kernel

structure IntNames (base : Heap) (fA : Addr) : Prop where
  def_ : FnIs base (stmtAt atInt) fA
  lim : base.NoLimit
  glob : ∃ mg, base.Ns mainGlobals mg ∧ mg "int" = none ∧ mg "abs" = none ∧ mg "divmod" = none
  blt : ∃ mb, base.Ns builtinsNs mb ∧ mb "int" = some (.type "int") ∧ mb "abs" = some (.builtin "abs") ∧ mb "divmod" = some (.builtin "divmod")

theorem i1 : ¬ (Str.ofString "num" = Str.ofString "val") := by decide
theorem i2 : ¬ (Str.ofString "num" = Str.ofString "AP") := by decide
theorem i3 : ¬ (Str.ofString "num" = Str.ofString "mod") := by decide
theorem i4 : ¬ (Str.ofString "val" = Str.ofString "AP") := by decide
theorem i5 : ¬ (Str.ofString "val" = Str.ofString "num") := by decide
theorem i6 : ¬ (Str.ofString "val" = Str.ofString "mod") := by decide
theorem i7 : ¬ (Str.ofString "AP" = Str.ofString "val") := by decide
theorem i8 : ¬ (Str.ofString "AP" = Str.ofString "num") := by decide
theorem i9 : ¬ (Str.ofString "AP" = Str.ofString "mod") := by decide
theorem i10 : ¬ (Str.ofString "mod" = Str.ofString "num") := by decide
theorem i11 : ¬ (Str.ofString "mod" = Str.ofString "val") := by decide

def intWhile : Stmt := nthS (defBody (stmtAt atInt)) 3
def whileBody : Stmt → List Stmt
  | .While _ b _ _ => b
  | _ => []

section
variable {prog : Program} {w : World} {A : Around} {E : Value → Shared → Prop} {s : Shared}

theorem litBytes {env : Env} {x : List UInt8} {k : Nat} {pos : Pos} {Q : Value → Shared → Prop} (h : Q (.bytes x.toArray s.toks) { s with toks := s.toks + 1 }) :
    wpAny (model prog w) A (eval (.Constant (.bytes x) k pos) env) Q E s := fun _ _ _ => h

/-- a turn: the last figure is taken off and laid in front -/
theorem int_turn {env : Env} {L : Addr} {h₀ : Heap} (e : EnvFor env (stmtAt atInt) L) (hh : A.handled = none) {mg mb : Str → Option Value} (hg : h₀.Ns mainGlobals mg) (hg3 : mg "divmod" = none) (hbl : h₀.Ns builtinsNs mb) (hbl3 : mb "divmod" = some (.builtin "divmod"))
    {n : Nat} {acc : List UInt8} {t1 t2 t3 : Tok} {m : Str → Option Value} {s₁ : Shared} (hacc : acc.length ≤ 1000)
    (hkeep : ∀ b o, h₀.get? b = some o → s₁.heap.get? b = some o) (hL₀ : h₀.get? L = none) (hn : s₁.heap.Ns L m) (hnum : m "num" = some (.int n t1)) (hval : m "val" = some (.bytes acc.toArray t2)) (hAP : m "AP" = some (.bytes apAlpha t3)) :
    wpAny (model prog w) A (execs (whileBody intWhile) env) (fun f s₂ => f = .next ∧ ∃ h' tk m' t1 t2 t3, s₂ = { s₁ with heap := h', toks := tk } ∧ (∀ b o, h₀.get? b = some o → h'.get? b = some o) ∧ h'.Ns L m' ∧
      m' "num" = some (.int (n / 16 : Nat) t1) ∧ m' "val" = some (.bytes ((65 + n % 16).toUInt8 :: acc).toArray t2) ∧ m' "AP" = some (.bytes apAlpha t3)) E s₁ := by
  have hk : env.scope.kind = .function := e.kind rfl
  rw [← e.locals] at hn
  have keepL : ∀ {h h' : Heap}, (∀ b o, h₀.get? b = some o → h.get? b = some o) → Heap.SameBut env.locals h h' → ∀ b o, h₀.get? b = some o → h'.get? b = some o := fun k hs b o q =>
    hs.extBut b o (fun (z : b = env.locals) => by rw [z, e.locals, hL₀] at q; cases q) (k b o q)
  refine wpAny_execs_cons (Assign_Tuple (Call_Name2 (Calls.Name_function_global hk (e.kindOf (by decide)) (Calls.loadGlobal_builtin (e.globals ▸ hg.keeps hkeep) hg3 (e.builtins ▸ hbl.keeps hkeep) hbl3
    (Calls.callWith_builtin rfl (Calls.evalArgs_plain (Calls.spliced_cons (nm hk (e.kindOf (by decide)) hn hnum (Calls.spliced_cons (wpAny_Constant_int (Calls.spliced_nil (divmod_int (by decide) ?_))))))))))))
  have hd1 : (n : Int).fdiv 16 = ((n / 16 : Nat) : Int) := by
    rw [Int.fdiv_eq_ediv_of_nonneg _ (by decide)]; rfl
  have hd2 : (n : Int).fmod 16 = ((n % 16 : Nat) : Int) := by
    rw [Int.fmod_eq_emod_of_nonneg _ (by decide)]; rfl
  rw [hd1, hd2]
  refine wpAny_assign_Tuple hh ⟨_, Heap.get?_push_size _ rfl, rfl, _, rfl⟩ rfl rfl fun h₂ hx₂ => ?_
  have up₂ : ∀ b o, s₁.heap.get? b = some o → h₂.get? b = some o := fun b o q => by
    have q' := Heap.get?_push_of_some { cls := .type "tuple", data := .seq #[.int ((n / 16 : Nat) : Int) (s₁.toks + 1), .int ((n % 16 : Nat) : Int) (s₁.toks + 1 + 1)] } q
    exact hx₂ b o (Nat.ne_of_lt (Heap.lt_size q')) q'
  have hn₂ : h₂.Ns env.locals m := hn.keeps up₂
  show wpAny _ _ (do holding [.int ((n % 16 : Nat) : Int) _] (assign (.Name "num" _) env (.int ((n / 16 : Nat) : Int) _)); do holding [] (assign (.Name "mod" _) env (.int ((n % 16 : Nat) : Int) _)); pure ()) _ _ _
  refine wpAny_bind (wpAny_holding (wpAny_assign_Name (wpAny_storeName_local (e.kindOf (by decide)) hn₂ (fun h₃ hn₃ hs₃ => ?_) (plainScope hk))))
  replace hs₃ : Heap.SameBut env.locals h₂ h₃ := hs₃
  refine wpAny_bind (wpAny_holding (wpAny_assign_Name (wpAny_storeName_local (e.kindOf (by decide)) hn₃ (fun h₄ hn₄ hs₄ => wpAny_pure ?_) (plainScope hk))))
  replace hs₄ : Heap.SameBut env.locals h₃ h₄ := hs₄
  have keep₄ : ∀ b o, h₀.get? b = some o → h₄.get? b = some o := keepL (keepL (fun b o q => up₂ b o (hkeep b o q)) hs₃) hs₄
  refine wpAny_execs_cons (wpAny_Assign_Name (wpAny_BinOp (Subscript_ (nm hk (e.kindOf (by decide)) hn₄ (v := .bytes apAlpha t3) (by simp [i8, i9, hAP]) (wpAny_Slice (nm hk (e.kindOf (by decide)) hn₄ (v := .int ((n % 16 : Nat) : Int) _) (by simp; rfl)
    (wpAny_BinOp (nm hk (e.kindOf (by decide)) hn₄ (v := .int ((n % 16 : Nat) : Int) _) (by simp; rfl) (wpAny_Constant_int (add_int (wpAny_pure ?_)))))))))))
  have hlet : KBy.picked apAlpha (some ((n % 16 : Nat) : Int)) (some (((n % 16 : Nat) : Int) + 1)) = #[(65 + n % 16).toUInt8] := ap_letter ⟨n % 16, Nat.mod_lt _ (by decide)⟩
  refine tail_of_ItemOn ⟨"bytes", _, FB.slot_bytes_getitem.lookup, typeIs_bytes _ _ _, getItem_meets (typeIs_bytes _ _ _) (by decide) FB.slot_bytes_getitem FB.entry_bytes_getitem (FB.args_bytes_getitem_2 _ _)
    (KBc.meets_slice2 apAlpha t3 _ (IsPart.int _ _) (IsPart.int _ _)) ⟨Heap.IsSliceOf.new _ _ _ _, ?_, fun t' k => ?_⟩⟩ (by with_unfolding_all rfl) (by intro _; with_unfolding_all rfl)
  · rw [hlet]; show 1 ≤ sizeLine; decide
  rw [hlet]
  refine nm hk (e.kindOf (by decide)) (hn₄.push _) (v := .bytes acc.toArray t2) (by simp [i5, i6, hval]) (KBy.add_bytes ?_ fun t'' k' => ?_)
  · simp only [Array.size]; show 1 + acc.length ≤ _; omega
  refine wpAny_storeName_local (e.kindOf (by decide)) (hn₄.push _) (fun h₅ hn₅ hs₅ => wpAny_execs_nil ?_) (plainScope hk)
  rw [e.locals] at hn₅
  refine ⟨rfl, h₅, _, _, _, t'', t3, rfl, keepL (fun b o q => Heap.get?_push_of_some _ (keep₄ b o q)) hs₅, hn₅, by simp [i1, i3]; rfl, ?_, by simp [i7, i8, i9, hAP]⟩
  simp

theorem natAbs_if (n : Int) : (if n < 0 then -n else n) = (n.natAbs : Int) := by split <;> omega

set_option maxHeartbeats 4000000 in
theorem call_int {base : Heap} {fA : Addr} {n : Int} {u : Tok} {Q : Value → Shared → Prop} (N : IntNames base fA) (hb : ∀ b o, base.get? b = some o → s.heap.get? b = some o) (hh : A.handled = none) (hroom : A.depth + 1 < recursionLimit)
    (hsz : n.natAbs < 16 ^ 64) (h : ∀ t s', Ext s s' → Q (.bytes (ap n.natAbs).toArray t) s') : wpAny (model prog w) A (call (.ref fA) [.int n u]) Q E s := by
  refine enterDef (n := "num") (Nat.lt_of_succ_lt hroom) N.def_ N.lim hb ?_ (by decide) (by decide) rfl rfl rfl fun env h₁ e1 e2 e3 e4 e5 hn hk₁ => ?_
  · rintro ⟨name, qualname, params, body, scope, globals, closure, defaults, kwdefaults, doc, pyModule, anns, code, closureTuple, builtins⟩ h1 h2 h3
    dsimp only at h1 h2 h3
    subst h1 h2 h3
    rfl
  have e : EnvFor env (stmtAt atInt) s.heap.objs.size := ⟨e1, e2, e3, e4, e5⟩
  have hk : env.scope.kind = .function := e.kind rfl
  have hh' : (A.deeper env).handled = none := hh
  have hnL : h₁.Ns env.locals (fun y => if y = "num" then some (.int n u) else none) := by rw [e2]; exact hn
  have hL₀ : s.heap.get? env.locals = none := by rw [e2]; exact getAbove _
  have hbL : ∀ b o, s.heap.get? b = some o → b ≠ env.locals := fun b o q z => by rw [z, hL₀] at q; cases q
  obtain ⟨mg, hg, hg1, hg2, hg3⟩ := N.glob
  obtain ⟨mb, hbl, hbl1, hbl2, hbl3⟩ := N.blt
  have hg' := hg.keeps hb
  have hbl' := hbl.keeps hb
  refine wpAny_execs_cons (wpAny_Assign_Name (litBytes (wpAny_storeName_local (e.kindOf (by decide)) hnL (fun h₂ hn₂ hs₂ => ?_) (plainScope hk))))
  replace hs₂ : Heap.SameBut env.locals h₁ h₂ := hs₂
  refine wpAny_execs_cons (wpAny_Assign_Name (litBytes (wpAny_storeName_local (e.kindOf (by decide)) hn₂ (fun h₃ hn₃ hs₃ => ?_) (plainScope hk))))
  replace hs₃ : Heap.SameBut env.locals h₂ h₃ := hs₃
  have up₃ : ∀ b o, s.heap.get? b = some o → h₃.get? b = some o := fun b o q => hs₃.extBut b o (hbL b o q) (hs₂.extBut b o (hbL b o q) (hk₁ b o q))
  refine wpAny_execs_cons (wpAny_Assign_Name (Call_Name1 ?_))
  refine Calls.Name_function_global hk (e.kindOf (by decide)) (Calls.loadGlobal_builtin (e3 ▸ hg'.keeps up₃) hg1 (e4 ▸ hbl'.keeps up₃) hbl1 ?_)
  refine PyProof.Rows.callWith_type rfl (Calls.evalArgs_plain (Calls.spliced_cons (Call_Name1 ?_)))
  refine Calls.Name_function_global hk (e.kindOf (by decide)) (Calls.loadGlobal_builtin (e3 ▸ hg'.keeps up₃) hg2 (e4 ▸ hbl'.keeps up₃) hbl2 ?_)
  refine Calls.callWith_builtin rfl (Calls.evalArgs_plain (Calls.spliced_cons ?_))
  refine nm hk (e.kindOf (by decide)) hn₃ (v := .int n u) (by simp [i1, i2]) (Calls.spliced_nil (call_abs_int fun u' tk' => Calls.spliced_nil (call_int_int ?_)))
  rw [natAbs_if]
  refine wpAny_storeName_local (e.kindOf (by decide)) hn₃ (fun h₄ hn₄ hs₄ => ?_) (plainScope hk)
  replace hs₄ : Heap.SameBut env.locals h₃ h₄ := hs₄
  have up₄ : ∀ b o, s.heap.get? b = some o → h₄.get? b = some o := fun b o q => hs₄.extBut b o (hbL b o q) (up₃ b o q)
  refine wpAny_execs_cons (wpAny_While (codeAny_whileLoop (fun f s' => ∃ k acc m t1 t2 t3, (∃ h' tk, s' = { s with heap := h', toks := tk }) ∧ (∀ b o, s.heap.get? b = some o → s'.heap.get? b = some o) ∧ s'.heap.Ns env.locals m ∧
    m "num" = some (.int (k : Nat) t1) ∧ m "val" = some (.bytes acc.toArray t2) ∧ m "AP" = some (.bytes apAlpha t3) ∧ apF f k acc = ap n.natAbs ∧ k < 16 ^ f ∧ acc.length + f = 64) ?_ 64 ?_))
  · rintro f s' ⟨k, acc, m, t1, t2, t3, ⟨h', tk, rfl⟩, q1, q2, q3, q4, q5, q6, q7, q8⟩
    refine isTrue_plain (nm hk (e.kindOf (by decide)) q2 q3 (truthy_int ?_))
    by_cases hk0 : k = 0
    · subst hk0
      rw [if_neg (by simp)]
      refine wpAny_execs_nil (wpAny_execs_cons (wpAny_Return_some (nm hk (e.kindOf (by decide)) q2 q4 ?_)))
      have hacc : acc = ap n.natAbs := by
        rw [← q6]
        cases f <;> rfl
      rw [hacc]
      exact h t2 { s with heap := h', toks := tk } (Ext.of_heap q1)
    · rw [if_pos (by simpa using hk0)]
      cases f with
      | zero => exact absurd (Nat.lt_one_iff.mp q7) hk0
      | succ f =>
        refine wpAny_mono (int_turn (h₀ := s.heap) e hh' hg' hg3 hbl' hbl3 (by omega) q1 (e2 ▸ hL₀) (e2 ▸ q2) q3 q4 q5) (fun fl s₂ hf => ?_) fun _ _ q => q
        obtain ⟨rfl, h'', tk'', m', t1', t2', t3', rfl, p1, p2, p3, p4, p5⟩ := hf
        refine ⟨f, Nat.lt_succ_self _, k / 16, _, m', t1', t2', t3', ⟨_, _, rfl⟩, p1, e2 ▸ p2, p3, p4, p5, ?_, ?_, ?_⟩
        · rw [← q6]
          show _ = (if k = 0 then acc else _)
          rw [if_neg hk0]
        · rw [Nat.pow_succ] at q7
          omega
        · simp only [List.length_cons]; omega
  · exact ⟨n.natAbs, [], _, _, _, _, ⟨_, _, rfl⟩, up₄, hn₄, by simp; rfl, by simp [i4, i5]; rfl, by simp [i8]; exact ⟨rfl, rfl⟩, rfl, hsz, rfl⟩
end
end Mine
namespace Mine
open PySem
def atTaken : Nat := 7

structure TakenNames (base : Heap) (fC fT : Addr) : Prop where
  def_ : FnIs base (stmtAt atTaken) fT
  glob : ∃ mg, base.Ns mainGlobals mg ∧ mg "isinstance" = none ∧ mg "bool" = none ∧ mg "_check_parenthesis" = some (.ref fC)
  blt : ∃ mb, base.Ns builtinsNs mb ∧ mb "isinstance" = some (.builtin "isinstance") ∧ mb "bool" = some (.type "bool")

section
variable {prog : Program} {w : World} {A : Around} {E : Value → Shared → Prop} {s : Shared}

set_option maxHeartbeats 4000000 in
theorem call_taken {base : Heap} {fI fS fC fT : Addr} {x : Str} {t : Tok} {Q : Value → Shared → Prop} (N : Names base fI fS fC) (N2 : TakenNames base fC fT) (hb : ∀ b o, base.get? b = some o → s.heap.get? b = some o) (hh : A.handled = none) (hroom : A.depth + 3 < recursionLimit)
    (hx : x.length ≤ 1000) (h : ∀ s', Ext s s' → Q (.bool (chk x)) s') : wpAny (model prog w) A (call (.ref fT) [.str x t]) Q E s := by
  refine enterDef (n := "text") (by omega) N2.def_ N.lim hb ?_ (by decide) (by decide) rfl rfl rfl fun env h₁ e1 e2 e3 e4 e5 hn hk₁ => ?_
  · rintro ⟨name, qualname, params, body, scope, globals, closure, defaults, kwdefaults, doc, pyModule, anns, code, closureTuple, builtins⟩ h1 h2 h3
    dsimp only at h1 h2 h3
    subst h1 h2 h3
    rfl
  have e : EnvFor env (stmtAt atTaken) s.heap.objs.size := ⟨e1, e2, e3, e4, e5⟩
  have hk : env.scope.kind = .function := e.kind rfl
  have hh' : (A.deeper env).handled = none := hh
  have hroom' : (A.deeper env).depth + 2 < recursionLimit := by show A.depth + 1 + 2 < _; omega
  have hnL : h₁.Ns env.locals (fun y => if y = "text" then some (.str x t) else none) := by rw [e2]; exact hn
  have hL₀ : s.heap.get? env.locals = none := by rw [e2]; exact getAbove _
  have hbL : ∀ b o, s.heap.get? b = some o → b ≠ env.locals := fun b o q z => by rw [z, hL₀] at q; cases q
  obtain ⟨mg, hg, hg1, hg2, hg3⟩ := N2.glob
  obtain ⟨mb, hbl, hbl1, hbl2⟩ := N2.blt
  have hb₁ : ∀ b o, base.get? b = some o → h₁.get? b = some o := fun b o q => hk₁ b o (hb b o q)
  have htold : env.kindOf "told" = some .local := e.kindOf (by decide)
  refine wpAny_execs_cons (wpAny_Assign_Name (callDef1 hk (e.kindOf (by decide)) (e3 ▸ hg) hg3 N.check hb₁ (nm hk (e.kindOf (by decide)) hnL (v := .str x t) (by simp) ⟨hb₁, call_check N hb₁ hh' hroom' hx fun s₂ x₂ => ?_⟩)))
  have hn₂ : s₂.heap.Ns env.locals (fun y => if y = "text" then some (.str x t) else none) := hnL.at' fun o q => x₂.keep _ o q
  have hk₂ : ∀ b o, s.heap.get? b = some o → s₂.heap.get? b = some o := fun b o q => x₂.keep b o (hk₁ b o q)
  have hos₂ : s₂.os = s.os := x₂.os
  have hbare₂ : AllBare s.gens → AllBare s₂.gens := x₂.bare
  refine wpAny_storeName_local htold hn₂ (fun h₃ hn₃ hs₃ => ?_) (plainScope hk)
  have up₃ : ∀ b o, s.heap.get? b = some o → h₃.get? b = some o := fun b o q => hs₃.extBut b o (hbL b o q) (hk₂ b o q)
  have hb₃ : ∀ b o, base.get? b = some o → h₃.get? b = some o := fun b o q => up₃ b o (hb b o q)
  refine wpAny_execs_cons (wpAny_Return_some (wpAny_IfExp (isTrue_plain (Call_Name2 ?_))))
  refine Calls.Name_function_global hk (e.kindOf (by decide)) (Calls.loadGlobal_builtin (e3 ▸ hg.keeps hb₃) hg1 (e4 ▸ hbl.keeps hb₃) hbl1 ?_)
  refine Calls.callWith_builtin rfl (Calls.evalArgs_plain (Calls.spliced_cons ?_))
  refine nm hk htold hn₃ (v := .bool (chk x)) (by simp) (Calls.spliced_cons ?_)
  refine Calls.Name_function_global hk (e.kindOf (by decide)) (Calls.loadGlobal_builtin (e3 ▸ hg.keeps hb₃) hg2 (e4 ▸ hbl.keeps hb₃) hbl2 ?_)
  refine Calls.spliced_nil (IsiPair.bool_bool (wpAny_truthy_bool ?_))
  show wpAny _ _ (eval _ env) _ _ _
  refine nm hk htold hn₃ (v := .bool (chk x)) (by simp) ?_
  exact h _ ⟨up₃, hos₂, hbare₂⟩
end
end Mine
namespace Mine
open PySem

abbrev Row := Str × Int × Int
def TupRow (h : Heap) (v : Value) (r : Row) : Prop := ∃ T t1 t2 t3, v = .ref T ∧ h.IsTuple T #[.str r.1 t1, .int r.2.1 t2, .int r.2.2 t3]
def RowsAt (h : Heap) (R : Addr) (rows : List Row) : Prop := ∃ items, h.PlainList R items ∧ Paired (TupRow h) items.toList rows

/-- the tuples stand -/
def TupKeep (h h' : Heap) : Prop := ∀ b items, h.IsTuple b items → h'.IsTuple b items
theorem TupKeep.of_keep {h h' : Heap} (k : ∀ b o, h.get? b = some o → h'.get? b = some o) : TupKeep h h' := fun b items ⟨o, ho, r⟩ => ⟨o, k b o ho, r⟩
theorem TupKeep.trans {h h' h'' : Heap} (x : TupKeep h h') (y : TupKeep h' h'') : TupKeep h h'' := fun b items q => y b items (x b items q)
theorem TupKeep.of_ns {h h' : Heap} {L : Addr} {m : Str → Option Value} (hn : h.Ns L m) (k : ∀ b o, b ≠ L → h.get? b = some o → h'.get? b = some o) : TupKeep h h' := fun b items ⟨o, ho, hc, n, hd⟩ =>
  ⟨o, k b o (fun z => by
    obtain ⟨o', es, ep, h1, h2, _⟩ := hn
    rw [z] at ho
    rw [ho] at h1
    cases h1
    rw [hd] at h2
    cases h2) ho, hc, n, hd⟩
theorem TupKeep.of_list {h h' : Heap} {D : Addr} {items : Array Value} (hn : h.PlainList D items) (k : ∀ b o, b ≠ D → h.get? b = some o → h'.get? b = some o) : TupKeep h h' := fun b items ⟨o, ho, hc, n, hd⟩ =>
  ⟨o, k b o (fun z => by
    obtain ⟨n', h1⟩ := hn
    rw [z] at ho
    rw [ho] at h1
    cases h1
    simp at hc) ho, hc, n, hd⟩
theorem TupRow.keep {h h' : Heap} (k : TupKeep h h') {v : Value} {r : Row} (x : TupRow h v r) : TupRow h' v r := let ⟨T, t1, t2, t3, e, q⟩ := x; ⟨T, t1, t2, t3, e, k _ _ q⟩
theorem paired_mono {α β : Type} {F G : α → β → Prop} (hFG : ∀ a b, F a b → G a b) : ∀ {l₁ : List α} {l₂ : List β}, Paired F l₁ l₂ → Paired G l₁ l₂
  | _, _, .nil => .nil
  | _, _, .cons a t => .cons (hFG _ _ a) (paired_mono hFG t)
theorem paired_get {α β : Type} {F : α → β → Prop} : ∀ {l₁ : List α} {l₂ : List β}, Paired F l₁ l₂ → ∀ {j : Nat} {b : β}, l₂[j]? = some b → ∃ a, l₁[j]? = some a ∧ F a b
  | _, _, .nil, j, b, h => by cases j <;> cases h
  | _, _, .cons q t, 0, b, h => by
    simp only [List.getElem?_cons_zero, Option.some.injEq] at h
    subst h
    exact ⟨_, rfl, q⟩
  | _, _, .cons q t, j + 1, b, h => by
    simp only [List.getElem?_cons_succ] at h ⊢
    exact paired_get t h
theorem RowsAt.keep {h h' : Heap} {R : Addr} {rows : List Row} (k : TupKeep h h') (kR : ∀ o, h.get? R = some o → h'.get? R = some o) (x : RowsAt h R rows) : RowsAt h' R rows :=
  let ⟨items, q1, q2⟩ := x; ⟨items, q1.at kR, paired_mono (fun _ _ => TupRow.keep k) q2⟩

section
variable {prog : Program} {w : World} {A : Around} {s : Shared}

/-- a for over a list of triples, by what holds between its turns -/
theorem loop_rows {R' : Result → Shared → Prop} {rows : List Row} {R I : Addr} {env : Env} {n1 n2 n3 : Str} {p1 p2 p3 p4 : Pos} {kk : Nat} {body : List Stmt} {m : Str → Option Value}
    (hh : A.handled = none) (hIL : I ≠ env.locals) (hRI : R ≠ I) (hk : env.scope.kind = .function) (k1 : env.kindOf n1 = some .local) (k2 : env.kindOf n2 = some .local) (k3 : env.kindOf n3 = some .local)
    (J : Nat → (Str → Option Value) → Heap → Prop)
    (hJ : ∀ j m h h', J j m h → (∀ b o, b ≠ env.locals → b ≠ I → h.get? b = some o → h'.get? b = some o) → h.Ns env.locals m → TupKeep h h' → J j m h') (hJR : ∀ j m h, J j m h → RowsAt h R rows)
    (step : ∀ j r t1 t2 t3 m s₁, rows[j]? = some r → J j m s₁.heap → s₁.heap.Ns env.locals (fun y => if y = n3 then some (.int r.2.2 t3) else if y = n2 then some (.int r.2.1 t2) else if y = n1 then some (.str r.1 t1) else m y) →
      wpAny (model prog w) A (execs body env) (fun f s₂ => f = .next ∧ (∃ h' tk, s₂ = { s₁ with heap := h', toks := tk }) ∧ (∀ o, s₁.heap.get? I = some o → o.cls = .type "list_iterator" → s₂.heap.get? I = some o) ∧
        ∃ m₂, s₂.heap.Ns env.locals m₂ ∧ J (j + 1) m₂ s₂.heap) (notedBy (model prog w) A env fun e s' => R' (.error e) s') s₁)
    (hafter : ∀ m' h' tk', h'.Ns env.locals m' → J rows.length m' h' → R' (.ok .next) { s with heap := h', toks := tk' })
    (hit : s.heap.IsListIter I R 0) (hn : s.heap.Ns env.locals m) (h0 : J 0 m s.heap) :
    codeAny (model prog w) A (.forLoop (.Tuple [.Name n1 p1, .Name n2 p2, .Name n3 p3] kk p4) (.ref I) body [] env) R' s := by
  refine codeAny_forLoop_any (fun k s' => ∃ j m' h' tk', s' = { s with heap := h', toks := tk' } ∧ k = rows.length + 1 - j ∧ j ≤ rows.length ∧ h'.IsListIter I R j ∧ h'.Ns env.locals m' ∧ J j m' h') ?_
    (rows.length + 1) ⟨0, m, s.heap, s.toks, rfl, rfl, Nat.zero_le _, hit, hn, h0⟩
  rintro k s' ⟨j, m', h', tk', rfl, rfl, hj, hit', hn', hJ'⟩
  obtain ⟨items, hpl, hpair⟩ := hJR _ _ _ hJ'
  have hlen := hpair.length
  cases hv : rows[j]? with
  | none =>
    have hje : j = rows.length := Nat.le_antisymm hj (by simpa using hv)
    subst hje
    refine wpAny_pyNext_list_end hh hit' hpl.isList (by simp [← hlen]) fun h₁ hx₁ => wpAny_execs_nil ?_
    replace hx₁ : Heap.ExtBut I h' h₁ := hx₁
    refine hafter m' h₁ _ (hn'.at' fun o q => hx₁ _ o (Ne.symm hIL) q) (hJ _ _ _ _ hJ' (fun b o _ hb q => hx₁ b o hb q) hn' ?_)
    rintro b its ⟨o, ho, hc, n, hd⟩
    refine ⟨o, hx₁ b o (fun z => ?_) ho, hc, n, hd⟩
    obtain ⟨oi, ho', hc', _⟩ := hit'
    rw [z, ho'] at ho
    cases ho
    rw [hc'] at hc
    exact absurd hc (by decide)
  | some r =>
    have hlt : j < rows.length := (List.getElem?_eq_some_iff.mp hv).1
    obtain ⟨v, hiv, T, t1, t2, t3, rfl, hT⟩ := paired_get hpair hv
    have hiv' : items[j]? = some (.ref T) := by rw [← Array.getElem?_toList]; exact hiv
    refine wpAny_pyNext_list_item hit' hpl.isList hiv' fun h₁ hit₁ hs₁ => ?_
    replace hs₁ : Heap.SameBut I h' h₁ := hs₁
    have tk₁ : TupKeep h' h₁ := by
      rintro b its ⟨o, ho, hc, n, hd⟩
      refine ⟨o, hs₁.extBut b o (fun z => ?_) ho, hc, n, hd⟩
      obtain ⟨oi, ho', hc', _⟩ := hit'
      rw [z, ho'] at ho
      cases ho
      rw [hc'] at hc
      exact absurd hc (by decide)
    refine wpAny_letOwnedTupleGo_listiter hit₁ ?_
    refine wpAny_assign_Tuple hh (tk₁ _ _ hT) rfl rfl fun h₃ hx₃ => ?_
    replace hx₃ : Heap.ExtBut h₁.objs.size h₁ h₃ := hx₃
    have up₃ : ∀ b o, h₁.get? b = some o → h₃.get? b = some o := fun b o q => hx₃ b o (Nat.ne_of_lt (Heap.lt_size q)) q
    have hn₃ : h₃.Ns env.locals m' := (hn'.at' fun o q => hs₁.extBut _ o (Ne.symm hIL) q).keeps up₃
    show wpAny _ _ (do holding [.int r.2.1 t2, .int r.2.2 t3] (assign (.Name n1 _) env (.str r.1 t1)); do holding [.int r.2.2 t3] (assign (.Name n2 _) env (.int r.2.1 t2)); do holding [] (assign (.Name n3 _) env (.int r.2.2 t3)); pure ()) _ _ _
    refine wpAny_bind (wpAny_holding (wpAny_assign_Name (wpAny_storeName_local k1 hn₃ (fun h₄ hn₄ hs₄ => ?_) (plainScope hk))))
    replace hs₄ : Heap.SameBut env.locals h₃ h₄ := hs₄
    refine wpAny_bind (wpAny_holding (wpAny_assign_Name (wpAny_storeName_local k2 hn₄ (fun h₅ hn₅ hs₅ => ?_) (plainScope hk))))
    replace hs₅ : Heap.SameBut env.locals h₄ h₅ := hs₅
    refine wpAny_bind (wpAny_holding (wpAny_assign_Name (wpAny_storeName_local k3 hn₅ (fun h₆ hn₆ hs₆ => wpAny_pure ?_) (plainScope hk))))
    replace hs₆ : Heap.SameBut env.locals h₅ h₆ := hs₆
    have up₆ : ∀ b o, b ≠ env.locals → h₃.get? b = some o → h₆.get? b = some o := fun b o hb q => hs₆.extBut b o hb (hs₅.extBut b o hb (hs₄.extBut b o hb q))
    have tk₆ : TupKeep h' h₆ := tk₁.trans ((TupKeep.of_keep up₃).trans (.of_ns hn₃ up₆))
    have hJ₆ : J j m' h₆ := hJ _ _ _ _ hJ' (fun b o hbL hbI q => up₆ b o hbL (up₃ b o (hs₁.extBut b o hbI q))) hn' tk₆
    refine wpAny_mono (step j r t1 t2 t3 m' _ hv hJ₆ hn₆) (fun f s₂ hf => ?_) fun _ _ q => q
    obtain ⟨rfl, ⟨h₇, tk₇, rfl⟩, hI, m₂, hn₂, hJ₂⟩ := hf
    refine ⟨rows.length + 1 - (j + 1), by omega, j + 1, m₂, h₇, _, rfl, rfl, hlt, ?_, hn₂, hJ₂⟩
    obtain ⟨oi, ho', hc', hd'⟩ := hit₁
    exact ⟨oi, hI oi (up₆ I oi hIL (up₃ I oi ho')) hc', hc', hd'⟩
end
end Mine
namespace Mine
open PySem

def IntsIn (h : Heap) (l : Addr) (ns : List Int) : Prop := ∃ vs, h.IsList l vs.toArray ∧ IntsAre vs ns
theorem IntsIn.keeps {h h' : Heap} {l : Addr} {ns : List Int} (x : IntsIn h l ns) (k : ∀ o, h.get? l = some o → h'.get? l = some o) : IntsIn h' l ns :=
  let ⟨vs, ⟨o, ho, r⟩, q⟩ := x; ⟨vs, ⟨o, k o ho, r⟩, q⟩

/-- an item of a list of ints, from behind where the place lies below nought -/
def itemAt (ns : List Int) (i : Int) : Int := ns.getD (if i < 0 then i + ns.length else i).toNat 0

section
variable {prog : Program} {w : World} {A : Around} {E : Value → Shared → Prop} {s : Shared}

theorem list_item {value slice : Expr} {l : Addr} {ns : List Int} {i : Int} {u : Tok} {Q : Value → Shared → Prop} (hl : IntsIn s.heap l ns) (h1 : -(ns.length : Int) ≤ i) (h2 : i < ns.length) (hz : ns.length ≤ 1000)
    (h : ∀ t, Q (.int (itemAt ns i) t) s)
    (hs : subscripted slice false (.ref l) (.int i u) = operate [.ref l, .int i u] (getItem (.ref l) (.int i u)) := by with_unfolding_all rfl) :
    wpAny (model prog w) A (subscriptTail value slice (.ref l) (.int i u)) Q E s := by
  obtain ⟨vs, hL, hi⟩ := hl
  have hlen := hi.length
  have key : ∀ k : Nat, k < ns.length → ∃ t, vs.toArray[k]? = some (.int (ns.getD k 0) t) := fun k hk => by
    have := hi.get k (ns.getD k 0) (by rw [List.getD_eq_getElem?_getD, List.getElem?_eq_getElem hk]; rfl)
    simpa using this
  refine tail_any hL.typeIs slot_list_getitem.lookup ?_ hs
  by_cases hneg : i < 0
  · have hk : (i + ns.length).toNat < ns.length := by omega
    obtain ⟨t, ht⟩ := key _ hk
    have h' := h t
    unfold itemAt at h'
    rw [if_pos hneg] at h'
    refine wpAny_getItem_list_neg hL hneg (by simp [hlen]; omega) (by omega) ?_ h'
    rw [show ((vs.toArray.size : Nat) : Int) = ns.length by simp [hlen]]
    exact ht
  · have hk : i.toNat < ns.length := by omega
    obtain ⟨t, ht⟩ := key _ hk
    have h' := h t
    unfold itemAt at h'
    rw [if_neg hneg] at h'
    exact wpAny_getItem_list hL (by omega) (by omega) ht h'

theorem tripleOf {env : Env} {e1 e2 e3 : Expr} {k : Nat} {pos : Pos} {Q : Value → Shared → Prop}
    (h : wpAny (model prog w) A (eval e1 env) (fun v1 s1 => wpAny (model prog w) A (eval e2 env) (fun v2 s2 => wpAny (model prog w) A (eval e3 env) (fun v3 s3 =>
      Q (.ref s3.heap.objs.size) { s3 with heap := s3.heap.push { cls := .type "tuple", data := .seq #[v1, v2, v3] } }) E s2) E s1) E s)
    (h1 : starEach [e1, e2, e3] env = [(false, eval e1 env), (false, eval e2 env), (false, eval e3 env)] := by rfl) :
    wpAny (model prog w) A (eval (.Tuple [e1, e2, e3] k pos) env) Q E s := by
  refine wpAny_Tuple_spliced ?_
  rw [h1]
  refine Calls.spliced_cons (wpAny_mono h (fun v1 s1 hh => ?_) fun _ _ e => e)
  refine Calls.spliced_cons (wpAny_mono hh (fun v2 s2 hh2 => ?_) fun _ _ e => e)
  refine Calls.spliced_cons (wpAny_mono hh2 (fun v3 s3 hh3 => ?_) fun _ _ e => e)
  exact Calls.spliced_nil ⟨by show 3 ≤ sizeLine; decide, hh3⟩

theorem tripleRow {h : Heap} {t1 t2 t3 : Tok} {r : Row} :
    TupRow (h.push { cls := .type "tuple", data := .seq #[.str r.1 t1, .int r.2.1 t2, .int r.2.2 t3] }) (.ref h.objs.size) r :=
  ⟨_, t1, t2, t3, rfl, _, Heap.get?_push_size _ rfl, rfl, _, rfl⟩

def StepD (D : Addr) (s s₂ : Shared) : Prop := ∃ h' tk, s₂ = { s with heap := h', toks := tk } ∧ ∀ b o, b ≠ D → s.heap.get? b = some o → h'.get? b = some o
theorem StepD.trans {D : Addr} {s s₂ s₃ : Shared} (x : StepD D s s₂) (y : StepD D s₂ s₃) : StepD D s s₃ := by
  obtain ⟨h, tk, rfl, k⟩ := x
  obtain ⟨h', tk', rfl, k'⟩ := y
  exact ⟨h', tk', rfl, fun b o hb q => k' b o hb (k b o hb q)⟩

/-- a row laid behind the others, if the test says so -/
theorem if_append {env : Env} {test e : Expr} {n : Str} {p1 p2 p3 p4 p5 : Pos} {c : Bool} {D : Addr} {rows : List Row} {r : Row} {m : Str → Option Value}
    (htest : wpAny (model prog w) A (isTrue test env (eval test env)) (fun b s₁ => b = c ∧ Keeps s s₁) E s)
    (hel : c = true → ∀ s₁, Keeps s s₁ → wpAny (model prog w) A (eval e env) (fun v s₂ => TupRow s₂.heap v r ∧ Keeps s₁ s₂) E s₁)
    (hk : env.scope.kind = .function) (hkn : env.kindOf n = some .local) (hn : s.heap.Ns env.locals m) (hm : m n = some (.ref D)) (hD : RowsAt s.heap D rows) (hz : rows.length ≤ 10000)
    (hi : interactive env = false) (hline : (p2.endLine == p3.line) = true) (hse : starEach [e] env = [(false, eval e env)]) (hsw : swapsWith (.Call (.Attribute (.Name n p1) "append" p2) [e] [] p3) none p4.line env = pure false)
    (hbase : attributeBase (.Name n p1) "append" env (eval (.Name n p1) env) = eval (.Name n p1) env) (hd : (n == ("__debug__" : Str)) = false) :
    wpAny (model prog w) A (exec (.If test [.Expr (.Call (.Attribute (.Name n p1) "append" p2) [e] [] p3) p4] [] p5) env)
      (fun f s₂ => f = .next ∧ StepD D s s₂ ∧ RowsAt s₂.heap D (rows ++ if c = true then [r] else [])) E s := by
  refine wpAny_If (wpAny_mono htest (fun b s₁ hb => ?_) fun _ _ q => q)
  obtain ⟨rfl, h₁, tk₁, rfl, hk₁⟩ := hb
  cases b with
  | false =>
    rw [if_neg Bool.false_ne_true]
    refine wpAny_execs_nil ⟨rfl, ⟨h₁, tk₁, rfl, fun b o _ q => hk₁ b o q⟩, ?_⟩
    rw [if_neg Bool.false_ne_true, List.append_nil]
    exact hD.keep (.of_keep hk₁) fun o q => hk₁ _ o q
  | true =>
    rw [if_pos rfl]
    have hD₁ : RowsAt h₁ D rows := hD.keep (.of_keep hk₁) fun o q => hk₁ _ o q
    obtain ⟨items, hpl, hpair⟩ := hD₁
    refine wpAny_execs_cons (wpAny_Expr ?_ hi hsw)
    refine wpAny_Call_append hbase (by rw [hse]; rfl) hline (by rw [hse]; rfl) (nm hk hkn (hn.keeps hk₁) hm ⟨D, items, rfl, ?_, ?_⟩ hd)
    · obtain ⟨n, hn'⟩ := hpl
      exact ⟨_, n, hn', rfl, rfl, rfl⟩
    refine wpAny_mono (hel rfl _ ⟨h₁, tk₁, rfl, hk₁⟩) (fun v s₂ hv => ?_) fun _ _ q => q
    obtain ⟨hv, h₂, tk₂, rfl, hk₂⟩ := hv
    replace hk₂ : ∀ b o, h₁.get? b = some o → h₂.get? b = some o := hk₂
    have hpl₂ := hpl.at fun o q => hk₂ _ o q
    refine wpAny_list_append_plain hpl₂ (fun h₃ hpl₃ hs₃ => wpAny_execs_nil ?_) (by
      have h1 := hpair.length
      have h2 : items.toList.length = items.size := by simp
      have := sizeLine_eq; omega)
    replace hs₃ : Heap.SameBut D h₂ h₃ := hs₃
    refine ⟨rfl, ⟨h₃, _, rfl, fun b o hb q => hs₃.extBut b o hb (hk₂ b o (hk₁ b o q))⟩, _, hpl₃, ?_⟩
    rw [if_pos rfl, Array.toList_push]
    have tk₃ : TupKeep h₂ h₃ := .of_list hpl₂ fun b o hb q => hs₃.extBut b o hb q
    exact Paired.snoc (paired_mono (fun _ _ q => (q.keep (.of_keep hk₂)).keep tk₃) hpair) (TupRow.keep tk₃ hv)
end
end Mine
namespace Mine
open PySem

theorem keeps_refl (s : Shared) : Keeps s s := ⟨s.heap, s.toks, rfl, fun _ _ q => q⟩
theorem keeps_toks {s : Shared} {tk : Nat} : Keeps s { s with toks := tk } := ⟨s.heap, tk, rfl, fun _ _ q => q⟩

theorem beqF {a b : Str} (h : ¬ a = b) : (a == b) = false := by simpa using h
theorem small_item {ns : List Int} (h : ∀ n ∈ ns, -1000 ≤ n ∧ n ≤ 1000) (i : Int) : Builtin.Int.intBits (itemAt ns i) ≤ 64 := by
  unfold itemAt
  generalize (if i < 0 then i + (ns.length : Int) else i).toNat = k
  by_cases hk : k < ns.length
  · have := h (ns[k]) (List.getElem_mem hk)
    rw [List.getD_eq_getElem?_getD, List.getElem?_eq_getElem hk]
    exact PySem.intBits_le_64 (by simp; omega) (by simp; omega)
  · rw [List.getD_eq_getElem?_getD, List.getElem?_eq_none (by omega)]
    exact PySem.intBits_le_64 (by simp) (by simp)

end Mine
namespace Mine
open PySem

section
variable {prog : Program} {w : World} {A : Around} {E : Value → Shared → Prop} {R : Result → Shared → Prop} {s : Shared}

/-- a list comprehension's loop, whatever its target -/
theorem compLoop_any {elt target iter : Expr} {ifs : List Expr} {scope : Scope} {pos : Pos} {it acc : Value} {env : Env} (I : Nat → Shared → Prop)
    (turn : ∀ n s, I n s → wpAny (model prog w) A (pyNext it) (fun r s₁ => match r with
      | none => R (.ok .next) s₁
      | some v => wpAny (model prog w) A (letOwnedTupleGo target it v) (fun _ s₁' => wpAny (model prog w) A (assign target env v) (fun _ s₂ =>
          wpAny (model prog w) A (forIn ifs true fun c r => if r = true then do let ok ← isTrue c env (eval c env); pure (ForInStep.yield ok) else pure (ForInStep.yield r)) (fun ok s₃ =>
            if ok = true then wpAny (model prog w) A (eval elt env) (fun x s₄ =>
              wpAny (model prog w) A (call (.builtin "list.append") [acc, x]) (fun _ s₅ => ∃ m, m < n ∧ I m s₅) (notedBy (model prog w) A env fun e s' => R (.error e) s') s₄) (notedBy (model prog w) A env fun e s' => R (.error e) s') s₃
            else ∃ m, m < n ∧ I m s₃) (notedBy (model prog w) A env fun e s' => R (.error e) s') s₂) (notedBy (model prog w) A env fun e s' => R (.error e) s') s₁') (notedBy (model prog w) A env fun e s' => R (.error e) s') s₁) (notedBy (model prog w) A env fun e s' => R (.error e) s') s)
    (n : Nat) (h : I n s) :
    codeAny (model prog w) A (.compLoop (.ListComp elt [⟨target, iter, ifs, 0⟩] scope pos) 0 it acc env) R s := by
  refine codeAny_loop rfl I (fun n s hI => ?_) n h
  show wpAny _ A ((compTurn (.ListComp elt [⟨target, iter, ifs, 0⟩] scope pos) 0 it acc env).onRaise (fun x => do noteFrame x env; theTreesLotGoes x)) _ _ s
  refine wpAny_noted ?_
  rw [compTurn_list]
  refine wpAny_bind (wpAny_standAt (wpAny_bind (wpAny_mono (turn n s hI) (fun r s₁ h₁ => ?_) fun _ _ h' => h')))
  cases r with
  | none => exact wpAny_pure h₁
  | some v =>
    refine wpAny_bind (wpAny_mono h₁ (fun _ s₁' h₁' => ?_) fun _ _ h' => h')
    refine wpAny_bind (wpAny_mono h₁' (fun _ s₂ h₂ => wpAny_bind (wpAny_mono h₂ (fun ok s₃ h₃ => ?_) fun _ _ h' => h')) fun _ _ h' => h')
    cases ok with
    | false => exact wpAny_pure ⟨rfl, h₃⟩
    | true =>
      exact wpAny_bind (wpAny_bind (wpAny_mono h₃ (fun x s₄ h₄ => wpAny_bind (wpAny_mono h₄ (fun _ s₅ h₅ => wpAny_pure (wpAny_pure ⟨rfl, h₅⟩)) fun _ _ h' => h')) fun _ _ h' => h'))

/-- a list comprehension over what a name holds, its own frame laid -/
theorem comp_start {env : Env} {elt target iter : Expr} {ifs : List Expr} {scope : Scope} {pos : Pos} {Q : Value → Shared → Prop}
    (hfree : ∀ x ∈ scope.names, x.2 ≠ .free) (hcell : ∀ x ∈ scope.names, x.2 ≠ .cell) (hkind : scope.kind = .function) (hnames : ∀ x ∈ scope.names, x.2 = .local → scope.names.lookup x.1 = some .local)
    (h : wpAny (model prog w) A (eval iter env) (fun x s₁ => wpAny (model prog w) A (pyIter x) (fun it s₂ =>
      ∀ h₃ tk₃, (∀ b o, s₂.heap.get? b = some o → h₃.get? b = some o) → h₃.PlainList s₂.heap.objs.size #[] → h₃.Ns (s₂.heap.objs.size + 1) (fun _ => none) →
        wpAny (model prog w) A (pyIter it) (fun it' s' => it' = it ∧ s' = { s₂ with heap := h₃, toks := tk₃ }) (fun _ _ => False) { s₂ with heap := h₃, toks := tk₃ } ∧
        codeAny (model prog w) A (.compLoop (.ListComp elt [⟨target, iter, ifs, 0⟩] scope pos) 0 it (.ref s₂.heap.objs.size) (compEnv scope (s₂.heap.objs.size + 1) env))
          (fun r s' => r = .ok .next ∧ ∃ m, s'.heap.Ns (s₂.heap.objs.size + 1) m ∧ ∀ h', Heap.SameBut (s₂.heap.objs.size + 1) s'.heap h' → Q (.ref s₂.heap.objs.size) { s' with heap := h' }) { s₂ with heap := h₃, toks := tk₃ }) E s₁) E s)
    (hs : ∀ x, foldedSetIterable iter env x = pure x := by intro _; rfl) :
    wpAny (model prog w) A (eval (.ListComp elt [⟨target, iter, ifs, 0⟩] scope pos) env) Q E s := by
  refine wpAny_ListComp hfree hkind hnames (wpAny_mono h (fun xv s₁ h₁ => wpAny_mono h₁ (fun it s₂ h₂ => ?_) fun _ _ e => e) fun _ _ e => e) hs
  refine wpAny_newObj_type (wpAny_newFunctionEnv hcell (by intro y hy; simp at hy) (fun h₁ hns₁ hsb₁ => ?_) hkind)
  dsimp only at hns₁ hsb₁ ⊢
  have hC : (s₂.heap.push { cls := .type "list", data := .seq ([] : List Value).toArray }).objs.size = s₂.heap.objs.size + 1 := by rw [Heap.size_push]
  rw [hC] at hns₁ hsb₁ ⊢
  have keep : ∀ b o, s₂.heap.get? b = some o → h₁.get? b = some o := fun b o q => hsb₁.extBut b o (Nat.ne_of_lt (Nat.lt_succ_of_lt (Heap.lt_size q))) (Heap.get?_push_of_some _ (Heap.get?_push_of_some _ q))
  have hacc : h₁.PlainList s₂.heap.objs.size #[] := ⟨_, hsb₁.extBut _ _ (Nat.ne_of_lt (Nat.lt_succ_self _)) (Heap.get?_push_of_some _ (Heap.get?_push_size _ rfl))⟩
  obtain ⟨hi, hc⟩ := h₂ h₁ (s₂.toks + ([] : List (Str × Value)).length) keep hacc hns₁
  have loop := codeAny_mono (R' := fun (r : Result) s' => ∃ m, s'.heap.Ns (s₂.heap.objs.size + 1) m ∧ ∀ h', Heap.SameBut (s₂.heap.objs.size + 1) s'.heap h' →
    match r with | .ok _ => Q (.ref s₂.heap.objs.size) { s' with heap := h' } | .error x => wpAny (model prog w) A (passOn "comprehension.variables-let-go" x (compEnv scope (s₂.heap.objs.size + 1) env)) Q E { s' with heap := h' }) hc
    (fun r s' hr => by
      obtain ⟨rfl, m, q1, q2⟩ := hr
      exact ⟨m, q1, q2⟩)
  refine codeAny_compStart_list loop (wpAny_mono hi (fun it' s' hq => ?_) fun _ _ q => q.elim)
  obtain ⟨rfl, rfl⟩ := hq
  exact loop
end
end Mine
namespace Mine
open PySem

def bindFn (binds : List (Str × Value)) : Str → Option Value := fun y => binds.reverse.lookup y

section
variable {prog : Program} {w : World} {A : Around} {E : Value → Shared → Prop} {s : Shared}

/-- the def's own frame, whatever the number of its parameters -/
theorem enterDefs {st : Stmt} {f : Addr} {base : Heap} {vs : List Value} {binds : List (Str × Value)} {Q : Value → Shared → Prop} (hroom : A.depth < recursionLimit) (fn : FnIs base st f) (hl : base.NoLimit) (hb : ∀ b o, base.get? b = some o → s.heap.get? b = some o)
    (hbind : ∀ fd : FuncData, fd.params = defArgs st → fd.defaults = .none → fd.kwdefaults = .none → bindArgs fd ⟨vs, []⟩ = pure binds)
    (hcell : ∀ y ∈ (defScope st).names, y.2 ≠ .cell) (hloc : ∀ y ∈ binds, (defScope st).names.lookup y.1 = some .local) (hco : (defScope st).isCoroutine = false) (hgen : (defScope st).isGenerator = false) (hk : (defScope st).kind = .function)
    (h : ∀ env h₁, env.scope = defScope st → env.locals = s.heap.objs.size → env.globals = mainGlobals → env.builtins = builtinsNs → interactive env = false →
      h₁.Ns s.heap.objs.size (bindFn binds) → (∀ b o, s.heap.get? b = some o → h₁.get? b = some o) →
      wpAny (model prog w) (A.deeper env) (execs (defBody st) env) (fun fl s' => Q (match fl with | .ret v => v | _ => .none) s') (fun _ _ => False) { s with heap := h₁, toks := s.toks + binds.length }) :
    wpAny (model prog w) A (call (.ref f) vs) Q E s := by
  obtain ⟨o, fd, h1, h2, h3, h4, h5, h6, h7, h8, h9, h10, h11⟩ := fn.out
  refine wpAny_call (codeAny_call_def (binds := binds) hroom (hb _ _ h1) h2 (hl.keeps hb) (h11.keeps hb) h4 (BindsTo.of_eq (hbind fd h5 h9 h10)) (by rw [h3]; exact hcell) (by rw [h3]; exact hloc)
    (fun h₁ hn hk₁ => ?_) (by rw [h3]; exact hco) (by rw [h3]; exact hgen) (by rw [h3]; exact hk))
  refine wpAny_mono (h (callEnv fd s.heap.objs.size f) h₁ h3 rfl h7 h8 ?_ hn hk₁) (fun fl s' q => q) fun _ _ q => q.elim
  show interactive (callEnv fd s.heap.objs.size f) = false
  unfold interactive callEnv newEnv
  dsimp only
  rw [h3, hk]
  rfl

theorem sum_keep {l : Addr} {ns : List Int} {Q : Value → Shared → Prop} (hh : A.handled = none) (hl : IntsIn s.heap l ns)
    (h : ∀ h' tk t', (∀ b o, s.heap.get? b = some o → h'.get? b = some o) → Q (.int ns.sum t') { s with heap := h', toks := tk }) : wpAny (model prog w) A (call (.builtin "sum") [.ref l]) Q E s := by
  obtain ⟨vs, hL, hi⟩ := hl
  obtain ⟨xs, hx⟩ := hi.allInts.items
  have hl' : s.heap.IsList l (intItems xs) := hx ▸ hL
  refine sum_intListG hh hl' fun h' tk t' hk => ?_
  have e1 : ns = xs.toList.map (·.1) := by
    rw [← nums_intItems, ← hx]
    exact (show numsOf vs.toArray.toList = ns from hi.numsOf).symm
  have e2 : preSum (numAt xs) xs.size = ns.sum := by
    rw [preSum_eq, List.take_of_length_le (by simp), e1]
  rw [e2]
  exact h h' tk t' hk

/-- x.append(..) as a statement -/
theorem append_stmt {env : Env} {e : Expr} {n : Str} {p1 p2 p3 p4 : Pos} {D : Addr} {m : Str → Option Value} {items : Array Value} {Q : Flow → Shared → Prop}
    (hk : env.scope.kind = .function) (hkn : env.kindOf n = some .local) (hn : s.heap.Ns env.locals m) (hm : m n = some (.ref D)) (hD : s.heap.PlainList D items)
    (hel : wpAny (model prog w) A (eval e env) (fun v s₂ => ∃ items', s₂.heap.PlainList D items' ∧ items'.size ≤ sizeLine ∧ ∀ h', h'.PlainList D (items'.push v) → Heap.SameBut D s₂.heap h' → Q .next { s₂ with heap := h' }) E s)
    (hi : interactive env = false) (hline : (p2.endLine == p3.line) = true) (hse : starEach [e] env = [(false, eval e env)]) (hsw : swapsWith (.Call (.Attribute (.Name n p1) "append" p2) [e] [] p3) none p4.line env = pure false)
    (hbase : attributeBase (.Name n p1) "append" env (eval (.Name n p1) env) = eval (.Name n p1) env) (hd : (n == ("__debug__" : Str)) = false) :
    wpAny (model prog w) A (exec (.Expr (.Call (.Attribute (.Name n p1) "append" p2) [e] [] p3) p4) env) Q E s := by
  refine wpAny_Expr ?_ hi hsw
  refine wpAny_Call_append hbase (by rw [hse]; rfl) hline (by rw [hse]; rfl) (nm hk hkn hn hm ⟨D, items, rfl, ?_, ?_⟩ hd)
  · obtain ⟨n, hn'⟩ := hD
    exact ⟨_, n, hn', rfl, rfl, rfl⟩
  refine wpAny_mono hel (fun v s₂ hv => ?_) fun _ _ q => q
  obtain ⟨items', h1, h2, h3⟩ := hv
  exact wpAny_list_append_plain h1 (fun h' q1 q2 => h3 h' q1 q2) h2
end
end Mine
namespace Mine
open PySem

/-- in this heap the expression gives this int, and nothing else happens -/
def EvI (prog : Program) (w : World) (A : Around) (env : Env) (h : Heap) (e : Expr) (v : Int) : Prop :=
  ∀ (s : Shared) (E Q : Value → Shared → Prop), s.heap = h → (∀ t tk, Q (.int v t) { s with toks := tk }) → wpAny (model prog w) A (eval e env) Q E s

section
variable {prog : Program} {w : World} {A : Around} {env : Env} {h : Heap}

theorem EvI.const {n : Int} {k : Nat} {pos : Pos} : EvI prog w A env h (.Constant (.int n) k pos) n := fun _ _ _ _ hQ => wpAny_Constant_int (hQ _ _)
theorem EvI.name {n : Str} {pos : Pos} {v : Int} {t : Tok} {m : Str → Option Value} (hk : env.scope.kind = .function) (hl : env.kindOf n = some .local) (hn : h.Ns env.locals m) (hm : m n = some (.int v t)) (hd : (n == ("__debug__" : Str)) = false := by decide) :
    EvI prog w A env h (.Name n pos) v := fun s _ _ e hQ => nm hk hl (e ▸ hn) hm (hQ _ s.toks) hd
theorem EvI.bin {l r : Expr} {op : Operator} {pos : Pos} {a b v : Int} (hl : EvI prog w A env h l a) (hr : EvI prog w A env h r b)
    (hop : ∀ (s : Shared) (E Q : Value → Shared → Prop) t u, (∀ t tk, Q (.int v t) { s with toks := tk }) → wpAny (model prog w) A (binaryOp op (.int a t) (.int b u)) Q E s) : EvI prog w A env h (.BinOp l op r pos) v :=
  fun s E Q e hQ => wpAny_BinOp (hl s E _ e fun t tk => hr { s with toks := tk } E _ e fun u tk' => hop _ _ _ _ _ fun t' tk'' => hQ t' tk'')
theorem EvI.add {l r : Expr} {pos : Pos} {a b : Int} (hl : EvI prog w A env h l a) (hr : EvI prog w A env h r b) : EvI prog w A env h (.BinOp l .Add r pos) (a + b) := hl.bin hr fun _ _ _ _ _ hQ => add_int (hQ _ _)
theorem EvI.sub {l r : Expr} {pos : Pos} {a b : Int} (hl : EvI prog w A env h l a) (hr : EvI prog w A env h r b) : EvI prog w A env h (.BinOp l .Sub r pos) (a - b) := hl.bin hr fun _ _ _ _ _ hQ => sub_int (hQ _ _)
theorem EvI.mul {l r : Expr} {pos : Pos} {a b : Int} (hl : EvI prog w A env h l a) (hr : EvI prog w A env h r b) (hm : IntMulOk a b) : EvI prog w A env h (.BinOp l .Mult r pos) (a * b) := hl.bin hr fun _ _ _ _ _ hQ => mul_int (hQ _ _) hm
theorem EvI.fmod {l r : Expr} {pos : Pos} {a b : Int} (hl : EvI prog w A env h l a) (hr : EvI prog w A env h r b) (hb : b ≠ 0) : EvI prog w A env h (.BinOp l .Mod r pos) (a.fmod b) := hl.bin hr fun _ _ _ _ _ hQ => mod_int hb (hQ _ _)
theorem EvI.fdiv {l r : Expr} {pos : Pos} {a b : Int} (hl : EvI prog w A env h l a) (hr : EvI prog w A env h r b) (hb : b ≠ 0) (hz : b.natAbs.log2 < 9000) : EvI prog w A env h (.BinOp l .FloorDiv r pos) (a.fdiv b) :=
  hl.bin hr fun _ _ _ _ _ hQ => floordiv_int hb (hQ _ _) (.inl (PyProof.noPylong_of_log2 hz))
theorem EvI.pow {l r : Expr} {pos : Pos} {a b : Int} (hl : EvI prog w A env h l a) (hr : EvI prog w A env h r b) (h1 : 2 ≤ a) (h2 : 0 ≤ b) (h3 : ((Builtin.Int.intBits a : Nat) : Int) * b ≤ 1000) : EvI prog w A env h (.BinOp l .Pow r pos) (a ^ b.toNat) := by
  refine hl.bin hr fun s E Q t u hQ => ?_
  by_cases hb : b = 0
  · subst hb
    rw [show a ^ Int.toNat 0 = 1 from Int.pow_zero a] at hQ
    exact PySem.AutoIntOps.pow_0 (by decide) (by decide) (show Q (.int 1 s.toks) _ from hQ _ _)
  · have q1 : (b == 0) = false := by simpa using hb
    have q2 : (a == 0 || a == 1) = false := by simp; omega
    have q3 : (a == -1) = false := by simp; omega
    refine PySem.AutoIntOps.pow_4 h2 (by rw [q1]; decide) (by rw [q2]; decide) (by rw [q3]; decide) ?_ (show Q (.int (a ^ b.toNat) s.toks) _ from hQ _ _)
    have : Builtin.Int.intTooBig (((Builtin.Int.intBits a : Nat) : Int) * b) = false := by
      unfold Builtin.Int.intTooBig
      have : (1000 : Int) ≤ (bitsLine : Int) := by decide +kernel
      simp only [decide_eq_false_iff_not]
      omega
    rw [this]; decide
theorem EvI.item {n : Str} {slice : Expr} {p pos : Pos} {l : Addr} {ns : List Int} {i : Int} {m : Str → Option Value} (hk : env.scope.kind = .function) (hl : env.kindOf n = some .local) (hn : h.Ns env.locals m) (hm : m n = some (.ref l)) (hi : IntsIn h l ns)
    (hs : EvI prog w A env h slice i) (h1 : -(ns.length : Int) ≤ i) (h2 : i < ns.length) (hz : ns.length ≤ 1000)
    (hss : ∀ u, subscripted slice false (.ref l) (.int i u) = operate [.ref l, .int i u] (getItem (.ref l) (.int i u)) := by intro _; with_unfolding_all rfl) (hd : (n == ("__debug__" : Str)) = false := by decide) :
    EvI prog w A env h (.Subscript (.Name n p) slice pos) (itemAt ns i) := by
  refine fun s E Q e hQ => Subscript_ (nm hk hl (e ▸ hn) hm (hs s E _ e fun u tk => ?_) hd)
  exact list_item (s := { s with toks := tk }) (e ▸ hi) h1 h2 hz (fun t => hQ t tk) (hss u)
end
end Mine
namespace Mine
open PySem

section
variable {prog : Program} {w : World} {A : Around} {E : Value → Shared → Prop} {s : Shared}

theorem IntsIn.new {h : Heap} {vs : List Value} {ns : List Int} (hi : IntsAre vs ns) : IntsIn (h.push { cls := .type "list", data := .seq vs.toArray }) h.objs.size ns := ⟨vs, ⟨_, Heap.get?_push_size _ rfl, rfl, _, rfl⟩, hi⟩

/-- the sum of a slice of a list of ints -/
theorem sum_slice {value slice : Expr} {l : Addr} {ns : List Int} {k step : Int} {tk tq : Tok} {ops : List Value} {Q : Value → Shared → Prop} {s : Shared} (hl : IntsIn s.heap l ns) (hz : ns.length ≤ 1000) (hst : step ≠ 0)
    (h : ∀ l' h', IntsIn h' l' (pickNums ns (some k) none (some step)) → (∀ b o, s.heap.get? b = some o → h'.get? b = some o) → s.heap.get? l' = none → Q (.ref l') { s with heap := h' })
    (hs : subscripted slice false (.ref l) (.ref s.heap.objs.size) = operate ops (getItem (.ref l) (.ref s.heap.objs.size)) := by with_unfolding_all rfl)
    (ht : ∀ r, letTemporaryGo value (.ref l) r = pure () := by intro _; with_unfolding_all rfl) :
    wpAny (model prog w) A (subscriptTail value slice (.ref l) (.ref s.heap.objs.size)) Q E { s with heap := s.heap.push { cls := .type "slice", data := .fields #[.int k tk, .none, .int step tq] } } := by
  obtain ⟨vs, hL, hi⟩ := hl
  refine subscriptTail_ops (Heap.IsList.typeIs (s := { s with heap := s.heap.push { cls := .type "slice", data := .fields #[.int k tk, .none, .int step tq] } }) (hL.push _)) list_getitem_lookup
    (wpAny_getItem_list_slice (hL.push _) (Heap.IsSliceOf.new ..) (IsPart.int _ _) .none (IsPart.int _ _) (by simpa using hst) ?_ ?_) hs ht
  · refine h _ _ ?_ (fun b o q => Heap.get?_push_of_some _ (Heap.get?_push_of_some _ q)) ?_
    · have := IntsIn.new (h := s.heap.push { cls := .type "slice", data := .fields #[.int k tk, .none, .int step tq] }) (hi.pick (some k) none (some step))
      simpa using this
    · cases q : s.heap.get? (s.heap.push { cls := .type "slice", data := .fields #[.int k tk, .none, .int step tq] }).objs.size with
      | none => rfl
      | some o =>
        have q1 := Heap.lt_size q
        rw [Heap.size_push] at q1
        exact absurd q1 (Nat.not_lt.mpr (Nat.le_succ _))
  · have := hi.length; have := sizeLine_eq; simp; omega

def compNames (k x : Str) (q : NameKind) : List (Str × NameKind) := [(Str.ofString ".0", .local), (k, .local), (Str.ofString "sum", .globalImplicit), (x, q)]

def addsOf (ns : List Int) (cnt : Nat) (step : Int) : List Int := (List.range cnt).map fun (j : Nat) => (pickNums ns (some ((j : Nat) : Int)) none (some step)).sum

theorem closureFor_one {scope : Scope} {env : Env} {x k : Str} {c : Addr} (hsn : scope.names = compNames k x .free) (hc : env.cells.lookup x = some c) : closureFor scope env = pure [(x, c)] := by
  unfold closureFor
  rw [hsn]
  unfold compNames
  simp only [List.forIn_cons, List.forIn_nil]
  unfold cellOf
  rw [hc]
  rfl

set_option maxHeartbeats 1000000 in
/-- y = [sum(x[k::step]) for k in range(cnt)], x a cell of the def around -/
theorem adds_stmt {env : Env} {base : Heap} {c l : Addr} {ns : List Int} {cnt : Nat} {step : Int} {x k y : Str} {p1 p2 p3 p4 p5 p6 p7 p8 p9 p10 p11 p12 p13 : Pos} {c1 c2 : Nat} {scope : Scope} {m mg mb : Str → Option Value} {Q : Flow → Shared → Prop}
    (hh : A.handled = none) (hk : env.scope.kind = .function) (hx : env.kindOf x = some .cell) (hc : env.cells.lookup x = some c) (hy : env.kindOf y = some .local) (hr : env.kindOf "range" = some .globalImplicit)
    (hsn : scope.names = compNames k x .free) (hkind : scope.kind = .function) (hkx : ¬ k = x) (hk0 : ¬ k = Str.ofString ".0") (hks : ¬ k = Str.ofString "sum") (hx0 : ¬ x = Str.ofString ".0") (hxs : ¬ x = Str.ofString "sum")
    (hbl : base.Ns env.builtins mb) (hb1 : mb "range" = some (.type "range")) (hb2 : mb "sum" = some (.builtin "sum")) (hg : base.Ns env.globals mg) (hg1 : mg "range" = none) (hg2 : mg "sum" = none)
    (hb : ∀ b o, base.get? b = some o → s.heap.get? b = some o) (hn : s.heap.Ns env.locals m) (hcl : s.heap.IsCell c (some (.ref l))) (hl : IntsIn s.heap l ns) (hz : ns.length ≤ 1000) (hst : step ≠ 0) (hcnt : cnt ≤ 1000)
    (hdk : (k == ("__debug__" : Str)) = false) (hdx : (x == ("__debug__" : Str)) = false)
    (h : ∀ D h' tk, s.heap.get? D = none → IntsIn h' D (addsOf ns cnt step) → h'.Ns env.locals (fun z => if z = y then some (.ref D) else m z) → (∀ b o, b ≠ env.locals → s.heap.get? b = some o → h'.get? b = some o) → Q .next { s with heap := h', toks := tk })
    (hline : (p13.line == p12.line) = true) (hany : ((compNames k x .free).any fun (n, kk) => n == y && (kk == .local || kk == .cell)) = false)
    {spos : Pos} :
    wpAny (model prog w) A (exec (.Assign [.Name y p13] (.ListComp (.Call (.Name "sum" p1) [.Subscript (.Name x p2) (.Slice (some (.Name k p3)) none (some (.Constant (.int step) c1 p4)) p5) p6] [] p7) [⟨.Name k p8, .Call (.Name "range" p9) [.Constant (.int (cnt : Int)) c2 p10] [] p11, [], 0⟩] scope p12) spos) env) Q E s := by
  have hfun : (NameKind.free == NameKind.free && env.scope.kind == ScopeKind.function && env.kindOf x == some NameKind.cell) = true := by rw [hk, hx]; rfl
  have hrel : (relabel scope env).names = compNames k x .cell := by
    unfold relabel
    dsimp only
    rw [hsn]
    unfold compNames
    simp only [List.map_cons, List.map_nil, hfun, if_true]
    rfl
  have kk : ∀ C, (compEnvC scope [(x, c)] C env).kindOf k = some .local := fun C => by
    show (relabel scope env).names.lookup k = _
    rw [hrel]; unfold compNames; simp [List.lookup, beqF hk0]
  have ks : ∀ C, (compEnvC scope [(x, c)] C env).kindOf "sum" = some .globalImplicit := fun C => by
    show (relabel scope env).names.lookup (Str.ofString "sum") = _
    rw [hrel]; unfold compNames; simp [List.lookup, beqF (fun h : (Str.ofString "sum") = k => hks h.symm), beqF (show ¬ Str.ofString "sum" = Str.ofString ".0" by decide)]
  have kx : ∀ C, (compEnvC scope [(x, c)] C env).kindOf x = some .cell := fun C => by
    show (relabel scope env).names.lookup x = _
    rw [hrel]; unfold compNames; simp [List.lookup, beqF hx0, beqF hxs, beqF (fun h : x = k => hkx h.symm)]
  have hkl : scope.names.lookup k = some .local := by rw [hsn]; unfold compNames; simp [List.lookup, beqF hk0]
  have hbk : env.blockKind = .function := by simp [Env.blockKind, hk, ScopeKind.isAnnotationScope]
  have hsw : swapsWith (.ListComp (.Call (.Name "sum" p1) [.Subscript (.Name x p2) (.Slice (some (.Name k p3)) none (some (.Constant (.int step) c1 p4)) p5) p6] [] p7) [⟨.Name k p8, .Call (.Name "range" p9) [.Constant (.int (cnt : Int)) c2 p10] [] p11, [], 0⟩] scope p12) (some (.Name y p13)) spos.line env = pure true := by
    show (pure (env.blockKind == .function && env.kindOf y == some .local && p13.line == p12.line && !(scope.names.any fun (n, kk) => n == y && (kk == .local || kk == .cell))) : Sem Bool) = pure true
    rw [hbk, hy, hline, hsn, hany]
    rfl
  refine wpAny_Assign_ListComp_free (fun _ => true) (fun v y' => ∃ j t t', v = .int j t ∧ y' = .int (pickNums ns (some j) none (some step)).sum t') hsw (closureFor_one hsn hc) ?_ hkind ?_ hkl hy (plainScope hk) ?_
  · rw [hsn]; unfold compNames; intro z hz; simp at hz; rcases hz with rfl | rfl | rfl | rfl <;> exact fun h => by cases h
  · rw [hsn]; unfold compNames; intro z hz hz2; simp at hz
    rcases hz with rfl | rfl | rfl | rfl
    · rfl
    · simp [List.lookup, beqF hk0]
    · cases hz2
    · cases hz2
  refine Call_Name1 (Calls.Name_function_global hk hr (Calls.loadGlobal_builtin (hg.keeps hb) hg1 (hbl.keeps hb) hb1 (PyProof.Rows.callWith_type rfl (Calls.evalArgs_plain (Calls.spliced_cons (wpAny_Constant_int (Calls.spliced_nil (call_range_1 ?_)))))))) 
  refine wpAny_pyIter_range (IsRange.new ..) (small_one (by decide) (by decide) (by omega) (by omega)) ?_
  have up : ∀ b o, s.heap.get? b = some o → ((s.heap.push { cls := .type "range", data := .fields #[.int 0 (s.toks + 1), .int cnt s.toks, .int 1 (s.toks + 1 + 1)] }).push { cls := .type "range_iterator", data := .fields #[rawInt 0, rawInt (Builtin.Range.rangeSize 0 cnt 1), rawInt 1] }).get? b = some o :=
    fun b o q => Heap.get?_push_of_some _ (Heap.get?_push_of_some _ q)
  have hrs : Builtin.Range.rangeSize 0 (cnt : Int) 1 = (cnt : Int) := by rw [rangeSize_one]; split <;> omega
  refine ⟨_, _, _, _, _, _, m, rfl, Walks.range hh _ 0 1 cnt, by have := sizeLine_eq; omega, ?_, ?_, ?_, (hn.push _).push _, ?_, ?_⟩
  · show IsRangeIter _ _ _ _ _
    have := Heap.get?_push_size (s.heap.push { cls := .type "range", data := .fields #[.int 0 (s.toks + 1), .int cnt s.toks, .int 1 (s.toks + 1 + 1)] }) (o := { cls := .type "range_iterator", data := .fields #[rawInt 0, rawInt (Builtin.Range.rangeSize 0 cnt 1), rawInt 1] }) rfl
    rw [hrs] at this
    rw [hrs]
    simpa using this
  · intro b hb'
    rw [List.mem_singleton.mp hb']
    simp only [Heap.size_push]
    exact Nat.lt_succ_self _
  · intro hb'
    have := hn.lt
    have e := List.mem_singleton.mp hb'
    rw [e, Heap.size_push] at this
    exact absurd this (Nat.not_lt.mpr (Nat.le_succ _))
  · refine ⟨fun _ _ _ _ _ _ _ _ _ _ _ _ => wpAny_tests_nil ⟨rfl, keeps_refl _⟩, ?_⟩
    rintro C i v s₃ m₃ E' hC ⟨t, rfl⟩ - hn₃ hm₃ keep₃ -
    have up₃ : ∀ b o, s.heap.get? b = some o → s₃.heap.get? b = some o := fun b o q => keep₃ b o (fun hb' => by
      have q1 := Heap.lt_size q
      rw [List.mem_singleton.mp hb', Heap.size_push] at q1
      exact absurd q1 (Nat.not_lt.mpr (Nat.le_succ _))) (up b o q)
    have hcl₃ : s₃.heap.IsCell c (some (.ref l)) := hcl.keeps up₃
    have ckind : (compEnvC scope [(x, c)] C env).scope.kind = .function := hkind
    refine Call_Name1 (Calls.Name_function_global ckind (ks C) (Calls.loadGlobal_builtin (hg.keeps fun b o q => up₃ b o (hb b o q)) hg2 (hbl.keeps fun b o q => up₃ b o (hb b o q)) hb2 (Calls.callWith_builtin rfl (Calls.evalArgs_plain (Calls.spliced_cons ?_)))))
    refine Subscript_ (wpAny_Name (wpAny_loadName_cell ckind (kx C) (by simp [compEnvC]) hcl₃ ?_) hdx)
    refine wpAny_Slice (wpAny_evalPart_some (nm ckind (kk C) hn₃ hm₃ (wpAny_evalPart_none (wpAny_evalPart_some (wpAny_Constant_int ?_))) hdk))
    refine sum_slice (s := { s₃ with toks := s₃.toks + 1 }) (hl.keeps fun o q => up₃ _ o q) hz hst fun l' h' hl' keep' hfr' => Calls.spliced_nil (sum_keep hh hl' fun h'' tk'' t' keep'' => ?_)
    exact ⟨⟨_, _, _, rfl, rfl⟩, h'', tk'', rfl, fun b o q => keep'' b o (keep' b o q)⟩
  · intro D h' tk ys vs hD hyl hypl hlen hvs hF hn' hk'
    have hD₀ : s.heap.get? D = none := by
      cases q : s.heap.get? D with
      | none => rfl
      | some o => rw [up D o q] at hD; cases hD
    refine h D h' tk hD₀ ?_ hn' fun b o hbL q => hk' b o hbL ?_ (up b o q)
    · refine ⟨ys.toList, by simpa using hyl, ?_⟩
      rw [List.filter_eq_self.mpr (fun _ _ => rfl)] at hF
      have key : ∀ (vs' : List Value) (ys' : List Value) (i : Nat), (∀ j v, vs'[j]? = some v → ∃ t, v = Value.int ((i + j : Nat) : Int) t) → Paired (fun (v y' : Value) => ∃ j t t', v = .int j t ∧ y' = .int (pickNums ns (some j) none (some step)).sum t') vs' ys' →
          IntsAre ys' ((List.range vs'.length).map fun j => (pickNums ns (some ((i + j : Nat) : Int)) none (some step)).sum) := by
        intro vs' ys' i hv hp
        induction hp generalizing i with
        | nil => exact .nil
        | cons q _ ih =>
          obtain ⟨j, t, t', rfl, rfl⟩ := q
          obtain ⟨t₀, e⟩ := hv 0 _ rfl
          cases e
          rw [List.length_cons, List.range_succ_eq_map, List.map_cons, List.map_map]
          refine .cons _ _ ?_
          have := ih (i + 1) fun j v hj => by
            obtain ⟨t, e⟩ := hv (j + 1) v (by simpa using hj)
            exact ⟨t, by rw [e]; congr 2; omega⟩
          have e2 : ((fun j : Nat => (pickNums ns (some ((i + j : Nat) : Int)) none (some step)).sum) ∘ Nat.succ) = fun j : Nat => (pickNums ns (some ((i + 1 + j : Nat) : Int)) none (some step)).sum := by
            funext j; simp only [Function.comp]; congr 3; omega
          rw [e2]
          exact this
      have := key vs ys.toList 0 (fun j v hj => by
        obtain ⟨t, e⟩ := hvs j v hj
        exact ⟨t, by rw [e]; congr 1; omega⟩) hF
      rw [hlen] at this
      unfold addsOf
      simpa using this
    · intro hb'
      have q1 := Heap.lt_size q
      rw [List.mem_singleton.mp hb', Heap.size_push] at q1
      exact absurd q1 (Nat.not_lt.mpr (Nat.le_succ _))
end
end Mine
namespace Mine
open PySem

/-- all that stood stands, but for one object -/
def Up (L : Addr) (h h' : Heap) : Prop := ∀ b o, b ≠ L → h.get? b = some o → h'.get? b = some o
theorem Up.refl {L : Addr} {h : Heap} : Up L h h := fun _ _ _ q => q
theorem Up.trans {L : Addr} {h h' h'' : Heap} (x : Up L h h') (y : Up L h' h'') : Up L h h'' := fun b o hb q => y b o hb (x b o hb q)
theorem Up.of_keep {L : Addr} {h h' : Heap} (x : ∀ b o, h.get? b = some o → h'.get? b = some o) : Up L h h' := fun b o _ q => x b o q
theorem Up.of_same {L : Addr} {h h' : Heap} (x : Heap.SameBut L h h') : Up L h h' := fun b o hb q => x.extBut b o hb q
theorem IntsIn.up {L l : Addr} {h h' : Heap} {ns : List Int} (x : IntsIn h l ns) (u : Up L h h') (hl : l ≠ L) : IntsIn h' l ns := x.keeps fun o q => u l o hl q
theorem cell_up {L c : Addr} {h h' : Heap} {v : Option Value} (x : h.IsCell c v) (u : Up L h h') (hl : c ≠ L) : h'.IsCell c v := let ⟨o, ho, q⟩ := x; ⟨o, u c o hl ho, q⟩
theorem base_up {L : Addr} {base h h' : Heap} (hb : ∀ b o, base.get? b = some o → h.get? b = some o) (hL : base.get? L = none) (u : Up L h h') : ∀ b o, base.get? b = some o → h'.get? b = some o :=
  fun b o q => u b o (fun z => by rw [z, hL] at q; cases q) (hb b o q)
theorem IntsIn.ne {l L : Addr} {h : Heap} {ns : List Int} {m : Str → Option Value} (x : IntsIn h l ns) (hn : h.Ns L m) : l ≠ L := by
  rintro rfl
  obtain ⟨vs, ⟨o, ho, hc, n, hd⟩, _⟩ := x
  obtain ⟨o', _, _, ho', hd', _⟩ := hn
  rw [ho] at ho'
  cases ho'
  rw [hd] at hd'
  cases hd'

section
variable {prog : Program} {w : World} {A : Around} {E : Value → Shared → Prop} {s : Shared}

theorem assign_int {env : Env} {e : Expr} {y : Str} {p pos : Pos} {v : Int} {m : Str → Option Value} {Q : Flow → Shared → Prop} (hk : env.scope.kind = .function) (hy : env.kindOf y = some .local) (hn : s.heap.Ns env.locals m) (he : EvI prog w A env s.heap e v)
    (h : ∀ h' t tk, h'.Ns env.locals (fun z => if z = y then some (.int v t) else m z) → Up env.locals s.heap h' → Q .next { s with heap := h', toks := tk })
    (hsw : swapsWith e (some (.Name y p)) pos.line env = pure false := by rfl) :
    wpAny (model prog w) A (exec (.Assign [.Name y p] e pos) env) Q E s := by
  refine wpAny_Assign_Name (he s _ _ rfl fun t tk => wpAny_storeName_local hy hn (fun h' hn' hs' => h h' t _ hn' (.of_same hs')) (plainScope hk)) hsw

/-- a list display of ints -/
theorem ints_spliced {env : Env} {pos : Pos} {h : Heap} : ∀ {es : List Expr} {ns : List Int}, Paired (fun e n => EvI prog w A env h e n ∧ ∀ rest, starEach (e :: rest) env = (false, eval e env) :: starEach rest env) es ns → ∀ {s : Shared} {Q : List Value → Shared → Prop}, s.heap = h →
    (∀ vs tk, IntsAre vs ns → Q vs { s with toks := tk }) → wpAny (model prog w) A (spliced (backTo pos (starEach es env))) Q E s
  | _, _, .nil, s, Q, _, hQ => Calls.spliced_nil (hQ [] s.toks .nil)
  | _, _, .cons ⟨he, hs⟩ r, s, Q, e, hQ => spliced_more (he s _ _ e fun t tk => ints_spliced r (s := { s with toks := tk }) e fun vs tk' hvs => hQ _ tk' (.cons _ t hvs)) (hs _)

theorem assign_ints {env : Env} {es : List Expr} {ns : List Int} {y : Str} {p pos pos2 : Pos} {m : Str → Option Value} {Q : Flow → Shared → Prop} (hk : env.scope.kind = .function) (hy : env.kindOf y = some .local) (hn : s.heap.Ns env.locals m)
    (he : Paired (fun e n => EvI prog w A env s.heap e n ∧ ∀ rest, starEach (e :: rest) env = (false, eval e env) :: starEach rest env) es ns) (hz : ns.length ≤ 1000)
    (h : ∀ D h' tk, IntsIn h' D ns → s.heap.get? D = none → h'.Ns env.locals (fun z => if z = y then some (.ref D) else m z) → Up env.locals s.heap h' → Q .next { s with heap := h', toks := tk }) :
    wpAny (model prog w) A (exec (.Assign [.Name y p] (.List es pos2) pos) env) Q E s := by
  refine wpAny_Assign_Name (wpAny_List_spliced (ints_spliced he rfl fun vs tk hvs => ⟨?_, wpAny_storeName_local hy (hn.push _) (fun h' hn' hs' => ?_) (plainScope hk)⟩))
  · have := hvs.length; have := sizeLine_eq; omega
  · replace hs' : Heap.SameBut env.locals (s.heap.push { cls := .type "list", data := .seq vs.toArray }) h' := hs'
    have hlt := hn.lt
    refine h s.heap.objs.size h' _ ((IntsIn.new hvs).up (.of_same hs') (Nat.ne_of_gt hlt)) (getAbove _) hn' fun b o hb q => hs'.extBut b o hb (Heap.get?_push_of_some _ q)

/-- the frame of a def with one parameter that the defs within it see -/
theorem enterCell {st : Stmt} {f : Addr} {base : Heap} {n : Str} {v : Value} {Q : Value → Shared → Prop} (hroom : A.depth < recursionLimit) (fn : FnIs base st f) (hl : base.NoLimit) (hb : ∀ b o, base.get? b = some o → s.heap.get? b = some o)
    (hbind : ∀ fd : FuncData, fd.params = defArgs st → fd.defaults = .none → fd.kwdefaults = .none → bindArgs fd ⟨[v], []⟩ = pure [(n, v)])
    (hcell : (defScope st).names.lookup n = some .cell) (hcells : ∀ L, cellsFrom L (defScope st).names [] = [(n, L)]) (hco : (defScope st).isCoroutine = false) (hgen : (defScope st).isGenerator = false) (hk : (defScope st).kind = .function)
    (h : ∀ env h₁ tk c, env.scope = defScope st → env.locals = s.heap.objs.size → env.globals = mainGlobals → env.builtins = builtinsNs → interactive env = false → env.cells.lookup n = some c → c ≠ s.heap.objs.size → s.heap.get? c = none →
      h₁.IsCell c (some v) → h₁.Ns s.heap.objs.size (fun _ => none) → (∀ b o, s.heap.get? b = some o → h₁.get? b = some o) →
      wpAny (model prog w) (A.deeper env) (execs (defBody st) env) (fun fl s' => Q (match fl with | .ret v => v | _ => .none) s') (fun _ _ => False) { s with heap := h₁, toks := tk }) :
    wpAny (model prog w) A (call (.ref f) [v]) Q E s := by
  obtain ⟨o, fd, h1, h2, h3, h4, h5, h6, h7, h8, h9, h10, h11⟩ := fn.out
  have hlk : ∀ L, (cellsFrom L fd.scope.names []).lookup n = some L := fun L => by rw [h3, hcells]; simp [List.lookup]
  refine wpAny_call (codeAny_call_cells (binds := [(n, v)]) hroom (hb _ _ h1) h2 (hl.keeps hb) (h11.keeps hb) h4 (hbind fd h5 h9 h10) h6 ?_ (fun s₁ x => ?_) (by rw [h3]; exact hco) (by rw [h3]; exact hgen) (by rw [h3]; exact hk))
  · intro y hy
    rw [List.mem_singleton.mp hy]
    refine .inr ⟨by rw [h3]; exact hcell, ?_⟩
    rw [hlk]; rfl
  · obtain ⟨h₁, tk, rfl⟩ := x.toInCall.same
    have hkc : ¬ (callEnvC fd s.heap.objs.size f).kindOf n = some .local := by
      show ¬ fd.scope.names.lookup n = some .local
      rw [h3, hcell]; decide
    have hc : (callEnvC fd s.heap.objs.size f).cells.lookup n = some (s.heap.objs.size + 1) := hlk _
    have hcv := x.cell n _ hc
    have hbc : bindC (callEnvC fd s.heap.objs.size f).kindOf [(n, v)] (fun _ => none) n = some v := by
      simp only [bindC, if_neg hkc]
      simp
    have hbl : bindL (callEnvC fd s.heap.objs.size f).kindOf [(n, v)] (fun _ => none) = fun _ => none := by
      simp only [bindL, if_neg hkc]
    rw [hbc] at hcv
    have hn := x.toInCall.ns
    rw [hbl] at hn
    refine wpAny_mono (h (callEnvC fd s.heap.objs.size f) h₁ tk (s.heap.objs.size + 1) h3 rfl h7 h8 ?_ hc (Nat.ne_of_gt (Nat.lt_succ_self _)) ?_ hcv hn x.toInCall.keep) (fun fl s' q => q) fun _ _ q => q.elim
    · show interactive (callEnvC fd s.heap.objs.size f) = false
      unfold interactive callEnvC newEnv
      dsimp only
      rw [h3, hk]
      rfl
    · cases q : s.heap.get? (s.heap.objs.size + 1) with
      | none => rfl
      | some o => exact absurd (Heap.lt_size q) (Nat.not_lt.mpr (Nat.le_succ _))
end
end Mine
namespace Mine
open PySem

theorem plain_ne_iter {h : Heap} {D I l : Addr} {items : Array Value} {j : Nat} (x : h.PlainList D items) (y : h.IsListIter I l j) : D ≠ I := by
  rintro rfl
  obtain ⟨n, q⟩ := x
  obtain ⟨o, ho, hc, _⟩ := y
  rw [q] at ho
  cases ho
  simp at hc
theorem ints_ne_iter {h : Heap} {D I l : Addr} {ns : List Int} {j : Nat} (x : IntsIn h D ns) (y : h.IsListIter I l j) : D ≠ I := by
  rintro rfl
  obtain ⟨_, ⟨o', ho', hc', _⟩, _⟩ := x
  obtain ⟨o, ho, hc, _⟩ := y
  rw [ho'] at ho
  cases ho
  rw [hc'] at hc
  simp at hc
theorem iter_keeps {h h' : Heap} {I l : Addr} {j : Nat} (x : h.IsListIter I l j) (k : ∀ o, h.get? I = some o → h'.get? I = some o) : h'.IsListIter I l j := let ⟨o, ho, q⟩ := x; ⟨o, k o ho, q⟩
theorem iter_ne_ns {h : Heap} {I l L : Addr} {j : Nat} {m : Str → Option Value} (x : h.IsListIter I l j) (hn : h.Ns L m) : I ≠ L := by
  rintro rfl
  obtain ⟨o, ho, hc, hd⟩ := x
  obtain ⟨o', _, _, ho', hd', _⟩ := hn
  rw [ho] at ho'
  cases ho'
  rw [hd] at hd'
  cases hd'

section
variable {prog : Program} {w : World} {A : Around} {E : Value → Shared → Prop} {s : Shared}

/-- a for over a list of ints, its body's doings told by J -/
theorem loop_ints {R' : Result → Shared → Prop} {ns : List Int} {l I : Addr} {env : Env} {n : Str} {p : Pos} {body : List Stmt} {m : Str → Option Value} (hh : A.handled = none) (hk : env.scope.kind = .function) (k1 : env.kindOf n = some .local)
    (J : Nat → (Str → Option Value) → Shared → Prop)
    (hJ : ∀ j m s h' tk, J j m s → s.heap.IsListIter I l j → s.heap.Ns env.locals m → (∀ b o, b ≠ env.locals → b ≠ I → s.heap.get? b = some o → h'.get? b = some o) → J j m { s with heap := h', toks := tk })
    (hJl : ∀ j m s, J j m s → IntsIn s.heap l ns)
    (step : ∀ j v t m s₁, ns[j]? = some v → J j m s₁ → s₁.heap.IsListIter I l (j + 1) → s₁.heap.Ns env.locals (fun y => if y = n then some (.int v t) else m y) →
      wpAny (model prog w) A (execs body env) (fun f s₂ => f = .next ∧ s₂.heap.IsListIter I l (j + 1) ∧ ∃ m₂, s₂.heap.Ns env.locals m₂ ∧ J (j + 1) m₂ s₂) (notedBy (model prog w) A env fun e s' => R' (.error e) s') s₁)
    (hafter : ∀ m' s', s'.heap.Ns env.locals m' → J ns.length m' s' → R' (.ok .next) s')
    (hit : s.heap.IsListIter I l 0) (hn : s.heap.Ns env.locals m) (h0 : J 0 m s) :
    codeAny (model prog w) A (.forLoop (.Name n p) (.ref I) body [] env) R' s := by
  refine codeAny_forLoop_any (fun k s' => ∃ j m', k = ns.length + 1 - j ∧ j ≤ ns.length ∧ s'.heap.IsListIter I l j ∧ s'.heap.Ns env.locals m' ∧ J j m' s') ?_ (ns.length + 1) ⟨0, m, rfl, Nat.zero_le _, hit, hn, h0⟩
  rintro k s' ⟨j, m', rfl, hj, hit', hn', hJ'⟩
  have hIL := iter_ne_ns hit' hn'
  have hl := hJl _ _ _ hJ'
  have hlI := ints_ne_iter hl hit'
  obtain ⟨vs, hL, hi⟩ := hl
  have hlen := hi.length
  cases hv : ns[j]? with
  | none =>
    have hje : j = ns.length := Nat.le_antisymm hj (by simpa using hv)
    subst hje
    refine wpAny_pyNext_list_end hh hit' hL (by simp [hlen]) fun h₁ hx₁ => wpAny_execs_nil ?_
    replace hx₁ : Heap.ExtBut I s'.heap h₁ := hx₁
    exact hafter m' _ (hn'.at' fun o q => hx₁ _ o (Ne.symm hIL) q) (hJ _ _ _ h₁ s'.toks hJ' hit' hn' fun b o _ hb q => hx₁ b o hb q)
  | some v =>
    have hlt : j < ns.length := (List.getElem?_eq_some_iff.mp hv).1
    obtain ⟨t, hvi⟩ := hi.get j v hv
    refine wpAny_pyNext_list_item hit' hL (by simpa using hvi) fun h₁ hit₁ hs₁ => ?_
    replace hs₁ : Heap.SameBut I s'.heap h₁ := hs₁
    refine wpAny_pure ?_
    have hn₁ := hn'.sameBut hs₁ (Ne.symm hIL)
    refine wpAny_assign_Name (wpAny_storeName_local k1 hn₁ (fun h₂ hn₂ hs₂ => ?_) (plainScope hk))
    replace hs₂ : Heap.SameBut env.locals h₁ h₂ := hs₂
    have J₂ := hJ _ _ _ h₂ (s'.toks + 1) hJ' hit' hn' fun b o hbL hb q => hs₂.extBut b o hbL (hs₁.extBut b o hb q)
    refine wpAny_mono (step j v t m' _ hv J₂ (iter_keeps hit₁ fun o q => hs₂.extBut _ o hIL q) hn₂) (fun f s₃ hf => ?_) fun _ _ q => q
    obtain ⟨rfl, q1, m₂, q2, q3⟩ := hf
    exact ⟨ns.length + 1 - (j + 1), by omega, j + 1, m₂, rfl, hlt, q1, q2, q3⟩

theorem aug_add {env : Env} {e : Expr} {y : Str} {p pos : Pos} {a b : Int} {t₀ : Tok} {m : Str → Option Value} {Q : Flow → Shared → Prop} (hk : env.scope.kind = .function) (hy : env.kindOf y = some .local) (hn : s.heap.Ns env.locals m) (hm : m y = some (.int a t₀)) (he : EvI prog w A env s.heap e b)
    (h : ∀ h' t tk, h'.Ns env.locals (fun z => if z = y then some (.int (a + b) t) else m z) → Up env.locals s.heap h' → Q .next { s with heap := h', toks := tk }) :
    wpAny (model prog w) A (exec (.AugAssign (.Name y p) .Add e pos) env) Q E s := by
  refine wpAny_AugAssign_Name (wpAny_loadName_local hk hy hn hm (he _ _ _ rfl fun t tk => wpAny_iadd_int (wpAny_storeName_local hy hn (fun h' hn' hs' => ?_) (plainScope hk))))
  exact h h' _ _ hn' (.of_same hs')

theorem aug_sub {env : Env} {e : Expr} {y : Str} {p pos : Pos} {a b : Int} {t₀ : Tok} {m : Str → Option Value} {Q : Flow → Shared → Prop} (hk : env.scope.kind = .function) (hy : env.kindOf y = some .local) (hn : s.heap.Ns env.locals m) (hm : m y = some (.int a t₀)) (he : EvI prog w A env s.heap e b)
    (h : ∀ h' t tk, h'.Ns env.locals (fun z => if z = y then some (.int (a - b) t) else m z) → Up env.locals s.heap h' → Q .next { s with heap := h', toks := tk }) :
    wpAny (model prog w) A (exec (.AugAssign (.Name y p) .Sub e pos) env) Q E s := by
  refine wpAny_AugAssign_Name (wpAny_loadName_local hk hy hn hm (he _ _ _ rfl fun t tk => PySem.AutoIntOps.isub_0 (show (fun r s₃ => wpAny (model prog w) A (storeName env y r) (fun _ => Q .next) E s₃) (.int (a - b) _) _ from wpAny_storeName_local hy hn (fun h' hn' hs' => ?_) (plainScope hk))))
  exact h h' _ _ hn' (.of_same hs')

theorem add_ints {l b : Addr} {ns ms : List Int} {Q : Value → Shared → Prop} (hl : IntsIn s.heap l ns) (hb : IntsIn s.heap b ms) (hz : ns.length + ms.length ≤ 10000)
    (h : ∀ h', IntsIn h' s.heap.objs.size (ns ++ ms) → (∀ b o, s.heap.get? b = some o → h'.get? b = some o) → Q (.ref s.heap.objs.size) { s with heap := h' }) : wpAny (model prog w) A (binaryOp .Add (.ref l) (.ref b)) Q E s := by
  obtain ⟨vs, hL, hi⟩ := hl
  obtain ⟨ws, hB, hj⟩ := hb
  obtain ⟨⟨cls, dd, data, sl⟩, ho, hc, n, hd⟩ := id hL
  obtain ⟨⟨cls2, dd2, data2, sl2⟩, ho2, hc2, n2, hd2⟩ := id hB
  simp only at hc hd hc2 hd2
  subst hc hd hc2 hd2
  have e : vs.toArray ++ ws.toArray = (vs ++ ws).toArray := by simp
  have hsz : vs.length + ws.length ≤ sizeLine := by rw [hi.length, hj.length]; have := sizeLine_eq; omega
  refine concat_meets ⟨_, ho, rfl⟩ ⟨_, ho2, rfl⟩ noFill_list_add seq_list_add PySem.F.slot_list_add PySem.F.entry_list_add (PySem.F.args_list_add_2 _ _) (list_addW l b vs.toArray ws.toArray n n2 dd dd2 sl sl2 (by simpa using hsz)) ⟨ho, ho2, ?_⟩
  rw [e]
  exact h _ (IntsIn.new (hi.append hj)) fun b o q => Heap.get?_push_of_some _ q

theorem eq_ints {l b : Addr} {ns ms : List Int} {Q : Value → Shared → Prop} (hl : IntsIn s.heap l ns) (hb : IntsIn s.heap b ms) (hu : A.units < cLine) (h : Q (.bool (decide (ns = ms))) s) : wpAny (model prog w) A (compareOp .Eq (.ref l) (.ref b)) Q E s := by
  obtain ⟨vs, hL, hi⟩ := hl
  obtain ⟨ws, hB, hj⟩ := hb
  by_cases hlen : ns.length = ms.length
  · refine PySem.SeqAt.eq_listAt (e := fun j => ns.getD j 0 == ms.getD j 0) hL hB (by simp [hi.length, hj.length, hlen]) hu ?_ ?_
    · intro j h1 h2
      have h1' : j < ns.length := by simpa [hi.length] using h1
      have h2' : j < ms.length := by omega
      obtain ⟨t, ht⟩ := hi.get j (ns.getD j 0) (by rw [List.getD_eq_getElem?_getD, List.getElem?_eq_getElem h1']; rfl)
      obtain ⟨u, hu'⟩ := hj.get j (ms.getD j 0) (by rw [List.getD_eq_getElem?_getD, List.getElem?_eq_getElem h2']; rfl)
      have e1 : vs.toArray[j] = .int (ns.getD j 0) t := by
        have := (List.getElem?_eq_some_iff.mp ht).2; simpa using this
      have e2 : ws.toArray[j] = .int (ms.getD j 0) u := by
        have := (List.getElem?_eq_some_iff.mp hu').2; simpa using this
      rw [e1, e2]
      exact PySem.SeqAt.EqAt.int_int _ _ _ _
    · have e : ((List.range vs.toArray.size).all fun j => ns.getD j 0 == ms.getD j 0) = decide (ns = ms) := by
        rw [Bool.eq_iff_iff]
        simp only [List.all_eq_true, List.mem_range, decide_eq_true_eq, beq_iff_eq]
        have hs : vs.toArray.size = ns.length := by simp [hi.length]
        rw [hs]
        constructor
        · intro hq
          refine List.ext_getElem hlen fun i h1 h2 => ?_
          have := hq i h1
          rw [List.getD_eq_getElem?_getD, List.getD_eq_getElem?_getD, List.getElem?_eq_getElem h1, List.getElem?_eq_getElem h2] at this
          exact this
        · rintro rfl _ _; rfl
      rw [e]; exact h
  · refine PySem.SeqAt.eq_list_lengthsAt hL hB (by simp [hi.length, hj.length, hlen]) hu ?_
    have : decide (ns = ms) = false := decide_eq_false fun q => hlen (by rw [q])
    rw [this] at h
    exact h
end
end Mine
namespace Mine
open PySem

section
variable {prog : Program} {w : World} {A : Around} {E : Value → Shared → Prop} {s : Shared}

theorem slice_ints {value slice : Expr} {l : Addr} {ns : List Int} {lo hi st : Option Int} {vl vu vk : Value} {ops : List Value} {Q : Value → Shared → Prop} {s : Shared} (hl : IntsIn s.heap l ns) (hz : ns.length ≤ 1000) (pl : IsPart vl lo) (pu : IsPart vu hi) (pk : IsPart vk st) (hst : st ≠ some 0)
    (h : ∀ l' h', IntsIn h' l' (pickNums ns lo hi st) → (∀ b o, s.heap.get? b = some o → h'.get? b = some o) → s.heap.get? l' = none → Q (.ref l') { s with heap := h' })
    (hs : subscripted slice false (.ref l) (.ref s.heap.objs.size) = operate ops (getItem (.ref l) (.ref s.heap.objs.size)) := by with_unfolding_all rfl)
    (ht : ∀ r, letTemporaryGo value (.ref l) r = pure () := by intro _; with_unfolding_all rfl) :
    wpAny (model prog w) A (subscriptTail value slice (.ref l) (.ref s.heap.objs.size)) Q E { s with heap := s.heap.push { cls := .type "slice", data := .fields #[vl, vu, vk] } } := by
  obtain ⟨vs, hL, hv⟩ := hl
  refine subscriptTail_ops (Heap.IsList.typeIs (s := { s with heap := s.heap.push { cls := .type "slice", data := .fields #[vl, vu, vk] } }) (hL.push _)) list_getitem_lookup
    (wpAny_getItem_list_slice (hL.push _) (Heap.IsSliceOf.new ..) pl pu pk hst ?_ ?_) hs ht
  · refine h _ _ ?_ (fun b o q => Heap.get?_push_of_some _ (Heap.get?_push_of_some _ q)) ?_
    · have := IntsIn.new (h := s.heap.push { cls := .type "slice", data := .fields #[vl, vu, vk] }) (hv.pick lo hi st)
      simpa using this
    · cases q : s.heap.get? (s.heap.push { cls := .type "slice", data := .fields #[vl, vu, vk] }).objs.size with
      | none => rfl
      | some o =>
        have q1 := Heap.lt_size q
        rw [Heap.size_push] at q1
        exact absurd q1 (Nat.not_lt.mpr (Nat.le_succ _))
  · have := hv.length; have := sizeLine_eq; simp; omega

theorem kcomp {scope : Scope} {C : Addr} {env : Env} {n : Str} {q : NameKind} (h : scope.names.lookup n = some q) : (compEnv scope C env).kindOf n = some q := h

theorem isi_bytes {x : Array UInt8} {u : Tok} {Q : Value → Shared → Prop} (h : Q (.bool true) s) : wpAny (model prog w) A (call (.builtin "isinstance") [.bytes x u, .type "bytes"]) Q E s :=
  call_isinstance (isinstance_true (Tx := "bytes") F.isi_meta_bytes F.sub_bytes_bytes) ⟨rfl, h⟩

theorem forget {h : Heap} {L : Addr} {m : Str → Option Value} (hn : h.Ns L m) : ∃ M, M = m ∧ h.Ns L M := ⟨m, rfl, hn⟩
theorem EvI.as {env : Env} {h : Heap} {e : Expr} {v v' : Int} (x : EvI prog w A env h e v) (q : v = v') : EvI prog w A env h e v' := q ▸ x

end
end Mine
namespace Mine
open PySem

/-- what a dressed text is made of: brackets, a backslash with its sign, a piece between quotation marks -/
inductive Tk where
  | op | cl
  | esc (c : Nat)
  | quo (inner : List Nat)
def Tk.cps : Tk → List Nat
  | .op => [40]
  | .cl => [41]
  | .esc c => [92, c]
  | .quo l => 34 :: (l ++ [34])
def Tk.ok : Tk → Prop
  | .quo l => ∀ c ∈ l, c ≠ 34 ∧ c ≠ 92
  | _ => True
def Tk.quoted : Tk → Bool
  | .quo _ => true
  | _ => false
def cpsOf (ts : List Tk) : List Nat := ts.flatMap Tk.cps
def strOf (ts : List Tk) : Str := ⟨(cpsOf ts).toArray⟩
def bal : List Tk → Int → Bool
  | [], n => n == 0
  | .op :: r, n => bal r (n + 1)
  | .cl :: r, n => if n - 1 < 0 then false else bal r (n - 1)
  | _ :: r, n => bal r n

theorem cpsOf_cons (t : Tk) (r : List Tk) : cpsOf (t :: r) = t.cps ++ cpsOf r := List.flatMap_cons

theorem join_empty : ∀ l : List Str, (Str.join (Str.ofString "") l).cps.toList = (l.map (·.cps.toList)).flatten
  | [] => rfl
  | [x] => by
    show x.cps.toList = ([x.cps.toList]).flatten
    simp
  | x :: y :: r => by
    show (x ++ Str.ofString "" ++ Str.join (Str.ofString "") (y :: r)).cps.toList = _
    rw [List.map_cons, List.flatten_cons, ← join_empty (y :: r)]
    show ((x.cps ++ (Str.ofString "").cps) ++ (Str.join (Str.ofString "") (y :: r)).cps).toList = _
    have : (Str.ofString "").cps = #[] := by decide
    rw [this]
    simp

theorem slice_at {x : Str} {i j : Nat} (h : i ≤ j) (hj : j ≤ x.cps.toList.length) : (Txt.slice x (some (i : Int)) (some (j : Int))).cps.toList = (x.cps.toList.drop i).take (j - i) := by
  have := eq_of_beq (slice_closes (x := x) (i := i) (j := j) ⟨by omega, by omega, by omega⟩)
  rw [this]
  have e : ((j : Int) - (i : Int)).toNat = j - i := by omega
  simp [e]
theorem slice_from {x : Str} {i : Nat} (hi : i ≤ x.cps.toList.length) : (Txt.slice x (some (i : Int)) none).cps.toList = x.cps.toList.drop i := by
  have hl : x.length = x.cps.toList.length := by simp [Str.length]
  rw [slice_from_eq (x := x) (i := i) (b := x.length) (by omega) (by omega) rfl]
  have e : ((x.length : Nat) : Int) - (i : Int) = ((x.cps.toList.length - i : Nat) : Int) := by omega
  rw [e]
  simp only [Int.toNat_natCast]
  exact List.take_of_length_le (by simp)

def innerE : List Nat → Nat → List (Nat × Str)
  | [], _ => []
  | c :: l, i => (i, ⟨#[c]⟩) :: innerE l (i + 1)
theorem escGo_inner : ∀ (l r : List Nat) (i : Nat), (∀ c ∈ l, c ≠ 92) → escGo (l ++ r) i false = innerE l i ++ escGo r (i + l.length) false
  | [], r, i, _ => by simp [innerE]
  | c :: l, r, i, h => by
    have hc : c ≠ 92 := h c (by simp)
    show (if c = 92 then escGo (l ++ r) (i + 1) true else (i, ⟨#[c]⟩) :: escGo (l ++ r) (i + 1) false) = _
    rw [if_neg hc, escGo_inner l r (i + 1) (fun c hc => h c (by simp [hc]))]
    simp [innerE]
    congr 1
    omega
theorem strip_inner (x : Str) : ∀ (l : List Nat) (i : Nat) (st : Nat × Option Nat × List Str), (∀ c ∈ l, c ≠ 34) → (innerE l i).foldl (stripStep x) st = st
  | [], _, _, _ => rfl
  | c :: l, i, st, h => by
    have hc : ¬ (⟨#[c]⟩ : Str) = ⟨#[34]⟩ := by
      intro e
      have : c = 34 := by simpa using e
      exact h c (by simp) this
    show (innerE l (i + 1)).foldl (stripStep x) (stripStep x st (i, ⟨#[c]⟩)) = st
    have : stripStep x st (i, ⟨#[c]⟩) = st := by unfold stripStep; rw [if_neg hc]
    rw [this]
    exact strip_inner x l (i + 1) st fun c hc => h c (by simp [hc])

def piled (l : List Str) : List Nat := (l.map (·.cps.toList)).flatten

theorem escGo_op (r : List Nat) (i : Nat) : escGo ((Tk.op).cps ++ r) i false = (i, ⟨#[40]⟩) :: escGo r (i + 1) false := by
  show (if (40 : Nat) = 92 then _ else _) = _
  rw [if_neg (by decide)]; rfl
theorem escGo_cl (r : List Nat) (i : Nat) : escGo ((Tk.cl).cps ++ r) i false = (i, ⟨#[41]⟩) :: escGo r (i + 1) false := by
  show (if (41 : Nat) = 92 then _ else _) = _
  rw [if_neg (by decide)]; rfl
theorem escGo_esc (c : Nat) (r : List Nat) (i : Nat) : escGo ((Tk.esc c).cps ++ r) i false = (i + 1, ⟨#[92, c]⟩) :: escGo r (i + 1 + 1) false := by
  show (if (92 : Nat) = 92 then escGo (c :: r) (i + 1) true else _) = _
  rw [if_pos rfl]; rfl
theorem escGo_quo (l : List Nat) (r : List Nat) (i : Nat) (h : ∀ c ∈ l, c ≠ 92) : escGo ((Tk.quo l).cps ++ r) i false = (i, ⟨#[34]⟩) :: (innerE l (i + 1) ++ (i + 1 + l.length, ⟨#[34]⟩) :: escGo r (i + 1 + l.length + 1) false) := by
  show (if (34 : Nat) = 92 then _ else (i, ⟨#[34]⟩) :: escGo ((l ++ [34]) ++ r) (i + 1) false) = _
  rw [if_neg (by decide), List.append_assoc, escGo_inner l _ _ h]
  congr 2

theorem drop_split {all pre mid post : List Nat} {a : Nat} (h : all = pre ++ (mid ++ post)) (ha : a ≤ pre.length) : (all.drop a).take (pre.length + mid.length - a) = (all.drop a).take (pre.length - a) ++ mid := by
  subst h
  rw [List.drop_append_of_le_length ha]
  have e1 : (pre.drop a).length = pre.length - a := List.length_drop
  have e2 : pre.length + mid.length - a = (pre.drop a).length + mid.length := by omega
  rw [e2, List.take_length_add_append, ← e1, List.take_left, List.take_left]

/-- the pieces kept so far, and the rest of the text behind the last quotation mark -/
theorem strip_fold (x : Str) : ∀ (ts : List Tk) (pre : List Nat) (a : Nat) (acc : List Str), (∀ t ∈ ts, t.ok) → x.cps.toList = pre ++ cpsOf ts → a ≤ pre.length →
    ∃ a' acc', (escGo (cpsOf ts) pre.length false).foldl (stripStep x) (a, none, acc) = (a', none, acc') ∧ a' ≤ x.cps.toList.length ∧
      piled acc' ++ x.cps.toList.drop a' = (piled acc ++ (x.cps.toList.drop a).take (pre.length - a)) ++ cpsOf (ts.filter fun t => !t.quoted)
  | [], pre, a, acc, _, hx, ha => by
    refine ⟨a, acc, rfl, ?_, ?_⟩
    · rw [hx]; simp [cpsOf]; omega
    · have : x.cps.toList = pre := by rw [hx]; simp [cpsOf]
      rw [this]
      simp [cpsOf, List.take_of_length_le]
  | t :: ts, pre, a, acc, hok, hx, ha => by
    have hts : ∀ t ∈ ts, t.ok := fun t h => hok t (by simp [h])
    rw [cpsOf_cons] at hx ⊢
    have simple : ∀ (p : Nat × Str) (n : Nat), n = t.cps.length → t.quoted = false → ¬ p.2 = ⟨#[34]⟩ → escGo (t.cps ++ cpsOf ts) pre.length false = p :: escGo (cpsOf ts) (pre.length + n) false →
        ∃ a' acc', (escGo (t.cps ++ cpsOf ts) pre.length false).foldl (stripStep x) (a, none, acc) = (a', none, acc') ∧ a' ≤ x.cps.toList.length ∧
          piled acc' ++ x.cps.toList.drop a' = (piled acc ++ (x.cps.toList.drop a).take (pre.length - a)) ++ cpsOf ((t :: ts).filter fun t => !t.quoted) := by
      intro p n hn hq hp he
      rw [he]
      have hstep : stripStep x (a, none, acc) p = (a, none, acc) := by unfold stripStep; rw [if_neg hp]
      rw [List.foldl_cons, hstep]
      have hx' : x.cps.toList = (pre ++ t.cps) ++ cpsOf ts := by rw [hx, List.append_assoc]
      obtain ⟨a', acc', h1, h2, h3⟩ := strip_fold x ts (pre ++ t.cps) a acc hts hx' (by rw [List.length_append]; omega)
      rw [List.length_append, ← hn] at h1 h3
      refine ⟨a', acc', h1, h2, ?_⟩
      rw [h3, List.filter_cons_of_pos (by rw [hq]; rfl), cpsOf_cons, hn, drop_split hx ha]
      simp [List.append_assoc]
    cases t with
    | op => exact simple _ 1 rfl rfl (show ¬ (⟨#[40]⟩ : Str) = ⟨#[34]⟩ by decide) (escGo_op _ _)
    | cl => exact simple _ 1 rfl rfl (show ¬ (⟨#[41]⟩ : Str) = ⟨#[34]⟩ by decide) (escGo_cl _ _)
    | esc c => exact simple _ 2 rfl rfl (by intro e; have := congrArg (fun s : Str => s.cps.size) e; simp at this) (escGo_esc _ _ _)
    | quo l =>
      have hl : ∀ c ∈ l, c ≠ 34 ∧ c ≠ 92 := hok (.quo l) (by simp)
      rw [escGo_quo l _ _ fun c hc => (hl c hc).2]
      have s1 : stripStep x (a, none, acc) (pre.length, ⟨#[34]⟩) = (a, some pre.length, acc) := by unfold stripStep; rw [if_pos rfl]
      rw [List.foldl_cons, s1, List.foldl_append, strip_inner x l _ _ (fun c hc => (hl c hc).1), List.foldl_cons]
      have s2 : stripStep x (a, some pre.length, acc) (pre.length + 1 + l.length, ⟨#[34]⟩) = (pre.length + 1 + l.length + 1, none, if a = pre.length then acc else acc ++ [Txt.slice x (some (a : Int)) (some ((pre.length : Nat) : Int))]) := by
        unfold stripStep; rw [if_pos rfl]
      rw [s2]
      have hx' : x.cps.toList = (pre ++ (Tk.quo l).cps) ++ cpsOf ts := by rw [hx, List.append_assoc]
      have hlen : (pre ++ (Tk.quo l).cps).length = pre.length + 1 + l.length + 1 := by simp [Tk.cps]; omega
      obtain ⟨a', acc', h1, h2, h3⟩ := strip_fold x ts (pre ++ (Tk.quo l).cps) (pre.length + 1 + l.length + 1) (if a = pre.length then acc else acc ++ [Txt.slice x (some (a : Int)) (some ((pre.length : Nat) : Int))]) hts hx' (by omega)
      rw [hlen] at h1 h3
      refine ⟨a', acc', h1, h2, ?_⟩
      rw [h3, List.filter_cons_of_neg (by simp [Tk.quoted]), Nat.sub_self, List.take_zero, List.append_nil]
      congr 1
      by_cases hap : a = pre.length
      · rw [if_pos hap, hap, Nat.sub_self, List.take_zero, List.append_nil]
      · rw [if_neg hap]
        have hle : pre.length ≤ x.cps.toList.length := by rw [hx, List.length_append]; omega
        simp only [piled, List.map_append, List.flatten_append, List.map_cons, List.map_nil, List.flatten_cons, List.flatten_nil, List.append_nil]
        rw [slice_at ha hle]

theorem no_quo : ∀ ts : List Tk, (34 : Nat) ∉ cpsOf ts → (ts.filter fun t => !t.quoted) = ts
  | [], _ => rfl
  | t :: ts, h => by
    rw [cpsOf_cons] at h
    have h1 : (34 : Nat) ∉ t.cps := fun q => h (by simp [q])
    have h2 : (34 : Nat) ∉ cpsOf ts := fun q => h (by simp [q])
    have hq : t.quoted = false := by
      cases t with
      | quo l => exact absurd (by simp [Tk.cps]) h1
      | _ => rfl
    rw [List.filter_cons_of_pos (by rw [hq]; rfl), no_quo ts h2]

theorem strip_of {ts : List Tk} (hok : ∀ t ∈ ts, t.ok) : stripOf (strOf ts) = strOf (ts.filter fun t => !t.quoted) := by
  have hcps : (strOf ts).cps.toList = cpsOf ts := by simp [strOf]
  unfold stripOf
  by_cases h : 34 ∈ (strOf ts).cps.toList
  · rw [if_pos h]
    obtain ⟨a', acc', h1, h2, h3⟩ := strip_fold (strOf ts) ts [] 0 [] hok (by rw [hcps]; rfl) (Nat.le_refl _)
    have hf : stripFold (strOf ts) (escOf (strOf ts)) = (a', none, acc') := by
      unfold stripFold escOf
      rw [hcps]
      exact h1
    rw [hf]
    dsimp only
    have hl : (strOf ts).length = (strOf ts).cps.toList.length := by simp [Str.length]
    have key : (Str.join (Str.ofString "") (if a' < (strOf ts).length then acc' ++ [Txt.slice (strOf ts) (some (a' : Int)) none] else acc')).cps.toList = cpsOf (ts.filter fun t => !t.quoted) := by
      rw [join_empty]
      have h3' : piled acc' ++ (strOf ts).cps.toList.drop a' = cpsOf (ts.filter fun t => !t.quoted) := by simpa [piled] using h3
      rw [← h3']
      by_cases hlt : a' < (strOf ts).length
      · rw [if_pos hlt]
        simp only [List.map_append, List.flatten_append, List.map_cons, List.map_nil, List.flatten_cons, List.flatten_nil, List.append_nil, piled]
        rw [slice_from h2]
      · rw [if_neg hlt]
        rw [List.drop_eq_nil_of_le (by omega), List.append_nil]
        rfl
    have : ∀ s : Str, s = ⟨s.cps.toList.toArray⟩ := fun s => by cases s; simp
    rw [this (Str.join _ _), key]
    rfl
  · rw [if_neg h, no_quo ts (by rwa [hcps] at h)]

theorem chk_go : ∀ (ts : List Tk) (i : Nat) (n : Int), (∀ t ∈ ts, t.quoted = false) → chkGo (escGo (cpsOf ts) i false) n = bal ts n
  | [], _, _, _ => rfl
  | t :: ts, i, n, h => by
    have ih := fun i n => chk_go ts i n fun t ht => h t (by simp [ht])
    rw [cpsOf_cons]
    cases t with
    | op =>
      rw [escGo_op]
      show (if (⟨#[40]⟩ : Str) = ⟨#[40]⟩ then _ else _) = _
      rw [if_pos rfl]; exact ih _ _
    | cl =>
      rw [escGo_cl]
      show (if (⟨#[41]⟩ : Str) = ⟨#[40]⟩ then _ else if (⟨#[41]⟩ : Str) = ⟨#[41]⟩ then (if n - 1 < 0 then false else chkGo _ (n - 1)) else _) = (if n - 1 < 0 then false else bal ts (n - 1))
      rw [if_neg (by decide), if_pos rfl, ih]
    | esc c =>
      rw [escGo_esc]
      have e1 : ¬ (⟨#[92, c]⟩ : Str) = ⟨#[40]⟩ := by intro e; have := congrArg (fun s : Str => s.cps.size) e; simp at this
      have e2 : ¬ (⟨#[92, c]⟩ : Str) = ⟨#[41]⟩ := by intro e; have := congrArg (fun s : Str => s.cps.size) e; simp at this
      show (if (⟨#[92, c]⟩ : Str) = ⟨#[40]⟩ then _ else if (⟨#[92, c]⟩ : Str) = ⟨#[41]⟩ then _ else chkGo _ n) = _
      rw [if_neg e1, if_neg e2]; exact ih _ _
    | quo l => exact absurd (h (.quo l) (by simp)) (by simp [Tk.quoted])

theorem bal_filter : ∀ (ts : List Tk) (n : Int), bal (ts.filter fun t => !t.quoted) n = bal ts n
  | [], _ => rfl
  | t :: ts, n => by
    cases t with
    | op => exact bal_filter ts _
    | cl =>
      show (if n - 1 < 0 then false else bal (ts.filter fun t => !t.quoted) (n - 1)) = (if n - 1 < 0 then false else bal ts (n - 1))
      rw [bal_filter ts]
    | esc c => exact bal_filter ts _
    | quo l => exact bal_filter ts _

/-- the check counts the bare brackets alone -/
theorem chk_tokens {ts : List Tk} (hok : ∀ t ∈ ts, t.ok) : chk (strOf ts) = bal ts 0 := by
  unfold chk
  rw [strip_of hok]
  unfold escOf strOf
  rw [List.toList_toArray, chk_go _ _ _ (fun t ht => by simpa using (List.mem_filter.mp ht).2), bal_filter]
end Mine
namespace Mine
open PySem

theorem plain_ne_ns {h : Heap} {D L : Addr} {items : Array Value} {m : Str → Option Value} (x : h.PlainList D items) (hn : h.Ns L m) : D ≠ L := by
  rintro rfl
  obtain ⟨n, q⟩ := x
  obtain ⟨o', _, _, ho', hd', _⟩ := hn
  rw [q] at ho'
  cases ho'
  simp at hd'
theorem IntsIn.of_plain {h : Heap} {D : Addr} {items : Array Value} {ns : List Int} (x : h.PlainList D items) (y : IntsAre items.toList ns) : IntsIn h D ns := ⟨items.toList, by simpa using x.isList, y⟩

section
variable {prog : Program} {w : World} {A : Around} {E : Value → Shared → Prop} {s : Shared}

theorem is_lt {env : Env} {l r : Expr} {pos : Pos} {whole : Sem Value} {a b : Int} {Q : Bool → Shared → Prop} (hl : EvI prog w A env s.heap l a) (hr : EvI prog w A env s.heap r b) (h : ∀ tk, Q (decide (a < b)) { s with toks := tk })
    (hm : behindInMarks .Lt r = false := by with_unfolding_all rfl) : wpAny (model prog w) A (isTrue (.Compare l [.Lt] [r] pos) env whole) Q E s :=
  wpAny_isTrue_Compare1 (hl _ _ _ rfl fun _ tk => hr { s with toks := tk } _ _ rfl fun _ _ => lt_int (wpAny_truthy_bool (h _))) hm
theorem is_gt {env : Env} {l r : Expr} {pos : Pos} {whole : Sem Value} {a b : Int} {Q : Bool → Shared → Prop} (hl : EvI prog w A env s.heap l a) (hr : EvI prog w A env s.heap r b) (h : ∀ tk, Q (decide (b < a)) { s with toks := tk })
    (hm : behindInMarks .Gt r = false := by with_unfolding_all rfl) : wpAny (model prog w) A (isTrue (.Compare l [.Gt] [r] pos) env whole) Q E s :=
  wpAny_isTrue_Compare1 (hl _ _ _ rfl fun _ tk => hr { s with toks := tk } _ _ rfl fun _ _ => gt_int (wpAny_truthy_bool (h _))) hm
theorem is_eq {env : Env} {l r : Expr} {pos : Pos} {whole : Sem Value} {a b : Int} {Q : Bool → Shared → Prop} (hl : EvI prog w A env s.heap l a) (hr : EvI prog w A env s.heap r b) (h : ∀ tk, Q (a == b) { s with toks := tk })
    (hm : behindInMarks .Eq r = false := by with_unfolding_all rfl) : wpAny (model prog w) A (isTrue (.Compare l [.Eq] [r] pos) env whole) Q E s :=
  wpAny_isTrue_Compare1 (hl _ _ _ rfl fun _ tk => hr { s with toks := tk } _ _ rfl fun _ _ => eq_int (wpAny_truthy_bool (h _))) hm

theorem append_int {env : Env} {e : Expr} {n : Str} {p1 p2 p3 p4 : Pos} {D : Addr} {m : Str → Option Value} {items : Array Value} {ds : List Int} {v : Int} {Q : Flow → Shared → Prop}
    (hk : env.scope.kind = .function) (hkn : env.kindOf n = some .local) (hn : s.heap.Ns env.locals m) (hm : m n = some (.ref D)) (hD : s.heap.PlainList D items) (hI : IntsAre items.toList ds) (hz : ds.length ≤ 10000) (he : EvI prog w A env s.heap e v)
    (h : ∀ h' tk items', h'.PlainList D items' → IntsAre items'.toList (ds ++ [v]) → Heap.SameBut D s.heap h' → Q .next { s with heap := h', toks := tk })
    (hi : interactive env = false) (hline : (p2.endLine == p3.line) = true) (hse : starEach [e] env = [(false, eval e env)] := by rfl) (hsw : swapsWith (.Call (.Attribute (.Name n p1) "append" p2) [e] [] p3) none p4.line env = pure false := by rfl)
    (hbase : attributeBase (.Name n p1) "append" env (eval (.Name n p1) env) = eval (.Name n p1) env := by rfl) (hd : (n == ("__debug__" : Str)) = false := by decide) :
    wpAny (model prog w) A (exec (.Expr (.Call (.Attribute (.Name n p1) "append" p2) [e] [] p3) p4) env) Q E s := by
  refine append_stmt hk hkn hn hm hD (he _ _ _ rfl fun t tk => ⟨items, hD, ?_, fun h' hD' hs' => h h' tk _ hD' ?_ hs'⟩) hi hline hse hsw hbase hd
  · have e1 := hI.length
    have e2 : items.toList.length = items.size := by simp
    have := sizeLine_eq; omega
  · rw [Array.toList_push]
    exact hI.append (.cons _ _ .nil)

theorem ne_empty {l b : Addr} {ns : List Int} {Q : Value → Shared → Prop} (hl : IntsIn s.heap l ns) (hb : IntsIn s.heap b []) (hu : A.units < cLine) (h : Q (.bool (!ns.isEmpty)) s) : wpAny (model prog w) A (compareOp .NotEq (.ref l) (.ref b)) Q E s := by
  obtain ⟨vs, hL, hi⟩ := hl
  obtain ⟨ws, hB, hj⟩ := hb
  have e1 := hi.length
  have e2 := hj.length
  cases ns with
  | nil =>
    exact PySem.SeqAt.RcNeAt.lists (e := fun _ => true) hL hB (by simp [e1, e2]) hu (fun j h1 _ => absurd h1 (by simp [e1])) prog w E Q (by simpa [e1] using h)
  | cons n ns =>
    exact PySem.SeqAt.RcNeAt.lists_lengths hL hB (by simp [e1, e2]) hu prog w E Q (by simpa using h)
end
end Mine
namespace Mine
open PySem

/-- a list of texts in a heap -/
def StrsIn (h : Heap) (l : Addr) (xs : List Str) : Prop := ∃ vs, h.IsList l vs.toArray ∧ StrsAre vs xs
theorem StrsIn.keeps {h h' : Heap} {l : Addr} {xs : List Str} (x : StrsIn h l xs) (k : ∀ o, h.get? l = some o → h'.get? l = some o) : StrsIn h' l xs :=
  let ⟨vs, ⟨o, ho, r⟩, q⟩ := x; ⟨vs, ⟨o, k o ho, r⟩, q⟩
theorem strs_get {vs : List Value} {xs : List Str} (x : StrsAre vs xs) : ∀ (j : Nat) (y : Str), xs[j]? = some y → ∃ t, vs[j]? = some (Value.str y t) := by
  induction x with
  | nil => intro j y h; cases j <;> cases h
  | cons z t _ ih =>
    intro j y h
    cases j with
    | zero => cases h; exact ⟨t, rfl⟩
    | succ j => exact ih j y h
theorem strs_len {vs : List Value} {xs : List Str} (x : StrsAre vs xs) : vs.length = xs.length := by
  induction x with
  | nil => rfl
  | cons z t _ ih => simp [ih]

section
variable {prog : Program} {w : World} {A : Around} {E : Value → Shared → Prop} {s : Shared}

/-- the frame of a def, some of its parameters seen by the defs within it -/
theorem enterCells {st : Stmt} {f : Addr} {base : Heap} {vs : List Value} {binds : List (Str × Value)} {cs : Addr → List (Str × Addr)} {Q : Value → Shared → Prop} (hroom : A.depth < recursionLimit) (fn : FnIs base st f) (hl : base.NoLimit) (hb : ∀ b o, base.get? b = some o → s.heap.get? b = some o)
    (hbind : ∀ fd : FuncData, fd.params = defArgs st → fd.defaults = .none → fd.kwdefaults = .none → bindArgs fd ⟨vs, []⟩ = pure binds)
    (hcells : ∀ L, cellsFrom L (defScope st).names [] = cs L) (hkind : ∀ L, ∀ x ∈ binds, (defScope st).names.lookup x.1 = some .local ∨ ((defScope st).names.lookup x.1 = some .cell ∧ ((cs L).lookup x.1).isSome = true))
    (hco : (defScope st).isCoroutine = false) (hgen : (defScope st).isGenerator = false) (hk : (defScope st).kind = .function)
    (h : ∀ env h₁ tk, env.scope = defScope st → env.locals = s.heap.objs.size → env.globals = mainGlobals → env.builtins = builtinsNs → interactive env = false → env.cells = cs (s.heap.objs.size + 1) →
      (∀ n c, env.cells.lookup n = some c → c ≠ s.heap.objs.size ∧ s.heap.get? c = none ∧ h₁.IsCell c (bindC (fun n => (defScope st).names.lookup n) binds (fun _ => none) n)) → (∀ n c n' c', env.cells.lookup n = some c → env.cells.lookup n' = some c' → n ≠ n' → c ≠ c') →
      h₁.Ns s.heap.objs.size (bindL (fun n => (defScope st).names.lookup n) binds (fun _ => none)) → (∀ b o, s.heap.get? b = some o → h₁.get? b = some o) →
      wpAny (model prog w) (A.deeper env) (execs (defBody st) env) (fun fl s' => Q (match fl with | .ret v => v | _ => .none) s') (fun _ _ => False) { s with heap := h₁, toks := tk }) :
    wpAny (model prog w) A (call (.ref f) vs) Q E s := by
  obtain ⟨o, fd, h1, h2, h3, h4, h5, h6, h7, h8, h9, h10, h11⟩ := fn.out
  have hcs : ∀ L, cellsFrom L fd.scope.names [] = cs L := fun L => by rw [h3, hcells]
  refine wpAny_call (codeAny_call_cells (binds := binds) hroom (hb _ _ h1) h2 (hl.keeps hb) (h11.keeps hb) h4 (hbind fd h5 h9 h10) h6 ?_ (fun s₁ x => ?_) (by rw [h3]; exact hco) (by rw [h3]; exact hgen) (by rw [h3]; exact hk))
  · intro y hy
    rw [hcs, h3]
    exact hkind _ y hy
  · obtain ⟨h₁, tk, rfl⟩ := x.toInCall.same
    have ek : (callEnvC fd s.heap.objs.size f).kindOf = fun n => (defScope st).names.lookup n := by
      funext n
      show fd.scope.names.lookup n = _
      rw [h3]
    have hn := x.toInCall.ns
    rw [ek] at hn
    refine wpAny_mono (h (callEnvC fd s.heap.objs.size f) h₁ tk h3 rfl h7 h8 ?_ (hcs _) (fun n c hc => ⟨Nat.ne_of_gt (x.above n c (mem_of_lookup hc)), ?_, ek ▸ x.cell n c hc⟩) (fun n c n' c' hc hc' hne e => hne ?_) hn x.toInCall.keep) (fun fl s' q => q) fun _ _ q => q.elim
    · show interactive (callEnvC fd s.heap.objs.size f) = false
      unfold interactive callEnvC newEnv
      dsimp only
      rw [h3, hk]
      rfl
    · have ha : s.heap.objs.size < c := x.above n c (mem_of_lookup hc)
      cases q : s.heap.get? c with
      | none => rfl
      | some o => exact absurd (Heap.lt_size q) (Nat.not_lt.mpr (Nat.le_of_lt ha))
    · exact name_of_addr x.apart (mem_of_lookup hc) (e ▸ mem_of_lookup hc')

theorem EvI.itemC {env : Env} {h : Heap} {n : Str} {slice : Expr} {p pos : Pos} {c l : Addr} {ns : List Int} {i : Int} (hk : env.scope.kind = .function) (hl : env.kindOf n = some .cell) (hc : env.cells.lookup n = some c) (hcl : h.IsCell c (some (.ref l))) (hi : IntsIn h l ns)
    (hs : EvI prog w A env h slice i) (h1 : -(ns.length : Int) ≤ i) (h2 : i < ns.length) (hz : ns.length ≤ 1000)
    (hss : ∀ u, subscripted slice false (.ref l) (.int i u) = operate [.ref l, .int i u] (getItem (.ref l) (.int i u)) := by intro _; with_unfolding_all rfl) (hd : (n == ("__debug__" : Str)) = false := by decide) :
    EvI prog w A env h (.Subscript (.Name n p) slice pos) (itemAt ns i) := by
  refine fun s E Q e hQ => Subscript_ (wpAny_Name (wpAny_loadName_cell hk hl hc (e ▸ hcl) (hs s E _ e fun u tk => ?_)) hd)
  exact list_item (s := { s with toks := tk }) (e ▸ hi) h1 h2 hz (fun t => hQ t tk) (hss u)

theorem is_chain {env : Env} {l r1 r2 : Expr} {pos : Pos} {whole : Sem Value} {a b c : Int} {Q : Bool → Shared → Prop} (hl : EvI prog w A env s.heap l a) (h1 : EvI prog w A env s.heap r1 b) (h2 : EvI prog w A env s.heap r2 c)
    (h : ∀ tk, Q (decide (a < b) && decide (b < c)) { s with toks := tk }) (hm : lastMarks [.Lt, .Lt] [r1, r2] = false := by with_unfolding_all rfl) : wpAny (model prog w) A (isTrue (.Compare l [.Lt, .Lt] [r1, r2] pos) env whole) Q E s := by
  refine isTrue_chain (hl _ _ _ rfl fun _ tk => test_link (h1 { s with toks := tk } _ _ rfl fun _ tk₁ => lt_int (wpAny_truthy_bool ?_))) hm
  by_cases hab : a < b
  · rw [show decide (a < b) = true by simpa using hab, if_pos rfl]
    refine test_last (h2 { s with toks := tk₁ } _ _ rfl fun _ tk₂ => lt_int (wpAny_truthy_bool ?_))
    have := h tk₂
    rwa [show decide (a < b) = true by simpa using hab, Bool.true_and] at this
  · rw [show decide (a < b) = false by simpa using hab, if_neg Bool.false_ne_true]
    have := h tk₁
    rwa [show decide (a < b) = false by simpa using hab, Bool.false_and] at this

theorem call_extend {D b : Addr} {its its2 : Array Value} {ns ms : List Int} {Q : Value → Shared → Prop} (hD : s.heap.PlainList D its) (hb : s.heap.PlainList b its2) (hi : IntsAre its.toList ns) (hj : IntsAre its2.toList ms) (hz : ns.length + ms.length ≤ 10000)
    (h : ∀ h' its', h'.PlainList D its' → IntsAre its'.toList (ns ++ ms) → Heap.SameBut D s.heap h' → Q .none { s with heap := h' }) : wpAny (model prog w) A (call (.builtin "list.extend") [.ref D, .ref b]) Q E s := by
  obtain ⟨n, hD⟩ := hD
  obtain ⟨n2, hb⟩ := hb
  have hsz : its.size + its2.size ≤ sizeLine := by
    have e1 := hi.length; have e2 := hj.length
    simp only [Array.length_toList] at e1 e2
    have := sizeLine_eq; omega
  refine call_meets PySem.F.slot_list_extend ⟨_, hD, rfl⟩ PySem.F.entry_list_extend (PySem.F.args_list_extend_2 _ _) (AutoSeq1.list_extend_list_list_0 D its n b its2 n2 (extend_door hsz) (Nat.le_trans (Nat.le_add_right _ _) hsz)) ⟨hD, hb, ?_⟩
  have ho' : (s.heap.update D (Obj.mapSeq fun x => x ++ its2)).get? D = some { cls := .type "list", data := .seq (its ++ its2) (if (its ++ its2).size == its.size then n else n + 1) } := by
    rw [Heap.get?_update_self _ hD (by rw [mapSeq_app]; rfl), mapSeq_app]
  exact h _ (its ++ its2) ⟨_, ho'⟩ (by rw [Array.toList_append]; exact hi.append hj) (Heap.SameBut.update ..)
end
end Mine
namespace Mine
open PySem

theorem rep_ints {vs : List Value} {ns : List Int} (h : IntsAre vs ns) : ∀ k, IntsAre (List.replicate k vs).flatten (List.replicate k ns).flatten
  | 0 => .nil
  | k + 1 => by
    rw [List.replicate_succ, List.replicate_succ, List.flatten_cons, List.flatten_cons]
    exact h.append (rep_ints h k)
theorem strs_append {vs ws : List Value} {xs ys : List Str} (h : StrsAre vs xs) (k : StrsAre ws ys) : StrsAre (vs ++ ws) (xs ++ ys) := by
  induction h with
  | nil => exact k
  | cons y t _ ih => exact .cons y t ih
theorem rep_strs {vs : List Value} {ns : List Str} (h : StrsAre vs ns) : ∀ k, StrsAre (List.replicate k vs).flatten (List.replicate k ns).flatten
  | 0 => .nil
  | k + 1 => by
    rw [List.replicate_succ, List.replicate_succ, List.flatten_cons, List.flatten_cons]
    exact strs_append h (rep_strs h k)

section
variable {prog : Program} {w : World} {A : Around} {E : Value → Shared → Prop} {s : Shared}

/-- a list times an int; one more new list, D, stays as it is -/
theorem mul_items {h₀ : Heap} {L D l : Addr} {m : Str → Option Value} {dits items : Array Value} {x : Int} {u : Tok} {Q : Value → Shared → Prop} (hn : s.heap.Ns L m) (keep : ∀ b o, h₀.get? b = some o → s.heap.get? b = some o) (hL : h₀.objs.size ≤ L)
    (hD : s.heap.PlainList D dits) (hD₀ : h₀.get? D = none) (hl : s.heap.PlainList l items) (hne : items.isEmpty = false) (hlo : -1000 ≤ x) (hhi : x ≤ 1000) (hz : items.size ≤ 1000)
    (h : ∀ h', h'.Ns L m → (∀ b o, h₀.get? b = some o → h'.get? b = some o) → h'.PlainList D dits → h'.PlainList s.heap.objs.size (List.replicate x.toNat items.toList).flatten.toArray → Q (.ref s.heap.objs.size) { s with heap := h' }) :
    wpAny (model prog w) A (binaryOp .Mult (.ref l) (.int x u)) Q E s := by
  have hDL := plain_ne_ns hD hn
  obtain ⟨n, hl⟩ := hl
  obtain ⟨nd, hD⟩ := hD
  have F : Fr h₀ L s.heap m := ⟨hn, keep, hL⟩
  have N : News h₀ L s.heap [(D, { cls := .type "list", data := .seq dits nd })] := fun p hp => by
    rw [List.mem_singleton.mp hp]
    exact ⟨hD, hDL, hD₀⟩
  refine mul_list F N hl (by omega) (by omega) ?_ fun h' F' N' => ?_
  · have : items.size * x.toNat ≤ 1000 * 1000 := Nat.mul_le_mul hz (by omega)
    omega
  · have hI := (N' _ (.head _)).1
    rw [hne] at hI
    simp only [Bool.false_eq_true, if_false, listMul_foldl] at hI
    have hD' := (N' _ (.tail _ (.head _))).1
    refine h h' F'.ns F'.keep ⟨nd, hD'⟩ ⟨0, ?_⟩
    simpa using hI

/-- two lists, one behind the other -/
theorem add_items {l b : Addr} {its its2 : Array Value} {Q : Value → Shared → Prop} (hl : s.heap.PlainList l its) (hb : s.heap.PlainList b its2) (hz : its.size + its2.size ≤ 10000)
    (h : ∀ h', h'.PlainList s.heap.objs.size (its.toList ++ its2.toList).toArray → (∀ b o, s.heap.get? b = some o → h'.get? b = some o) → Q (.ref s.heap.objs.size) { s with heap := h' }) : wpAny (model prog w) A (binaryOp .Add (.ref l) (.ref b)) Q E s := by
  obtain ⟨n, ho⟩ := hl
  obtain ⟨n2, ho2⟩ := hb
  have e : its ++ its2 = (its.toList ++ its2.toList).toArray := by simp
  refine concat_meets ⟨_, ho, rfl⟩ ⟨_, ho2, rfl⟩ noFill_list_add seq_list_add PySem.F.slot_list_add PySem.F.entry_list_add (PySem.F.args_list_add_2 _ _) (list_addW l b its its2 n n2 _ _ _ _ (by have := sizeLine_eq; omega)) ⟨ho, ho2, ?_⟩
  rw [e]
  exact h _ ⟨0, Heap.get?_push_size _ rfl⟩ fun b o q => Heap.get?_push_of_some _ q

theorem slice_items {value slice : Expr} {l : Addr} {items : Array Value} {lo hi st : Option Int} {vl vu vk : Value} {ops : List Value} {Q : Value → Shared → Prop} {s : Shared} (hl : s.heap.IsList l items) (hz : items.size ≤ 1000) (pl : IsPart vl lo) (pu : IsPart vu hi) (pk : IsPart vk st) (hst : st ≠ some 0)
    (h : ∀ l' h', h'.PlainList l' (slicePick items lo hi st) → (∀ b o, s.heap.get? b = some o → h'.get? b = some o) → s.heap.get? l' = none → Q (.ref l') { s with heap := h' })
    (hs : subscripted slice false (.ref l) (.ref s.heap.objs.size) = operate ops (getItem (.ref l) (.ref s.heap.objs.size)) := by with_unfolding_all rfl)
    (ht : ∀ r, letTemporaryGo value (.ref l) r = pure () := by intro _; with_unfolding_all rfl) :
    wpAny (model prog w) A (subscriptTail value slice (.ref l) (.ref s.heap.objs.size)) Q E { s with heap := s.heap.push { cls := .type "slice", data := .fields #[vl, vu, vk] } } := by
  refine subscriptTail_ops (Heap.IsList.typeIs (s := { s with heap := s.heap.push { cls := .type "slice", data := .fields #[vl, vu, vk] } }) (hl.push _)) list_getitem_lookup
    (wpAny_getItem_list_slice (hl.push _) (Heap.IsSliceOf.new ..) pl pu pk hst ?_ ?_) hs ht
  · refine h _ _ ⟨0, Heap.get?_push_size _ rfl⟩ (fun b o q => Heap.get?_push_of_some _ (Heap.get?_push_of_some _ q)) ?_
    cases q : s.heap.get? (s.heap.push { cls := .type "slice", data := .fields #[vl, vu, vk] }).objs.size with
    | none => rfl
    | some o =>
      have q1 := Heap.lt_size q
      rw [Heap.size_push] at q1
      exact absurd q1 (Nat.not_lt.mpr (Nat.le_succ _))
  · have := sizeLine_eq; omega

/-- len(name) -/
theorem EvI.len {env : Env} {h base : Heap} {n : Str} {p1 p2 pos : Pos} {D : Addr} {items : Array Value} {m mg mb : Str → Option Value} (hk : env.scope.kind = .function) (hl : env.kindOf n = some .local) (hg0 : env.kindOf "len" = some .globalImplicit) (hn : h.Ns env.locals m) (hm : m n = some (.ref D)) (hD : h.PlainList D items) (hz : items.size ≤ 10000)
    (hg : base.Ns env.globals mg) (hg1 : mg "len" = none) (hbl : base.Ns env.builtins mb) (hbl1 : mb "len" = some (.builtin "len")) (hb : ∀ b o, base.get? b = some o → h.get? b = some o) (hd : (n == ("__debug__" : Str)) = false := by decide) :
    EvI prog w A env h (.Call (.Name "len" p1) [.Name n p2] [] pos) (items.size : Int) := by
  intro s E Q e hQ
  subst e
  refine Call_Name1 (Calls.Name_function_global hk hg0 (Calls.loadGlobal_builtin (hg.keeps hb) hg1 (hbl.keeps hb) hbl1 (Calls.callWith_builtin rfl (Calls.evalArgs_plain (Calls.spliced_cons (nm hk hl hn hm (Calls.spliced_nil (Calls.call_len_list hD.isList (by omega) (hQ _ _))) hd))))))
end
end Mine
namespace Mine
open PySem

/-- the items that the places 0, 1, .. give -/
def ItemsBy (F : Nat → Value → Prop) (cnt : Nat) (items : Array Value) : Prop := items.size = cnt ∧ ∀ j, j < cnt → ∃ v, items[j]? = some v ∧ F j v

theorem itemsBy_of {F : Nat → Value → Prop} {cnt : Nat} {vs : List Value} {ys : Array Value} (hlen : vs.length = cnt) (hvs : ∀ (j : Nat) (v : Value), vs[j]? = some v → ∃ t, v = Value.int ((0 : Int) + (j : Int) * 1) t)
    (hF : Paired (fun (v y : Value) => ∃ (j : Nat) (t : Tok), v = Value.int (j : Int) t ∧ F j y) vs ys.toList) : ItemsBy F cnt ys := by
  have l := hF.length
  refine ⟨by simpa [hlen] using l.symm, fun j hj => ?_⟩
  have hj' : j < ys.toList.length := by rw [← l, hlen]; exact hj
  obtain ⟨v, h1, i, t, h2, h3⟩ := paired_get hF (j := j) (b := ys.toList[j]) (by rw [List.getElem?_eq_getElem hj'])
  obtain ⟨t', h4⟩ := hvs j v h1
  rw [h2] at h4
  have : i = j := by
    have := (Value.int.inj h4).1
    omega
  subst this
  refine ⟨_, ?_, h3⟩
  rw [← Array.getElem?_toList, List.getElem?_eq_getElem hj']

theorem lookup_map_kind (g : Str → NameKind → NameKind) : ∀ (names : List (Str × NameKind)) (x : Str), (names.map fun p => (p.1, g p.1 p.2)).lookup x = (names.lookup x).map (g x)
  | [], _ => rfl
  | (n, k) :: r, x => by
    rw [List.map_cons, List.lookup_cons, List.lookup_cons]
    cases hx : x == n with
    | true =>
      have : x = n := by simpa using hx
      subst this; rfl
    | false => exact lookup_map_kind g r x
theorem relabel_lookup {scope : Scope} {env : Env} {cl : List (Str × Addr)} {C : Addr} {n : Str} {k : NameKind} (h : scope.names.lookup n = some k) :
    (compEnvC scope cl C env).kindOf n = some (if (k == .free && env.scope.kind == .function && env.kindOf n == some .cell) = true then .cell else k) := by
  show (relabel scope env).names.lookup n = _
  have e : (relabel scope env).names = scope.names.map fun p => (p.1, (fun n k => if (k == NameKind.free && env.scope.kind == .function && env.kindOf n == some .cell) = true then NameKind.cell else k) p.1 p.2) := by
    unfold relabel
    refine List.map_congr_left fun p _ => ?_
    obtain ⟨n, k⟩ := p
    dsimp only
    split <;> rfl
  rw [e]
  refine (lookup_map_kind (fun n k => if (k == NameKind.free && env.scope.kind == .function && env.kindOf n == some .cell) = true then NameKind.cell else k) scope.names n).trans ?_
  rw [h]
  rfl
theorem walks_bound {prog : Program} {w : World} {A : Around} {I : Addr} {fp wr : List Addr} {n : Nat} {P : Nat → Value → Prop} {St : Nat → Heap → Prop} (W : Walks prog w A I fp wr n P St) : Walks prog w A I fp wr n (fun i v => i < n ∧ P i v) St where
  sub := W.sub
  frame := W.frame
  item := fun i s Q E hi st hQ => W.item i s Q E hi st fun v h' tk hP => hQ v h' tk ⟨hi, hP⟩
  done := W.done
  self := W.self
theorem relabel_free {scope : Scope} {env : Env} {cl : List (Str × Addr)} {C : Addr} {n : Str} (h : scope.names.lookup n = some .free) (hk : env.scope.kind = .function) (hc : env.kindOf n = some .cell) : (compEnvC scope cl C env).kindOf n = some .cell := by
  rw [relabel_lookup h, if_pos (by rw [hk, hc]; rfl)]
theorem relabel_local {scope : Scope} {env : Env} {cl : List (Str × Addr)} {C : Addr} {n : Str} (h : scope.names.lookup n = some .local) : (compEnvC scope cl C env).kindOf n = some .local := by
  rw [relabel_lookup h, if_neg (by simp)]

theorem closureFor_1 {scope : Scope} {env : Env} {k x : Str} {c : Addr} (hsn : scope.names = [(Str.ofString ".0", .local), (k, .local), (x, .free)]) (hc : env.cells.lookup x = some c) : closureFor scope env = pure [(x, c)] := by
  unfold closureFor
  rw [hsn]
  simp only [List.forIn_cons, List.forIn_nil]
  unfold cellOf
  rw [hc]
  rfl
theorem closureFor_2 {scope : Scope} {env : Env} {k x z : Str} {c d : Addr} (hsn : scope.names = [(Str.ofString ".0", .local), (k, .local), (x, .free), (z, .free)]) (hc : env.cells.lookup x = some c) (hd : env.cells.lookup z = some d) : closureFor scope env = pure [(z, d), (x, c)] := by
  unfold closureFor
  rw [hsn]
  simp only [List.forIn_cons, List.forIn_nil]
  unfold cellOf
  rw [hc, hd]
  rfl

section
variable {prog : Program} {w : World} {A : Around} {E : Value → Shared → Prop} {s : Shared}

/-- what range(cnt) gives to a comprehension -/
theorem range_src {env : Env} {base : Heap} {elt : Expr} {cnt : Nat} {k : Str} {p9 p10 p11 : Pos} {c2 : Nat} {scope : Scope} {cl : List (Str × Addr)} {mg mb : Str → Option Value} {F : Nat → Value → Prop} {Q : Value → Shared → Prop}
    (hh : A.handled = none) (hk : env.scope.kind = .function) (hr : env.kindOf "range" = some .globalImplicit)
    (hbl : base.Ns env.builtins mb) (hb1 : mb "range" = some (.type "range")) (hg : base.Ns env.globals mg) (hg1 : mg "range" = none) (hb : ∀ b o, base.get? b = some o → s.heap.get? b = some o) (hcnt : cnt ≤ 1000)
    (hel : ∀ C j s₃ m₃ t E', j < cnt → (∀ b o, s.heap.get? b = some o → s₃.heap.get? b = some o) → s₃.heap.Ns C m₃ → m₃ k = some (.int ((j : Nat) : Int) t) → wpAny (model prog w) A (eval elt (compEnvC scope cl C env)) (fun y s₄ => F j y ∧ Keeps s₃ s₄) E' s₃)
    (h : ∀ s₂ I fp wr n P St, (∃ h' tk, s₂ = { s with heap := h', toks := tk }) → (∀ b o, s.heap.get? b = some o → s₂.heap.get? b = some o ∧ b ∉ wr) → Walks prog w A I fp wr n P St → n ≤ sizeLine → St 0 s₂.heap → (∀ b ∈ fp, b < s₂.heap.objs.size) →
      QuietOnC prog w A env scope cl k [] elt wr P (fun _ => true) (fun v y => ∃ (j : Nat) (t : Tok), v = Value.int (j : Int) t ∧ F j y) s₂ →
      (∀ (vs : List Value) (ys : Array Value), vs.length = n → (∀ j v, vs[j]? = some v → P j v) → Paired (fun (v y : Value) => ∃ (j : Nat) (t : Tok), v = Value.int (j : Int) t ∧ F j y) (vs.filter fun _ => true) ys.toList → ItemsBy F cnt ys) → Q (.ref I) s₂) :
    wpAny (model prog w) A (eval (.Call (.Name "range" p9) [.Constant (.int (cnt : Int)) c2 p10] [] p11) env) (fun xv s₁ => wpAny (model prog w) A (pyIter xv) Q E s₁) E s := by
  refine Call_Name1 (Calls.Name_function_global hk hr (Calls.loadGlobal_builtin (hg.keeps hb) hg1 (hbl.keeps hb) hb1 (PyProof.Rows.callWith_type rfl (Calls.evalArgs_plain (Calls.spliced_cons (wpAny_Constant_int (Calls.spliced_nil (call_range_1 ?_))))))))
  refine wpAny_pyIter_range (IsRange.new ..) (small_one (by decide) (by decide) (by omega) (by omega)) ?_
  have up : ∀ b o, s.heap.get? b = some o → ((s.heap.push { cls := .type "range", data := .fields #[.int 0 (s.toks + 1), .int cnt s.toks, .int 1 (s.toks + 1 + 1)] }).push { cls := .type "range_iterator", data := .fields #[rawInt 0, rawInt (Builtin.Range.rangeSize 0 cnt 1), rawInt 1] }).get? b = some o :=
    fun b o q => Heap.get?_push_of_some _ (Heap.get?_push_of_some _ q)
  have hrs : Builtin.Range.rangeSize 0 (cnt : Int) 1 = (cnt : Int) := by rw [rangeSize_one]; split <;> omega
  have nin : ∀ b o, s.heap.get? b = some o → b ∉ [(s.heap.push { cls := .type "range", data := .fields #[.int 0 (s.toks + 1), .int cnt s.toks, .int 1 (s.toks + 1 + 1)] }).objs.size] := fun b o q hb' => by
    have q1 := Heap.lt_size q
    rw [List.mem_singleton.mp hb', Heap.size_push] at q1
    exact absurd q1 (Nat.not_lt.mpr (Nat.le_succ _))
  refine h _ _ _ _ cnt _ _ ⟨_, _, rfl⟩ (fun b o q => ⟨up b o q, nin b o q⟩) (walks_bound (Walks.range hh _ 0 1 cnt)) (by have := sizeLine_eq; omega) ?_ ?_ ?_ ?_
  · show IsRangeIter _ _ _ _ _
    have := Heap.get?_push_size (s.heap.push { cls := .type "range", data := .fields #[.int 0 (s.toks + 1), .int cnt s.toks, .int 1 (s.toks + 1 + 1)] }) (o := { cls := .type "range_iterator", data := .fields #[rawInt 0, rawInt (Builtin.Range.rangeSize 0 cnt 1), rawInt 1] }) rfl
    rw [hrs] at this
    rw [hrs]
    simpa using this
  · intro b hb'
    rw [List.mem_singleton.mp hb']
    simp only [Heap.size_push]
    exact Nat.lt_succ_self _
  · refine ⟨fun _ _ _ _ _ _ _ _ _ _ _ _ => wpAny_tests_nil ⟨rfl, keeps_refl _⟩, ?_⟩
    rintro C i v s₃ m₃ E' hC ⟨hi, t, rfl⟩ - hn₃ hm₃ keep₃ -
    have up₃ : ∀ b o, s.heap.get? b = some o → s₃.heap.get? b = some o := fun b o q => keep₃ b o (nin b o q) (up b o q)
    refine wpAny_mono (hel C i s₃ m₃ t E' hi up₃ hn₃ (by rw [hm₃]; congr 2; omega)) (fun y s₄ hy => ?_) fun _ _ q => q
    exact ⟨⟨i, t, by congr 1; omega, hy.1⟩, hy.2⟩
  · intro vs ys hlen hvs hF
    rw [List.filter_eq_self.mpr (fun _ _ => rfl)] at hF
    exact itemsBy_of hlen (fun j v hj => (hvs j v hj).2) hF
end
end Mine
namespace Mine
open PySem

section
variable {prog : Program} {w : World} {A : Around} {E : Value → Shared → Prop} {s : Shared}

/-- [elt for k in range(cnt)] -/
theorem comp_range {env : Env} {base : Heap} {elt : Expr} {cnt : Nat} {k : Str} {p8 p9 p10 p11 p12 : Pos} {c2 : Nat} {scope : Scope} {cl : List (Str × Addr)} {mg mb : Str → Option Value} {F : Nat → Value → Prop} {Q : Value → Shared → Prop}
    (hh : A.handled = none) (hk : env.scope.kind = .function) (hr : env.kindOf "range" = some .globalImplicit)
    (hbl : base.Ns env.builtins mb) (hb1 : mb "range" = some (.type "range")) (hg : base.Ns env.globals mg) (hg1 : mg "range" = none) (hb : ∀ b o, base.get? b = some o → s.heap.get? b = some o) (hcnt : cnt ≤ 1000)
    (hclos : closureFor scope env = pure cl) (hcell : ∀ y ∈ scope.names, y.2 ≠ .cell) (hkind : scope.kind = .function) (hnames : ∀ y ∈ scope.names, y.2 = .local → scope.names.lookup y.1 = some .local) (hx : scope.names.lookup k = some .local)
    (hel : ∀ C j s₃ m₃ t E', j < cnt → (∀ b o, s.heap.get? b = some o → s₃.heap.get? b = some o) → s₃.heap.Ns C m₃ → m₃ k = some (.int ((j : Nat) : Int) t) → wpAny (model prog w) A (eval elt (compEnvC scope cl C env)) (fun y s₄ => F j y ∧ Keeps s₃ s₄) E' s₃)
    (h : ∀ D h' tk ys, s.heap.get? D = none → h'.PlainList D ys → ItemsBy F cnt ys → (∀ b o, s.heap.get? b = some o → h'.get? b = some o) → Q (.ref D) { s with heap := h', toks := tk }) :
    wpAny (model prog w) A (eval (.ListComp elt [⟨.Name k p8, .Call (.Name "range" p9) [.Constant (.int (cnt : Int)) c2 p10] [] p11, [], 0⟩] scope p12) env) Q E s := by
  refine wpAny_ListComp_free (fun _ => true) (fun v y => ∃ (j : Nat) (t : Tok), v = Value.int (j : Int) t ∧ F j y) hclos hcell hkind hnames hx (range_src (k := k) (scope := scope) (cl := cl) (F := F) hh hk hr hbl hb1 hg hg1 hb hcnt hel ?_)
  rintro s₂ I fp wr n P St ⟨h₂, tk₂, rfl⟩ keep W hn hst hfp hq hit
  refine ⟨I, fp, wr, n, P, St, rfl, W, hn, hst, hfp, hq, fun D h' tk ys vs hD hyl hypl hlen hvs hF hk' => ?_⟩
  refine h D h' tk ys ?_ hypl (hit vs ys hlen hvs hF) fun b o q => hk' b o (keep b o q).2 (keep b o q).1
  cases q : s.heap.get? D with
  | none => rfl
  | some o => exact absurd ((keep D o q).1.symm.trans hD) (by simp)

/-- y = [elt for k in range(cnt)] -/
theorem assign_comp_range {env : Env} {base : Heap} {elt : Expr} {cnt : Nat} {k y : Str} {p8 p9 p10 p11 p12 p13 spos : Pos} {c2 : Nat} {scope : Scope} {cl : List (Str × Addr)} {m mg mb : Str → Option Value} {F : Nat → Value → Prop} {Q : Flow → Shared → Prop}
    (hh : A.handled = none) (hk : env.scope.kind = .function) (hr : env.kindOf "range" = some .globalImplicit) (hy : env.kindOf y = some .local) (hn : s.heap.Ns env.locals m)
    (hbl : base.Ns env.builtins mb) (hb1 : mb "range" = some (.type "range")) (hg : base.Ns env.globals mg) (hg1 : mg "range" = none) (hb : ∀ b o, base.get? b = some o → s.heap.get? b = some o) (hcnt : cnt ≤ 1000)
    (hclos : closureFor scope env = pure cl) (hcell : ∀ y ∈ scope.names, y.2 ≠ .cell) (hkind : scope.kind = .function) (hnames : ∀ y ∈ scope.names, y.2 = .local → scope.names.lookup y.1 = some .local) (hx : scope.names.lookup k = some .local)
    (hline : (p13.line == p12.line) = true) (hany : (scope.names.any fun (n, kk) => n == y && (kk == .local || kk == .cell)) = false)
    (hel : ∀ C j s₃ m₃ t E', j < cnt → (∀ b o, s.heap.get? b = some o → s₃.heap.get? b = some o) → s₃.heap.Ns C m₃ → m₃ k = some (.int ((j : Nat) : Int) t) → wpAny (model prog w) A (eval elt (compEnvC scope cl C env)) (fun y s₄ => F j y ∧ Keeps s₃ s₄) E' s₃)
    (h : ∀ D h' tk ys, s.heap.get? D = none → h'.PlainList D ys → ItemsBy F cnt ys → h'.Ns env.locals (fun z => if z = y then some (.ref D) else m z) → Up env.locals s.heap h' → Q .next { s with heap := h', toks := tk }) :
    wpAny (model prog w) A (exec (.Assign [.Name y p13] (.ListComp elt [⟨.Name k p8, .Call (.Name "range" p9) [.Constant (.int (cnt : Int)) c2 p10] [] p11, [], 0⟩] scope p12) spos) env) Q E s := by
  have hbk : env.blockKind = .function := by simp [Env.blockKind, hk, ScopeKind.isAnnotationScope]
  have hsw : swapsWith (.ListComp elt [⟨.Name k p8, .Call (.Name "range" p9) [.Constant (.int (cnt : Int)) c2 p10] [] p11, [], 0⟩] scope p12) (some (.Name y p13)) spos.line env = pure true := by
    show (pure (env.blockKind == .function && env.kindOf y == some .local && p13.line == p12.line && !(scope.names.any fun (n, kk) => n == y && (kk == .local || kk == .cell))) : Sem Bool) = pure true
    rw [hbk, hy, hline, hany]
    rfl
  refine wpAny_Assign_ListComp_free (fun _ => true) (fun v y => ∃ (j : Nat) (t : Tok), v = Value.int (j : Int) t ∧ F j y) hsw hclos hcell hkind hnames hx hy (plainScope hk) (range_src (k := k) (scope := scope) (cl := cl) (F := F) hh hk hr hbl hb1 hg hg1 hb hcnt hel ?_)
  rintro s₂ I fp wr n P St ⟨h₂, tk₂, rfl⟩ keep W hn0 hst hfp hq hit
  obtain ⟨oL, _, _, hoL, _⟩ := id hn
  refine ⟨I, fp, wr, n, P, St, m, rfl, W, hn0, hst, hfp, (keep _ _ hoL).2, hn.at' fun o q => (keep _ o q).1, hq, fun D h' tk ys vs hD hyl hypl hlen hvs hF hn' hk' => ?_⟩
  refine h D h' tk ys ?_ hypl (hit vs ys hlen hvs hF) hn' fun b o hbL q => hk' b o hbL (keep b o q).2 (keep b o q).1
  cases q : s.heap.get? D with
  | none => rfl
  | some o => exact absurd ((keep D o q).1.symm.trans hD) (by simp)
end
end Mine
namespace Mine
open PySem

theorem keeps_two {s s' : Shared} {h' : Heap} {tk : Nat} {L I : Addr} (hL : s.heap.get? L = none) (hI : s.heap.get? I = none) (x : Keeps s s') (k : ∀ b o, b ≠ L → b ≠ I → s'.heap.get? b = some o → h'.get? b = some o) : Keeps s { s' with heap := h', toks := tk } := by
  obtain ⟨h, tk', rfl, q⟩ := x
  exact ⟨h', tk, rfl, fun b o e => k b o (fun z => by rw [z, hL] at e; cases e) (fun z => by rw [z, hI] at e; cases e) (q b o e)⟩
theorem keeps_up {s s' : Shared} {h' : Heap} {tk : Nat} {L : Addr} (hL : s.heap.get? L = none) (x : Keeps s s') (k : Up L s'.heap h') : Keeps s { s' with heap := h', toks := tk } := by
  obtain ⟨h, tk', rfl, q⟩ := x
  exact ⟨h', tk, rfl, fun b o e => k b o (fun z => by rw [z, hL] at e; cases e) (q b o e)⟩
theorem keeps_get {s s' : Shared} (x : Keeps s s') {b : Addr} {o : Obj} (e : s.heap.get? b = some o) : s'.heap.get? b = some o := by
  obtain ⟨h, tk', rfl, q⟩ := x
  exact q b o e
theorem none_above {h h' : Heap} (k : ∀ b o, h.get? b = some o → h'.get? b = some o) {a : Addr} (ha : h'.objs.size ≤ a) : h.get? a = none := by
  cases q : h.get? a with
  | none => rfl
  | some o => exact absurd (Heap.lt_size (k _ _ q)) (Nat.not_lt.mpr ha)
theorem next_drop {ns : List Int} {j : Nat} {v : Int} (h : ns[j]? = some v) : ns.drop j = v :: ns.drop (j + 1) := by
  obtain ⟨hlt, rfl⟩ := List.getElem?_eq_some_iff.mp h
  exact List.drop_eq_getElem_cons hlt
theorem strs_of_items {xs : Nat → Str} {cnt : Nat} {items : Array Value} (h : ItemsBy (fun j v => ∃ t, v = Value.str (xs j) t) cnt items) : StrsAre items.toList ((List.range cnt).map xs) := by
  obtain ⟨hs, hi⟩ := h
  have key : ∀ (k : Nat) (l : List Value) (off : Nat), l.length = k → (∀ j, j < k → ∃ t, l[j]? = some (Value.str (xs (off + j)) t)) → StrsAre l ((List.range k).map fun j => xs (off + j)) := by
    intro k
    induction k with
    | zero =>
      intro l off hl _
      have : l = [] := List.length_eq_zero_iff.mp hl
      subst this
      exact .nil
    | succ k ih =>
      intro l off hl hget
      cases l with
      | nil => simp at hl
      | cons v r =>
        obtain ⟨t, e⟩ := hget 0 (by omega)
        simp at e
        subst e
        rw [List.range_succ_eq_map, List.map_cons, List.map_map]
        refine .cons _ t ?_
        have := ih r (off + 1) (by simpa using hl) fun j hj => by
          obtain ⟨t, e⟩ := hget (j + 1) (by omega)
          refine ⟨t, ?_⟩
          rw [List.getElem?_cons_succ] at e
          rw [e]; congr 3; omega
        have e2 : ((fun j => xs (off + j)) ∘ Nat.succ) = fun j => xs (off + 1 + j) := by
          funext j; simp only [Function.comp]; congr 1; omega
        rw [e2]
        exact this
  have := key cnt items.toList 0 (by simpa using hs) fun j hj => by
    obtain ⟨v, h1, t, rfl⟩ := hi j hj
    refine ⟨t, ?_⟩
    rw [← Array.getElem?_toList] at h1
    rw [h1, Nat.zero_add]
  simpa using this
/-- a slice of a list, whatever its items -/
def pickOf {α : Type} (xs : List α) (lo hi st : Option Int) : List α :=
  (sliceRange (sliceBounds lo hi st xs.length).1 (sliceBounds lo hi st xs.length).2.1 (sliceBounds lo hi st xs.length).2.2).filterMap (xs[·]?)
theorem pickOf_map {α β : Type} (f : α → β) (xs : List α) (lo hi st : Option Int) : pickOf (xs.map f) lo hi st = (pickOf xs lo hi st).map f := by
  unfold pickOf
  rw [List.length_map, List.map_filterMap]
  congr 1
  funext j
  rw [List.getElem?_map]
theorem pickOf_ints (ns : List Int) (lo hi st : Option Int) : pickOf ns lo hi st = pickNums ns lo hi st := rfl
theorem ints_of_paired {g : Int → Int} : ∀ {vs ys : List Value} {ns : List Int}, IntsAre vs ns → Paired (fun (v y : Value) => ∃ n t t', v = Value.int n t ∧ y = Value.int (g n) t') vs ys → IntsAre ys (ns.map g)
  | _, _, _, .nil, .nil => .nil
  | _, _, _, .cons n t r, .cons q p => by
    obtain ⟨n', t1, t2, e1, rfl⟩ := q
    cases e1
    exact .cons _ _ (ints_of_paired r p)
theorem join_tokens (l : List (List Tk)) : Str.join (Str.ofString "") (l.map strOf) = strOf l.flatten := by
  have hs : ∀ s : Str, s = ⟨s.cps.toList.toArray⟩ := fun s => by cases s; simp
  rw [hs (Str.join _ _), join_empty]
  unfold strOf cpsOf
  congr 2
  rw [List.map_map]
  induction l with
  | nil => rfl
  | cons x r ih =>
    rw [List.map_cons, List.flatten_cons, List.flatten_cons, List.flatMap_append, ih]
    simp
def Tk.still : Tk → Bool
  | .op => false
  | .cl => false
  | _ => true
theorem bal_still : ∀ (d r : List Tk) (n : Int), (∀ t ∈ d, t.still = true) → bal (d ++ r) n = bal r n
  | [], _, _, _ => rfl
  | t :: d, r, n, h => by
    have hd := fun t' ht' => h t' (List.mem_cons_of_mem t ht')
    have ht := h t (by simp)
    cases t with
    | op => cases ht
    | cl => cases ht
    | esc c => exact bal_still d r n hd
    | quo l => exact bal_still d r n hd
theorem bal_dressed (d x : Nat → List Tk) (hd : ∀ p, ∀ t ∈ d p, t.still = true) : ∀ (l : List Nat) (n : Int), bal ((l.map fun p => d p ++ x p).flatten) n = bal ((l.map x).flatten) n := by
  have key : ∀ (y r r' : List Tk) (n : Int), (∀ n, bal r n = bal r' n) → bal (y ++ r) n = bal (y ++ r') n := by
    intro y
    induction y with
    | nil => intro r r' n h; exact h n
    | cons t y ih =>
      intro r r' n h
      cases t with
      | op => exact ih r r' _ h
      | cl =>
        show (if n - 1 < 0 then false else bal (y ++ r) (n - 1)) = (if n - 1 < 0 then false else bal (y ++ r') (n - 1))
        rw [ih r r' _ h]
      | esc c => exact ih r r' _ h
      | quo l => exact ih r r' _ h
  intro l
  induction l with
  | nil => intro n; rfl
  | cons p l ih =>
    intro n
    rw [List.map_cons, List.map_cons, List.flatten_cons, List.flatten_cons, List.append_assoc, bal_still _ _ _ (hd p)]
    exact key _ _ _ n ih
theorem strOf_append (a b : List Tk) : strOf a ++ strOf b = strOf (a ++ b) := by
  show (⟨(cpsOf a).toArray ++ (cpsOf b).toArray⟩ : Str) = ⟨(cpsOf (a ++ b)).toArray⟩
  unfold cpsOf
  rw [List.flatMap_append]
  simp
theorem StrsIn.up {L l : Addr} {h h' : Heap} {xs : List Str} (x : StrsIn h l xs) (u : Up L h h') (hl : l ≠ L) : StrsIn h' l xs := x.keeps fun o q => u l o hl q
theorem StrsIn.ne {l L : Addr} {h : Heap} {xs : List Str} {m : Str → Option Value} (x : StrsIn h l xs) (hn : h.Ns L m) : l ≠ L := by
  rintro rfl
  obtain ⟨vs, ⟨o, ho, hc, n, hd⟩, _⟩ := x
  obtain ⟨o', _, _, ho', hd', _⟩ := hn
  rw [ho] at ho'
  cases ho'
  rw [hd] at hd'
  cases hd'
theorem addsOf_len (ns : List Int) (cnt : Nat) (st : Int) : (addsOf ns cnt st).length = cnt := by simp [addsOf]

section
variable {prog : Program} {w : World} {A : Around} {E : Value → Shared → Prop} {s : Shared}

theorem strs_item {value slice : Expr} {l : Addr} {xs : List Str} {i : Nat} {u : Tok} {Q : Value → Shared → Prop} (hl : StrsIn s.heap l xs) (hi : i < xs.length) (hz : xs.length ≤ 1000) (h : ∀ t, Q (.str (xs.getD i (Str.ofString "")) t) s)
    (hs : subscripted slice false (.ref l) (.int (i : Int) u) = operate [.ref l, .int (i : Int) u] (getItem (.ref l) (.int (i : Int) u)) := by with_unfolding_all rfl) :
    wpAny (model prog w) A (subscriptTail value slice (.ref l) (.int (i : Int) u)) Q E s := by
  obtain ⟨vs, hL, hx⟩ := hl
  obtain ⟨t, ht⟩ := strs_get hx i (xs.getD i (Str.ofString "")) (by rw [List.getD_eq_getElem?_getD, List.getElem?_eq_getElem hi]; rfl)
  exact tail_any hL.typeIs slot_list_getitem.lookup (wpAny_getItem_list hL (by omega) (by omega) (by simpa using ht) (h t)) hs
/-- [elt for k in a list of ints], no names from around it -/
theorem comp_ints {env : Env} {elt iter : Expr} {k : Str} {p8 p12 : Pos} {scope : Scope} {ns : List Int} {g : Int → Int} {Q : Value → Shared → Prop} (hh : A.handled = none)
    (hfree : ∀ x ∈ scope.names, x.2 ≠ .free) (hcell : ∀ y ∈ scope.names, y.2 ≠ .cell) (hkind : scope.kind = .function) (hnames : ∀ y ∈ scope.names, y.2 = .local → scope.names.lookup y.1 = some .local) (hx : scope.names.lookup k = some .local) (hz : ns.length ≤ 1000)
    (hit : wpAny (model prog w) A (eval iter env) (fun v s₁ => ∃ l, v = .ref l ∧ IntsIn s₁.heap l ns ∧ Keeps s s₁) E s)
    (hel : ∀ C v t h m', h.Ns C m' → m' k = some (.int v t) → EvI prog w A (compEnvC scope [] C env) h elt (g v))
    (h : ∀ D s' items, Keeps s s' → s.heap.get? D = none → s'.heap.PlainList D items → IntsAre items.toList (ns.map g) → Q (.ref D) s')
    (hs : ∀ x, foldedSetIterable iter env x = pure x := by intro _; rfl) :
    wpAny (model prog w) A (eval (.ListComp elt [⟨.Name k p8, iter, [], 0⟩] scope p12) env) Q E s := by
  refine wpAny_ListComp_free (fun _ => true) (fun v y => ∃ n t t', v = Value.int n t ∧ y = Value.int (g n) t') (closureFor_none hfree) hcell hkind hnames hx (wpAny_mono hit (fun xv s₁ hv => ?_) fun _ _ q => q) hs
  obtain ⟨l, rfl, ⟨vs, hL, hi⟩, ⟨h₁, tk₁, rfl, keep₁⟩⟩ := hv
  replace hL : h₁.IsList l vs.toArray := hL
  have hll : l < h₁.objs.size := by obtain ⟨o, ho, _⟩ := hL; exact Heap.lt_size ho
  have hlen := hi.length
  refine wpAny_pyIter_list hL ?_
  refine ⟨_, _, _, _, _, _, rfl, Walks.list (A := A) hh _ l (Nat.ne_of_lt hll) vs.toArray, by have := sizeLine_eq; simp; omega, ⟨⟨_, Heap.get?_push_size _ rfl, rfl, rfl⟩, (by obtain ⟨o, ho, r⟩ := hL; exact ⟨o, Heap.get?_push_of_some _ ho, r⟩)⟩, ?_, ?_, ?_⟩
  · intro b hb
    rw [Heap.size_push]
    simp only [List.mem_cons, List.not_mem_nil, or_false] at hb
    rcases hb with rfl | rfl
    · exact Nat.lt_succ_self _
    · exact Nat.lt_succ_of_lt hll
  · refine ⟨fun _ _ _ _ _ _ _ _ _ _ _ _ => wpAny_tests_nil ⟨rfl, keeps_refl _⟩, ?_⟩
    rintro C i v s₃ m₃ E' hC hP - hn₃ hm₃ keep₃ -
    have hv : vs[i]? = some v := by simpa using hP
    have hlt : i < ns.length := by rw [← hlen]; exact (List.getElem?_eq_some_iff.mp hv).1
    obtain ⟨t, ht⟩ := hi.get i ns[i] (List.getElem?_eq_getElem hlt)
    rw [hv] at ht
    cases ht
    exact hel C _ t s₃.heap m₃ hn₃ hm₃ _ _ _ rfl fun t' tk' => ⟨⟨_, _, _, rfl, rfl⟩, _, _, rfl, fun _ _ q => q⟩
  · intro D h' tk ys vs' hD hyl hypl hlen' hvs' hF hk'
    rw [List.filter_eq_self.mpr (fun _ _ => rfl)] at hF
    have evs : vs' = vs := by
      refine List.ext_getElem? fun j => ?_
      cases q : vs'[j]? with
      | some v => have := hvs' j v q; simpa using this.symm
      | none =>
        have : vs'.length ≤ j := List.getElem?_eq_none_iff.mp q
        exact (List.getElem?_eq_none (by simp at hlen'; omega)).symm
    subst evs
    have old : ∀ b o, s.heap.get? b = some o → h'.get? b = some o := fun b o q => by
      have q₁ := keep₁ b o q
      refine hk' b o (fun hb => ?_) (Heap.get?_push_of_some _ q₁)
      have e := List.mem_singleton.mp hb
      exact absurd (Heap.lt_size q₁) (by rw [e]; exact Nat.lt_irrefl _)
    refine h D _ ys ⟨h', tk, rfl, old⟩ ?_ hypl (ints_of_paired hi hF)
    cases q : s.heap.get? D with
    | none => rfl
    | some o =>
      have := Heap.get?_push_of_some { cls := .type "list_iterator", data := .fields #[.ref l, .int 0 0] } (keep₁ D o q)
      exact absurd (this.symm.trans hD) (by simp)
theorem callDefN {env : Env} {f : Str} {p pos : Pos} {e : Expr} {es : List Expr} {a : Addr} {st : Stmt} {base : Heap} {mg : Str → Option Value} {Q : Value → Shared → Prop} (hk : env.scope.kind = .function) (hx : env.kindOf f = some .globalImplicit)
    (hg : base.Ns env.globals mg) (hv : mg f = some (.ref a)) (fn : FnIs base st a) (hb : ∀ b o, base.get? b = some o → s.heap.get? b = some o)
    (h : wpAny (model prog w) A (eval e env) (fun v s₁ => wpAny (model prog w) A (spliced (backTo pos (starEach es env))) (fun vs s₂ => (∀ b o, base.get? b = some o → s₂.heap.get? b = some o) ∧ wpAny (model prog w) A (call (.ref a) (v :: vs)) Q E s₂) E s₁) E s)
    (he : starEach (e :: es) env = (false, eval e env) :: starEach es env := by rfl) (hd : (f == ("__debug__" : Str)) = false := by decide) :
    wpAny (model prog w) A (eval (.Call (.Name f p) (e :: es) [] pos) env) Q E s := by
  obtain ⟨o, fd, h1, h2, _⟩ := fn.out
  refine Call_Name (trees := (false, eval e env) :: backTo pos (starEach es env)) (by rw [he]; rfl) (Calls.Name_function_global hk hx (Calls.loadGlobal_global (hg.keeps hb) hv ?_) hd)
  exact Calls.callWith_function (o := o) (fd := fd) (Calls.evalArgs_plain (Calls.spliced_cons (wpAny_mono h (fun v s₁ h₁ => wpAny_mono h₁ (fun vs s₂ h₂ => ⟨⟨h₂.1 _ _ h1, h2⟩, h₂.2⟩) fun _ _ e => e) fun _ _ e => e)))
theorem oneC {n : Int} {k : Nat} {pos : Pos} {env : Env} {h : Heap} : EvI prog w A env h (.Constant (.int n) k pos) n ∧ ∀ rest, starEach (.Constant (.int n) k pos :: rest) env = (false, eval (.Constant (.int n) k pos) env) :: starEach rest env := ⟨.const, fun _ => rfl⟩
end
end Mine
namespace Mine
open PySem

theorem ints_of_items {xs : Nat → Int} {cnt : Nat} {items : Array Value} (h : ItemsBy (fun j v => ∃ t, v = Value.int (xs j) t) cnt items) : IntsAre items.toList ((List.range cnt).map xs) := by
  obtain ⟨hs, hi⟩ := h
  have key : ∀ (k : Nat) (l : List Value) (off : Nat), l.length = k → (∀ j, j < k → ∃ t, l[j]? = some (Value.int (xs (off + j)) t)) → IntsAre l ((List.range k).map fun j => xs (off + j)) := by
    intro k
    induction k with
    | zero =>
      intro l off hl _
      have : l = [] := List.length_eq_zero_iff.mp hl
      subst this
      exact .nil
    | succ k ih =>
      intro l off hl hget
      cases l with
      | nil => simp at hl
      | cons v r =>
        obtain ⟨t, e⟩ := hget 0 (by omega)
        simp at e
        subst e
        rw [List.range_succ_eq_map, List.map_cons, List.map_map]
        refine .cons _ t ?_
        have := ih r (off + 1) (by simpa using hl) fun j hj => by
          obtain ⟨t, e⟩ := hget (j + 1) (by omega)
          refine ⟨t, ?_⟩
          rw [List.getElem?_cons_succ] at e
          rw [e]; congr 3; omega
        have e2 : ((fun j => xs (off + j)) ∘ Nat.succ) = fun j => xs (off + 1 + j) := by
          funext j; simp only [Function.comp]; congr 1; omega
        rw [e2]
        exact this
  have := key cnt items.toList 0 (by simpa using hs) fun j hj => by
    obtain ⟨v, h1, t, rfl⟩ := hi j hj
    refine ⟨t, ?_⟩
    rw [← Array.getElem?_toList] at h1
    rw [h1, Nat.zero_add]
  simpa using this

/-- a list display of written texts -/
def litsAre : List Expr → List Str → Bool
  | [], [] => true
  | .Constant (.str y) _ _ :: es, x :: xs => y == x && litsAre es xs
  | _, _ => false

section
variable {prog : Program} {w : World} {A : Around} {E : Value → Shared → Prop} {s : Shared}

theorem lits_spliced {env : Env} {pos : Pos} : ∀ {es : List Expr} {xs : List Str}, litsAre es xs = true → ∀ {s : Shared} {Q : List Value → Shared → Prop},
    (∀ vs tk, StrsAre vs xs → Q vs { s with toks := tk }) → wpAny (model prog w) A (spliced (backTo pos (starEach es env))) Q E s
  | [], [], _, s, Q, hQ => Calls.spliced_nil (hQ [] s.toks .nil)
  | .Constant (.str y) _ _ :: es, x :: xs, h, s, Q, hQ => by
    have h : (y == x && litsAre es xs) = true := h
    rw [Bool.and_eq_true] at h
    obtain ⟨h1, h3⟩ := h
    have h1 := eq_of_beq h1
    subst h1
    exact spliced_more (litStr (lits_spliced (es := es) (xs := xs) h3 (s := { s with toks := s.toks + 1 }) fun vs tk' hvs => hQ _ tk' (.cons _ _ hvs)))

/-- [..] * k: what stood stands -/
theorem mul_keep {l : Addr} {items : Array Value} {x : Int} {u : Tok} {Q : Value → Shared → Prop} (hl : s.heap.PlainList l items) (hne : items.isEmpty = false) (hlo : -1000 ≤ x) (hhi : x ≤ 1000) (hz : items.size ≤ 1000)
    (h : ∀ h', h'.PlainList s.heap.objs.size (List.replicate x.toNat items.toList).flatten.toArray → (∀ b o, s.heap.get? b = some o → h'.get? b = some o) → Q (.ref s.heap.objs.size) { s with heap := h' }) :
    wpAny (model prog w) A (binaryOp .Mult (.ref l) (.int x u)) Q E s := by
  obtain ⟨k, hl⟩ := hl
  have hsz : items.size * x.toNat ≤ 2 ^ 24 := by
    have : items.size * x.toNat ≤ 1000 * 1000 := Nat.mul_le_mul hz (by omega)
    omega
  refine wpAny_binaryOp_repeat_ref (T := "list") (U := "int") (by decide) ⟨_, hl, rfl⟩ (fun s' => typeIs_int s' x u) noFill_list_mul F.fills_int_mul F.slot_int_rmul repeat_list F.slot_int_index.lookup
    (call_meets F.slot_int_rmul (typeIs_int s x u) F.entry_int_rmul (F.args_int_rmul_2 _ _) (int___rmul___int_list x u l items k) ⟨hl, rfl, ⟨_, hl, rfl⟩, ?_⟩)
  refine call_meets F.slot_list_mul ⟨_, hl, rfl⟩ F.entry_list_mul (F.args_list_mul_2 _ _) (AutoListH.list___mul___list_int_3 l items k x u (by simp [Builtin.List.listFitsIndex]; omega) (by omega) (by simp [Builtin.List.listTooLong, sizeLine]; omega)) ⟨hl, ?_⟩
  refine h _ ⟨0, ?_⟩ fun b o q => Heap.get?_push_of_some _ q
  rw [hne]
  simp only [Bool.false_eq_true, if_false, listMul_foldl]
  rw [Heap.get?_push_size _ rfl]
  simp

/-- [a, b, ..][i], whole numbers -/
theorem ints_display_item {env : Env} {es : List Expr} {slice : Expr} {p1 p2 : Pos} {ns : List Int} {i : Int} {Q : Value → Shared → Prop}
    (he : Paired (fun e n => EvI prog w A env s.heap e n ∧ ∀ rest, starEach (e :: rest) env = (false, eval e env) :: starEach rest env) es ns) (hz : ns.length ≤ 1000)
    (hs : ∀ h', (∀ b o, s.heap.get? b = some o → h'.get? b = some o) → EvI prog w A env h' slice i) (h1 : 0 ≤ i) (h2 : i < ns.length)
    (h : ∀ h' tk t, (∀ b o, s.heap.get? b = some o → h'.get? b = some o) → Q (.int (itemAt ns i) t) { s with heap := h', toks := tk })
    (hss : ∀ l u, subscripted slice false (.ref l) (.int i u) = operate [.ref l, .int i u] (getItem (.ref l) (.int i u)) := by intro _ _; with_unfolding_all rfl) :
    wpAny (model prog w) A (eval (.Subscript (.List es p1) slice p2) env) Q E s := by
  have up : ∀ (o' : Obj) b o, s.heap.get? b = some o → (s.heap.push o').get? b = some o := fun o' b o q => Heap.get?_push_of_some _ q
  refine Subscript_ (wpAny_List_spliced (ints_spliced he rfl fun vs tk hvs => ⟨?_, ?_⟩))
  · have := hvs.length; have := sizeLine_eq; omega
  · refine hs _ (up _) _ _ _ rfl fun t tk' => ?_
    exact list_item (ns := ns) (IntsIn.new hvs) (by omega) h2 hz (fun t' => h _ _ t' (up _)) (hss _ _)

/-- [a, b, ..][i], written texts -/
theorem strs_display_item {env : Env} {es : List Expr} {slice : Expr} {p1 p2 : Pos} {xs : List Str} {i : Nat} {Q : Value → Shared → Prop}
    (he : litsAre es xs = true) (hz : xs.length ≤ 1000)
    (hs : ∀ h', (∀ b o, s.heap.get? b = some o → h'.get? b = some o) → EvI prog w A env h' slice (i : Int)) (h2 : i < xs.length)
    (h : ∀ h' tk t, (∀ b o, s.heap.get? b = some o → h'.get? b = some o) → Q (.str (xs.getD i (Str.ofString "")) t) { s with heap := h', toks := tk })
    (hss : ∀ l u, subscripted slice false (.ref l) (.int (i : Int) u) = operate [.ref l, .int (i : Int) u] (getItem (.ref l) (.int (i : Int) u)) := by intro _ _; with_unfolding_all rfl) :
    wpAny (model prog w) A (eval (.Subscript (.List es p1) slice p2) env) Q E s := by
  have up : ∀ (o' : Obj) b o, s.heap.get? b = some o → (s.heap.push o').get? b = some o := fun o' b o q => Heap.get?_push_of_some _ q
  refine Subscript_ (wpAny_List_spliced (lits_spliced he fun vs tk hvs => ⟨?_, ?_⟩))
  · have := strs_len hvs; have := sizeLine_eq; omega
  · refine hs _ (up _) _ _ _ rfl fun t tk' => ?_
    exact strs_item (xs := xs) ⟨vs, ⟨_, Heap.get?_push_size _ rfl, rfl, _, rfl⟩, hvs⟩ h2 hz (fun t' => h _ _ t' (up _)) (hss _ _)

/-- y = [sum(x[k::step]) for k in range(cnt)]; x and y are cells -/
theorem adds_cell {env : Env} {base : Heap} {c cy l : Addr} {v₀ : Option Value} {ns : List Int} {cnt : Nat} {step : Int} {x k y : Str} {p1 p2 p3 p4 p5 p6 p7 p8 p9 p10 p11 p12 p13 : Pos} {c1 c2 : Nat} {scope : Scope} {mg mb : Str → Option Value} {Q : Flow → Shared → Prop}
    (hh : A.handled = none) (hk : env.scope.kind = .function) (hx : env.kindOf x = some .cell) (hc : env.cells.lookup x = some c) (hy : env.kindOf y = some .cell) (hcy : env.cells.lookup y = some cy) (hr : env.kindOf "range" = some .globalImplicit)
    (hsn : scope.names = compNames k x .free) (hkind : scope.kind = .function) (hkx : ¬ k = x) (hk0 : ¬ k = Str.ofString ".0") (hks : ¬ k = Str.ofString "sum") (hx0 : ¬ x = Str.ofString ".0") (hxs : ¬ x = Str.ofString "sum")
    (hbl : base.Ns env.builtins mb) (hb1 : mb "range" = some (.type "range")) (hb2 : mb "sum" = some (.builtin "sum")) (hg : base.Ns env.globals mg) (hg1 : mg "range" = none) (hg2 : mg "sum" = none)
    (hb : ∀ b o, base.get? b = some o → s.heap.get? b = some o) (hcl : s.heap.IsCell c (some (.ref l))) (hcly : s.heap.IsCell cy v₀) (hl : IntsIn s.heap l ns) (hz : ns.length ≤ 1000) (hst : step ≠ 0) (hcnt : cnt ≤ 1000)
    (hdk : (k == ("__debug__" : Str)) = false) (hdx : (x == ("__debug__" : Str)) = false)
    (h : ∀ D h' tk, s.heap.get? D = none → D ≠ cy → IntsIn h' D (addsOf ns cnt step) → h'.IsCell cy (some (.ref D)) → (∀ b o, b ≠ cy → s.heap.get? b = some o → h'.get? b = some o) → Q .next { s with heap := h', toks := tk })
    {spos : Pos} :
    wpAny (model prog w) A (exec (.Assign [.Name y p13] (.ListComp (.Call (.Name "sum" p1) [.Subscript (.Name x p2) (.Slice (some (.Name k p3)) none (some (.Constant (.int step) c1 p4)) p5) p6] [] p7) [⟨.Name k p8, .Call (.Name "range" p9) [.Constant (.int (cnt : Int)) c2 p10] [] p11, [], 0⟩] scope p12) spos) env) Q E s := by
  have hbk : env.blockKind = .function := by simp [Env.blockKind, hk, ScopeKind.isAnnotationScope]
  have lkk : scope.names.lookup k = some .local := by rw [hsn]; unfold compNames; simp [List.lookup, beqF hk0]
  have lks : scope.names.lookup (Str.ofString "sum") = some .globalImplicit := by rw [hsn]; unfold compNames; simp [List.lookup, beqF (fun h : (Str.ofString "sum") = k => hks h.symm), beqF (show ¬ Str.ofString "sum" = Str.ofString ".0" by decide)]
  have lkx : scope.names.lookup x = some .free := by rw [hsn]; unfold compNames; simp [List.lookup, beqF hx0, beqF hxs, beqF (fun h : x = k => hkx h.symm)]
  refine wpAny_Assign_Name (comp_range (cnt := cnt) (k := k) (base := base) (cl := [(x, c)]) (F := fun j v => ∃ t, v = Value.int (pickNums ns (some (j : Int)) none (some step)).sum t) hh hk hr hbl hb1 hg hg1 hb hcnt (closureFor_one hsn hc) ?_ hkind ?_ lkk ?_ ?_) ?_
  · rw [hsn]; unfold compNames; intro z hz; simp at hz; rcases hz with rfl | rfl | rfl | rfl <;> exact fun h => by cases h
  · rw [hsn]; unfold compNames; intro z hz hz2; simp at hz
    rcases hz with rfl | rfl | rfl | rfl
    · rfl
    · simp [List.lookup, beqF hk0]
    · cases hz2
    · cases hz2
  · intro C j s₃ m₃ t E' hj keep₃ hn₃ hm₃
    have hcl₃ : s₃.heap.IsCell c (some (.ref l)) := hcl.keeps keep₃
    have ckind : (compEnvC scope [(x, c)] C env).scope.kind = .function := hkind
    have ksum : (compEnvC scope [(x, c)] C env).kindOf (Str.ofString "sum") = some .globalImplicit := by rw [relabel_lookup lks]; rfl
    refine Call_Name1 (Calls.Name_function_global ckind ksum (Calls.loadGlobal_builtin (hg.keeps fun b o q => keep₃ b o (hb b o q)) hg2 (hbl.keeps fun b o q => keep₃ b o (hb b o q)) hb2 (Calls.callWith_builtin rfl (Calls.evalArgs_plain (Calls.spliced_cons ?_)))))
    refine Subscript_ (wpAny_Name (wpAny_loadName_cell ckind (relabel_free lkx hk hx) (by simp [compEnvC]) hcl₃ ?_) hdx)
    refine wpAny_Slice (wpAny_evalPart_some (nm ckind (relabel_local lkk) hn₃ hm₃ (wpAny_evalPart_none (wpAny_evalPart_some (wpAny_Constant_int ?_))) hdk))
    refine sum_slice (s := { s₃ with toks := s₃.toks + 1 }) (hl.keeps fun o q => keep₃ _ o q) hz hst fun l' h' hl' keep' hfr' => Calls.spliced_nil (sum_keep hh hl' fun h'' tk'' t' keep'' => ?_)
    exact ⟨⟨_, rfl⟩, h'', tk'', rfl, fun b o q => keep'' b o (keep' b o q)⟩
  · intro D h' tk ys hD hpl hit keep'
    have hcl' : h'.IsCell cy v₀ := hcly.keeps keep'
    have hDc : D ≠ cy := by
      rintro rfl
      obtain ⟨o, ho, _⟩ := hcly
      rw [ho] at hD; cases hD
    refine wpAny_storeName_cell hk hy hcy hcl' fun h'' hc'' hs'' => ?_
    replace hs'' : Heap.SameBut cy h' h'' := hs''
    refine h D h'' _ hD hDc ?_ hc'' fun b o hb' q => hs''.extBut b o hb' (keep' b o q)
    exact (IntsIn.of_plain hpl (ints_of_items hit)).keeps fun o q => hs''.extBut _ o hDc q
  · show (pure (env.blockKind == .function && env.kindOf y == some .local && p13.line == p12.line && !(scope.names.any fun (n, kk) => n == y && (kk == .local || kk == .cell))) : Sem Bool) = pure false
    rw [hbk, hy]
    rfl
end
end Mine
namespace Mine
open PySem

def atLacks : Nat := 8
def atOrders : Nat := 9
def atWorths : Nat := 10
def atLaw : Nat := 11

/-- so many of one sign -/
def repS (c : Nat) (n : Int) : Str := ⟨(List.replicate n.toNat c).toArray⟩
theorem repS_len (c : Nat) (n : Int) : (repS c n).length = n.toNat := by
  show (List.replicate n.toNat c).toArray.size = _
  simp
theorem flat_sign (c : Nat) : ∀ (k : Nat) (acc : Array Nat), (List.replicate k (#[c] : Array Nat)).foldl (· ++ ·) acc = acc ++ (List.replicate k c).toArray
  | 0, acc => by simp
  | k + 1, acc => by
    rw [List.replicate_succ, List.foldl_cons, flat_sign c k, List.replicate_succ]
    apply Array.ext'
    simp
theorem mul_sign (c : Nat) (n : Int) : Txt.mul ⟨#[c]⟩ n = repS c n := by
  unfold Txt.mul repS
  by_cases h : n < 1
  · rw [if_pos h, show n.toNat = 0 by omega]
    rfl
  · rw [if_neg h]
    by_cases h1 : n = 1
    · subst h1
      rfl
    · have hf : (n == 1 || (⟨#[c]⟩ : Str).length == 0) = false := by
        have : (n == 1) = false := by simpa using h1
        rw [this]
        rfl
      rw [hf, if_neg Bool.false_ne_true, flat_sign]
      simp

def lackA (x : Str) (tot a : Int) : Str := repS 40 a ++ x ++ repS 41 (a - tot)
def lackB (x : Str) (a : Int) : Str := repS 40 (a + 1) ++ x
def lackGo (x : Str) (tot : Int) : Nat → Int → Int
  | 0, a => a
  | f + 1, a => if a < 9 ∧ (chk (lackA x tot a) = false ∨ chk (lackB x a) = true) then lackGo x tot f (a + 1) else a
/-- what _law_lacks gives -/
def lackOf (x : Str) (tot : Int) : Int := lackGo x tot 10 (if tot > 0 then tot else 0)

structure LackNames (base : Heap) (f fT : Addr) : Prop where
  def_ : FnIs base (stmtAt atLacks) f
  glob : ∃ mg, base.Ns mainGlobals mg ∧ mg "max" = none ∧ mg "_law_taken" = some (.ref fT)
  blt : ∃ mb, base.Ns builtinsNs mb ∧ mb "max" = some (.builtin "max")

theorem la1 : ¬ (Str.ofString "text" = Str.ofString "ahead") := by decide
theorem la2 : ¬ (Str.ofString "total" = Str.ofString "ahead") := by decide

section
variable {prog : Program} {w : World} {A : Around} {E : Value → Shared → Prop} {s : Shared}

theorem rep_str {x : Str} {c : Nat} {n : Int} {t u : Tok} {Q : Value → Shared → Prop} (hx : x = ⟨#[c]⟩) (hlo : -1000 ≤ n) (hhi : n ≤ 1000) (h : ∀ t' k, Q (.str (repS c n) t') { s with toks := k }) :
    wpAny (model prog w) A (binaryOp .Mult (.str x t) (.int n u)) Q E s := by
  subst hx
  exact SB.mul (mulOk_of 16 1000 (by show 1 ≤ 16; decide) (by omega) (by omega) (by decide) (by decide)) fun t' k => mul_sign c n ▸ h t' k

set_option maxHeartbeats 1000000 in
theorem call_lacks {base : Heap} {fI fS fC fT f : Addr} {x : Str} {t u : Tok} {tot : Int} {Q : Value → Shared → Prop} (N : Names base fI fS fC) (N2 : TakenNames base fC fT) (N3 : LackNames base f fT) (hh : A.handled = none) (hroom : A.depth + 4 < recursionLimit)
    (hb : ∀ b o, base.get? b = some o → s.heap.get? b = some o) (hx : x.length ≤ 200) (hlo : -100 ≤ tot) (hhi : tot ≤ 100)
    (h : ∀ t' s', Ext s s' → Q (.int (lackOf x tot) t') s') : wpAny (model prog w) A (call (.ref f) [.str x t, .int tot u]) Q E s := by
  refine enterDefs (binds := [("text", .str x t), ("total", .int tot u)]) (by omega) N3.def_ N.lim hb ?_ (by decide) ?_ rfl rfl rfl fun env h₁ e1 e2 e3 e4 e5 hn hk₁ => ?_
  · rintro ⟨name, qualname, params, body, scope, globals, closure, defaults, kwdefaults, doc, pyModule, anns, code, closureTuple, builtins⟩ h1 h2 h3
    dsimp only at h1 h2 h3
    subst h1 h2 h3
    rfl
  · intro y hy
    rcases List.mem_cons.mp hy with rfl | hy
    · show (defScope (stmtAt atLacks)).names.lookup (Str.ofString "text") = _; decide
    rcases List.mem_cons.mp hy with rfl | hy
    · show (defScope (stmtAt atLacks)).names.lookup (Str.ofString "total") = _; decide
    cases hy
  have e : EnvFor env (stmtAt atLacks) s.heap.objs.size := ⟨e1, e2, e3, e4, e5⟩
  have hk : env.scope.kind = .function := e.kind rfl
  have kn : ∀ {n : Str} {q : NameKind}, (defScope (stmtAt atLacks)).names.lookup n = some q → env.kindOf n = some q := fun {n q} hq => by
    show env.scope.names.lookup n = _
    rw [e.scope]; exact hq
  have hh' : (A.deeper env).handled = none := hh
  have hroom' : (A.deeper env).depth + 3 < recursionLimit := by show A.depth + 1 + 3 < _; omega
  obtain ⟨L, hL⟩ : ∃ L, L = s.heap.objs.size := ⟨_, rfl⟩
  have hLs : s.heap.get? L = none := hL ▸ getAbove _
  rw [← hL] at e hn
  have heL := e.locals
  have hLb : base.get? L = none := by
    cases q : base.get? L with
    | none => rfl
    | some o => rw [hb _ _ q] at hLs; cases hLs
  obtain ⟨mg, hg, hg1, hg2⟩ := N3.glob
  obtain ⟨mb, hbl, hbl1⟩ := N3.blt
  obtain ⟨M₁, a₁, hn₁⟩ := forget hn
  have b1 : M₁ "text" = some (.str x t) := by rw [a₁]; rfl
  have b2 : M₁ "total" = some (.int tot u) := by rw [a₁]; rfl
  have hb₁ : ∀ b o, base.get? b = some o → h₁.get? b = some o := fun b o q => hk₁ b o (hb b o q)
  -- ahead = max(0, total)
  refine wpAny_execs_cons (wpAny_Assign_Name (Call_Name2 ?_))
  refine Calls.Name_function_global hk (kn (by decide)) (Calls.loadGlobal_builtin (e.globals ▸ hg.keeps hb₁) hg1 (e.builtins ▸ hbl.keeps hb₁) hbl1 ?_)
  refine Calls.callWith_builtin rfl (Calls.evalArgs_plain (Calls.spliced_cons (wpAny_Constant_int (Calls.spliced_cons ?_))))
  refine nm hk (kn (by decide)) (heL ▸ hn₁) b2 (Calls.spliced_nil ?_)
  refine max_two_ints hh' fun h₂ tk₂ keep₂ => ?_
  replace keep₂ : ∀ b o, h₁.get? b = some o → h₂.get? b = some o := keep₂
  obtain ⟨a₀, ea⟩ : ∃ z, z = (if tot > 0 then tot else 0) := ⟨_, rfl⟩
  obtain ⟨t₂, emax⟩ : ∃ t', (if tot > 0 then Value.int tot u else .int 0 (s.toks + [(Str.ofString "text", Value.str x t), (Str.ofString "total", Value.int tot u)].length)) = .int a₀ t' := by
    by_cases hc : tot > 0
    · exact ⟨u, by rw [if_pos hc, ea, if_pos hc]⟩
    · exact ⟨_, by rw [if_neg hc, ea, if_neg hc]⟩
  have ha₀ : 0 ≤ a₀ := by rw [ea]; split <;> omega
  have hat : tot ≤ a₀ := by rw [ea]; split <;> omega
  have ha100 : a₀ ≤ 100 := by rw [ea]; split <;> omega
  show wpAny _ _ (storeName env "ahead" (if tot > 0 then Value.int tot u else .int 0 (s.toks + [(Str.ofString "text", Value.str x t), (Str.ofString "total", Value.int tot u)].length))) _ _ _
  rw [emax]
  refine wpAny_storeName_local (kn (by decide)) (heL ▸ hn₁.keeps keep₂) (fun h₃ hn₃ hs₃ => ?_) (plainScope hk)
  rw [heL] at hn₃ hs₃
  replace hs₃ : Heap.SameBut L h₂ h₃ := hs₃
  have u₃ : Up L s.heap h₃ := fun b o hb' q => hs₃.extBut b o hb' (keep₂ b o (hk₁ b o q))
  obtain ⟨M₃, a₃, hn₃⟩ := forget hn₃
  have c1 : M₃ "text" = some (.str x t) := by rw [a₃]; simp [la1, b1]
  have c2 : M₃ "total" = some (.int tot u) := by rw [a₃]; simp [la2, b2]
  have c3 : M₃ "ahead" = some (.int a₀ t₂) := by rw [a₃]; simp
  have eLack : lackGo x tot 10 a₀ = lackOf x tot := by unfold lackOf; rw [ea]
  refine wpAny_execs_cons (wpAny_While (codeAny_whileLoop (fun k s' => ∃ a t' m', s'.heap.Ns L m' ∧ m' "text" = some (.str x t) ∧ m' "total" = some (.int tot u) ∧ m' "ahead" = some (.int a t') ∧ Up L s.heap s'.heap ∧ s'.os = s.os ∧ (AllBare s.gens → AllBare s'.gens) ∧
    lackGo x tot (k + 1) a = lackOf x tot ∧ 0 ≤ a ∧ tot ≤ a ∧ a ≤ 100 ∧ 9 - a ≤ k) ?_ 9 ⟨a₀, t₂, M₃, hn₃, c1, c2, c3, u₃, rfl, id, eLack, ha₀, hat, ha100, by omega⟩))
  rintro k s' ⟨a, t', m', hn', p1, p2, p3, u', p4, p5, p6, p7, p8, p9, p10⟩
  have hnE : s'.heap.Ns env.locals m' := heL ▸ hn'
  have hb' := base_up hb hLb u'
  have stop : ∀ s'' : Shared, s''.heap.Ns L m' → Up L s'.heap s''.heap → s''.os = s'.os → (AllBare s'.gens → AllBare s''.gens) → ¬ (a < 9 ∧ (chk (lackA x tot a) = false ∨ chk (lackB x a) = true)) →
      wpAny (model prog w) (A.deeper env) (execs ((defBody (stmtAt atLacks)).drop 2) env) (fun fl s' => Q (match fl with | .ret v => v | _ => .none) s') (fun _ _ => False) s'' := by
    intro s'' hn'' u'' ho hba hc
    refine wpAny_execs_cons (wpAny_Return_some (nm hk (kn (by decide)) (heL ▸ hn'') p3 ?_))
    have q6 : a = lackOf x tot := by
      rw [← p6]
      show _ = if a < 9 ∧ (chk (lackA x tot a) = false ∨ chk (lackB x a) = true) then _ else a
      rw [if_neg hc]
    rw [q6]
    exact h _ s'' ⟨fun b o q => u'' b o (fun z => by rw [z, hLs] at q; cases q) (u' b o (fun z => by rw [z, hLs] at q; cases q) q), ho.trans p4, fun q => hba (p5 q)⟩
  refine isTrue_and (is_lt (.name hk (kn (by decide)) hnE p3) .const fun tk₁ => ?_)
  by_cases hc1 : a < 9
  · rw [decide_eq_true hc1, if_pos rfl]
    refine isTrue_and (isTrue_or (isTrue_not (isTrue_plain ?_)))
    refine callDef1 hk (kn (by decide)) (e.globals ▸ hg) hg2 N2.def_ hb' ?_
    refine wpAny_BinOp (wpAny_BinOp (wpAny_BinOp (litStr (nm hk (kn (by decide)) hnE p3 (rep_str (c := 40) (by decide) (by omega) (by omega) fun t₅ tk₅ => ?_)))))
    refine nm hk (kn (by decide)) hnE p1 (add_str (fun t₆ tk₆ => ?_) ?_)
    rotate_left
    · rw [repS_len]; have := sizeLine_eq; omega
    refine wpAny_BinOp (litStr (EvI.sub (.name hk (kn (by decide)) hnE p3) (.name hk (kn (by decide)) hnE p2) _ _ _ rfl fun t₇ tk₇ => rep_str (c := 41) (by decide) (by omega) (by omega) fun t₈ tk₈ => add_str (fun t₉ tk₉ => ?_) ?_))
    rotate_left
    · rw [repS_len, Str.length_append, repS_len]; have := sizeLine_eq; omega
    refine ⟨hb', call_taken (x := lackA x tot a) N N2 hb' hh' hroom' (by unfold lackA; rw [Str.length_append, Str.length_append, repS_len, repS_len]; omega) fun s₅ x₅ => wpAny_truthy_bool ?_⟩
    have k₅ : ∀ b o, s'.heap.get? b = some o → s₅.heap.get? b = some o := x₅.keep
    have o₅ : s₅.os = s'.os := x₅.os
    have ba₅ : AllBare s'.gens → AllBare s₅.gens := x₅.bare
    have hn₅ : s₅.heap.Ns L m' := hn'.keeps k₅
    have hnE₅ : s₅.heap.Ns env.locals m' := heL ▸ hn₅
    have hb₅ : ∀ b o, base.get? b = some o → s₅.heap.get? b = some o := fun b o q => k₅ b o (hb' b o q)
    -- one more
    have more : ∀ s₆ : Shared, s₆.heap.Ns L m' → Up L s'.heap s₆.heap → s₆.os = s'.os → (AllBare s'.gens → AllBare s₆.gens) → (chk (lackA x tot a) = false ∨ chk (lackB x a) = true) →
        wpAny (model prog w) (A.deeper env) (execs (whileBody (nthS (defBody (stmtAt atLacks)) 1)) env) (fun f s'' => f = .next ∧ ∃ j, j < k ∧ ∃ a t' m', s''.heap.Ns L m' ∧ m' "text" = some (.str x t) ∧ m' "total" = some (.int tot u) ∧ m' "ahead" = some (.int a t') ∧ Up L s.heap s''.heap ∧ s''.os = s.os ∧ (AllBare s.gens → AllBare s''.gens) ∧
            lackGo x tot (j + 1) a = lackOf x tot ∧ 0 ≤ a ∧ tot ≤ a ∧ a ≤ 100 ∧ 9 - a ≤ j) (fun _ _ => False) s₆ := by
      intro s₆ hn₆ u₆ o₆ ba₆ hc2
      refine wpAny_execs_cons (aug_add hk (kn (by decide)) (heL ▸ hn₆) p3 .const fun h₇ t₇ tk₇ hn₇ u₇ => wpAny_execs_nil ?_)
      rw [heL] at hn₇ u₇
      have eg : lackGo x tot (k + 1) a = lackGo x tot k (a + 1) := by
        show (if a < 9 ∧ (chk (lackA x tot a) = false ∨ chk (lackB x a) = true) then lackGo x tot k (a + 1) else a) = _
        rw [if_pos ⟨hc1, hc2⟩]
      rw [eg] at p6
      cases k with
      | zero => exfalso; omega
      | succ k => exact ⟨rfl, k, Nat.lt_succ_self _, a + 1, t₇, _, hn₇, by simp [la1, p1], by simp [la2, p2], by simp, (u'.trans u₆).trans u₇, o₆.trans p4, fun q => ba₆ (p5 q), p6, by omega, by omega, by omega, by omega⟩
    cases hA : chk (lackA x tot a) with
    | false =>
      show if (!false) = true then _ else _
      rw [if_pos (by decide), if_pos rfl]
      refine isTrue_and_nil ?_
      rw [if_pos rfl]
      exact wpAny_mono (more s₅ hn₅ (.of_keep k₅) o₅ ba₅ (.inl hA)) (fun f s'' hf => by obtain ⟨rfl, hf⟩ := hf; exact hf) fun _ _ q => q.elim
    | true =>
      show if (!true) = true then _ else _
      rw [if_neg (by decide)]
      refine isTrue_or (isTrue_plain ?_)
      refine callDef1 hk (kn (by decide)) (e.globals ▸ hg) hg2 N2.def_ hb₅ ?_
      refine wpAny_BinOp (wpAny_BinOp (litStr (EvI.add (.name hk (kn (by decide)) hnE₅ p3) .const _ _ _ rfl fun t₆ tk₆ => rep_str (c := 40) (by decide) (by omega) (by omega) fun t₇ tk₇ => ?_)))
      refine nm hk (kn (by decide)) hnE₅ p1 (add_str (fun t₆ tk₆ => ?_) ?_)
      rotate_left
      · rw [repS_len]; have := sizeLine_eq; omega
      refine ⟨hb₅, call_taken (x := lackB x a) N N2 hb₅ hh' hroom' (by unfold lackB; rw [Str.length_append, repS_len]; omega) fun s₈ x₈ => wpAny_truthy_bool ?_⟩
      have k₈ : ∀ b o, s₅.heap.get? b = some o → s₈.heap.get? b = some o := x₈.keep
      have o₈ : s₈.os = s₅.os := x₈.os
      have ba₈ : AllBare s₅.gens → AllBare s₈.gens := x₈.bare
      have hn₈ : s₈.heap.Ns L m' := hn₅.keeps k₈
      have u₈ : Up L s'.heap s₈.heap := .of_keep fun b o q => k₈ b o (k₅ b o q)
      cases hB : chk (lackB x a) with
      | true =>
        rw [if_pos rfl, if_pos rfl]
        refine isTrue_and_nil ?_
        rw [if_pos rfl]
        exact wpAny_mono (more s₈ hn₈ u₈ (o₈.trans o₅) (fun q => ba₈ (ba₅ q)) (.inr hB)) (fun f s'' hf => by obtain ⟨rfl, hf⟩ := hf; exact hf) fun _ _ q => q.elim
      | false =>
        rw [if_neg Bool.false_ne_true]
        refine isTrue_or_nil ?_
        rw [if_neg Bool.false_ne_true, if_neg Bool.false_ne_true]
        have hno : ¬ (a < 9 ∧ (chk (lackA x tot a) = false ∨ chk (lackB x a) = true)) := by
          rw [hA, hB]; simp
        exact wpAny_execs_nil (stop s₈ hn₈ u₈ (o₈.trans o₅) (fun q => ba₈ (ba₅ q)) hno)
  · rw [decide_eq_false hc1, if_neg Bool.false_ne_true, if_neg Bool.false_ne_true]
    exact wpAny_execs_nil (stop _ hn' .refl rfl id fun q => hc1 q.1)
end
end Mine
namespace Mine
open PySem

theorem compTurn_two0 (elt t1 i1 t2 i2 : Expr) (scope : Scope) (pos : Pos) (it acc : Value) (env : Env) :
    compTurn (.ListComp elt [⟨t1, i1, [], 0⟩, ⟨t2, i2, [], 0⟩] scope pos) 0 it acc env = (standAt i1.pos >>= fun _ => pyNext it >>= fun r => match r with
      | none => pure (.done .next)
      | some v => letOwnedTupleGo t1 it v >>= fun _ => assign t1 env v >>= fun _ => eval i2 env >>= fun x => standAt i2.pos >>= fun _ => foldedSetIterable i2 env x >>= fun x => holding [x] (pyIter x) >>= fun it2 =>
        runOwn (.compStart (.ListComp elt [⟨t1, i1, [], 0⟩, ⟨t2, i2, [], 0⟩] scope pos) 1 it2 acc env) env >>= fun _ =>
          again (.compLoop (.ListComp elt [⟨t1, i1, [], 0⟩, ⟨t2, i2, [], 0⟩] scope pos) 0 it acc env)) := by rfl

theorem compTurn_two1 (elt t1 i1 t2 i2 : Expr) (scope : Scope) (pos : Pos) (it acc : Value) (env : Env) :
    compTurn (.ListComp elt [⟨t1, i1, [], 0⟩, ⟨t2, i2, [], 0⟩] scope pos) 1 it acc env = (standAt i2.pos >>= fun _ => pyNext it >>= fun r => match r with
      | none => pure (.done .next)
      | some v => letOwnedTupleGo t2 it v >>= fun _ => assign t2 env v >>= fun _ =>
        (eval elt env >>= fun x => call (.builtin "list.append") [acc, x] >>= fun _ => pure ()) >>= fun _ =>
          again (.compLoop (.ListComp elt [⟨t1, i1, [], 0⟩, ⟨t2, i2, [], 0⟩] scope pos) 1 it acc env)) := by rfl

section
variable {prog : Program} {w : World} {A : Around} {E : Value → Shared → Prop} {R : Result → Shared → Prop} {s : Shared}

theorem compLoop_two0 {elt t1 i1 t2 i2 : Expr} {scope : Scope} {pos : Pos} {it acc : Value} {env : Env} (I : Nat → Shared → Prop)
    (turn : ∀ n s, I n s → wpAny (model prog w) A (pyNext it) (fun r s₁ => match r with
      | none => R (.ok .next) s₁
      | some v => wpAny (model prog w) A (letOwnedTupleGo t1 it v) (fun _ s₁' => wpAny (model prog w) A (assign t1 env v) (fun _ s₂ => wpAny (model prog w) A (eval i2 env) (fun x s₃ => wpAny (model prog w) A (pyIter x) (fun it2 s₄ =>
          codeAny (model prog w) A (.compStart (.ListComp elt [⟨t1, i1, [], 0⟩, ⟨t2, i2, [], 0⟩] scope pos) 1 it2 acc env) (fun r s₅ => r = .ok .next ∧ ∃ m, m < n ∧ I m s₅) s₄)
          (fun _ _ => False) s₃) (fun _ _ => False) s₂) (fun _ _ => False) s₁') (fun _ _ => False) s₁) (fun _ _ => False) s)
    (n : Nat) (h : I n s) (hs : ∀ x, foldedSetIterable i2 env x = pure x := by intro _; rfl) :
    codeAny (model prog w) A (.compLoop (.ListComp elt [⟨t1, i1, [], 0⟩, ⟨t2, i2, [], 0⟩] scope pos) 0 it acc env) R s := by
  refine codeAny_loop rfl I (fun n s hI => ?_) n h
  show wpAny _ A ((compTurn (.ListComp elt [⟨t1, i1, [], 0⟩, ⟨t2, i2, [], 0⟩] scope pos) 0 it acc env).onRaise (fun x => do noteFrame x env; theTreesLotGoes x)) _ _ s
  refine wpAny_noted ?_
  rw [compTurn_two0]
  refine wpAny_bind (wpAny_standAt (wpAny_bind (wpAny_mono (turn n s hI) (fun r s₁ h₁ => ?_) fun _ _ h' => h'.elim)))
  cases r with
  | none => exact wpAny_pure h₁
  | some v =>
    refine wpAny_bind (wpAny_mono h₁ (fun _ s₁' h₁' => ?_) fun _ _ h' => h'.elim)
    refine wpAny_bind (wpAny_mono h₁' (fun _ s₂ h₂ => ?_) fun _ _ h' => h'.elim)
    refine wpAny_bind (wpAny_mono h₂ (fun x s₃ h₃ => ?_) fun _ _ h' => h'.elim)
    refine wpAny_bind (wpAny_standAt ?_)
    refine wpAny_bind (wpAny_of_eq (hs x) ?_)
    refine wpAny_bind (wpAny_holding (wpAny_mono h₃ (fun it2 s₄ h₄ => ?_) fun _ _ h' => h'.elim))
    refine wpAny_bind (wpAny_runOwn (codeAny_mono h₄ fun r s₅ hr => ?_))
    obtain ⟨rfl, h₅⟩ := hr
    exact wpAny_pure ⟨rfl, h₅⟩

theorem compStart_two1 {elt t1 i1 t2 i2 : Expr} {scope : Scope} {pos : Pos} {it acc : Value} {env : Env}
    (h0 : codeAny (model prog w) A (.compLoop (.ListComp elt [⟨t1, i1, [], 0⟩, ⟨t2, i2, [], 0⟩] scope pos) 1 it acc env) R s)
    (h : wpAny (model prog w) A (pyIter it) (fun it' s' => codeAny (model prog w) A (.compLoop (.ListComp elt [⟨t1, i1, [], 0⟩, ⟨t2, i2, [], 0⟩] scope pos) 1 it' acc env) R s') (fun _ _ => False) s) :
    codeAny (model prog w) A (.compStart (.ListComp elt [⟨t1, i1, [], 0⟩, ⟨t2, i2, [], 0⟩] scope pos) 1 it acc env) R s := by
  refine codeAny_of_tree ?_
  show wpAny _ _ ((compStart (.ListComp elt [⟨t1, i1, [], 0⟩, ⟨t2, i2, [], 0⟩] scope pos) 1 it acc env).onRaise (fun x => do noteFrame x env; standAt theWindowsPlace)) _ _ s
  refine wpAny_notedAt ?_
  unfold compStart
  show wpAny _ _ (ask >>= _) _ _ s
  refine wpAny_bind (wpAny_askSetting (wpAny_ite ?_))
  split
  · first
      | exact wpAny_bind (wpAny_pure (wpAny_pure (And.intro rfl h0)))
      | exact wpAny_pure (And.intro rfl h0)
  · first
      | exact wpAny_bind (wpAny_rule (wpAny_bind (wpAny_standAt (wpAny_bind (wpAny_mono h (fun it' s' h' => wpAny_pure (And.intro rfl h')) fun _ _ x => x.elim)))))
      | (refine wpAny_bind (wpAny_rule ?_); show wpAny _ _ (standAt i2.pos >>= _) _ _ s; exact wpAny_bind (wpAny_standAt (wpAny_bind (wpAny_mono h (fun it' s' h' => wpAny_pure (And.intro rfl h')) fun _ _ x => x.elim))))

theorem compLoop_two1 {elt t1 i1 t2 i2 : Expr} {scope : Scope} {pos : Pos} {it acc : Value} {env : Env} (I : Nat → Shared → Prop)
    (turn : ∀ n s, I n s → wpAny (model prog w) A (pyNext it) (fun r s₁ => match r with
      | none => R (.ok .next) s₁
      | some v => wpAny (model prog w) A (letOwnedTupleGo t2 it v) (fun _ s₁' => wpAny (model prog w) A (assign t2 env v) (fun _ s₂ => wpAny (model prog w) A (eval elt env) (fun x s₃ =>
          wpAny (model prog w) A (call (.builtin "list.append") [acc, x]) (fun _ s₄ => ∃ m, m < n ∧ I m s₄) (fun _ _ => False) s₃)
          (fun _ _ => False) s₂) (fun _ _ => False) s₁') (fun _ _ => False) s₁) (fun _ _ => False) s)
    (n : Nat) (h : I n s) :
    codeAny (model prog w) A (.compLoop (.ListComp elt [⟨t1, i1, [], 0⟩, ⟨t2, i2, [], 0⟩] scope pos) 1 it acc env) R s := by
  refine codeAny_loop rfl I (fun n s hI => ?_) n h
  show wpAny _ A ((compTurn (.ListComp elt [⟨t1, i1, [], 0⟩, ⟨t2, i2, [], 0⟩] scope pos) 1 it acc env).onRaise (fun x => do noteFrame x env; theTreesLotGoes x)) _ _ s
  refine wpAny_noted ?_
  rw [compTurn_two1]
  refine wpAny_bind (wpAny_standAt (wpAny_bind (wpAny_mono (turn n s hI) (fun r s₁ h₁ => ?_) fun _ _ h' => h'.elim)))
  cases r with
  | none => exact wpAny_pure h₁
  | some v =>
    refine wpAny_bind (wpAny_mono h₁ (fun _ s₁' h₁' => ?_) fun _ _ h' => h'.elim)
    exact wpAny_bind (wpAny_mono h₁' (fun _ s₂ h₂ => wpAny_bind (wpAny_bind (wpAny_mono h₂ (fun x s₃ h₃ => wpAny_bind (wpAny_mono h₃
      (fun _ s₄ h₄ => wpAny_pure (wpAny_pure ⟨rfl, h₄⟩)) fun _ _ h' => h'.elim)) fun _ _ h' => h'.elim))) fun _ _ h' => h'.elim)
end
end Mine
namespace Mine
open PySem

theorem na {a b : Nat} (h : a < b) : (a : Addr) ≠ b := Nat.ne_of_lt h
theorem nb {a b : Nat} (h : b < a) : (a : Addr) ≠ b := Nat.ne_of_gt h

/-- every list and tuple but D stands as it stood -/
def KeepSeq (D : Addr) (h h' : Heap) : Prop := ∀ b o its k, b ≠ D → o.data = .seq its k → h.get? b = some o → h'.get? b = some o
theorem KeepSeq.refl {D : Addr} {h : Heap} : KeepSeq D h h := fun _ _ _ _ _ _ q => q
theorem KeepSeq.trans {D : Addr} {h h' h'' : Heap} (x : KeepSeq D h h') (y : KeepSeq D h' h'') : KeepSeq D h h'' := fun b o its k hb hd q => y b o its k hb hd (x b o its k hb hd q)
theorem KeepSeq.of_keep {D : Addr} {h h' : Heap} (x : ∀ b o, h.get? b = some o → h'.get? b = some o) : KeepSeq D h h' := fun b o _ _ _ _ q => x b o q
theorem ns_not_seq {h : Heap} {L b : Addr} {m : Str → Option Value} {o : Obj} {its : Array Value} {k : Nat} (hn : h.Ns L m) (q : h.get? b = some o) (hd : o.data = .seq its k) : b ≠ L := by
  rintro rfl
  obtain ⟨o', _, _, ho', hd', _⟩ := hn
  rw [q] at ho'
  cases ho'
  rw [hd] at hd'
  cases hd'
theorem iter_not_seq {h : Heap} {I l b : Addr} {j : Nat} {o : Obj} {its : Array Value} {k : Nat} (x : h.IsListIter I l j) (q : h.get? b = some o) (hd : o.data = .seq its k) : b ≠ I := by
  rintro rfl
  obtain ⟨o', ho', r⟩ := x
  rw [q] at ho'
  cases ho'
  have := r.2
  rw [hd] at this
  cases this

section
variable {prog : Program} {w : World} {A : Around} {E : Value → Shared → Prop} {s : Shared}

/-- a comprehension up to its first loop; names from around it stand in cells -/
theorem comp_coreC {env : Env} {elt target iter : Expr} {ifs : List Expr} {gs : List Comprehension} {scope : Scope} {cl : List (Str × Addr)} {pos cpos : Pos} {use : Option (Value → Sem Unit)} {Q : Value → Shared → Prop}
    (hclos : closureFor scope env = pure cl) (hcell : ∀ x ∈ scope.names, x.2 ≠ .cell) (hkind : scope.kind = .function) (hnames : ∀ x ∈ scope.names, x.2 = .local → scope.names.lookup x.1 = some .local)
    (h : wpAny (model prog w) A (eval iter env) (fun x s₁ => wpAny (model prog w) A (pyIter x) (fun it s₂ =>
      ∀ h₃ tk₃, (∀ b o, s₂.heap.get? b = some o → h₃.get? b = some o) → h₃.PlainList s₂.heap.objs.size #[] → h₃.Ns (s₂.heap.objs.size + 1) (fun _ => none) →
        wpAny (model prog w) A (pyIter it) (fun it' s' => it' = it ∧ s' = { s₂ with heap := h₃, toks := tk₃ }) (fun _ _ => False) { s₂ with heap := h₃, toks := tk₃ } ∧
        codeAny (model prog w) A (.compLoop (.ListComp elt (⟨target, iter, ifs, 0⟩ :: gs) scope pos) 0 it (.ref s₂.heap.objs.size) (compEnvC scope cl (s₂.heap.objs.size + 1) env))
          (fun r s' => r = .ok .next ∧ compPost (model prog w) A E use Q (.ref s₂.heap.objs.size) (s₂.heap.objs.size + 1) (.ok .next) s') { s₂ with heap := h₃, toks := tk₃ }) E s₁) E s)
    (hs : ∀ x, foldedSetIterable iter env x = pure x := by intro _; rfl) :
    wpAny (model prog w) A (comprehension (.ListComp elt (⟨target, iter, ifs, 0⟩ :: gs) scope pos) scope env cpos (newList []) false (eval iter env) use) Q E s := by
  refine wpAny_comprehension_free (use := use) rfl hs hclos hkind hnames (wpAny_mono h (fun xv s₁ h₁ => wpAny_mono h₁ (fun it s₂ h₂ => ?_) fun _ _ e => e) fun _ _ e => e)
  refine wpAny_newObj_type (wpAny_newFunctionEnv hcell (by intro y hy; simp at hy) (fun h₁ hns₁ hsb₁ => ?_) hkind)
  dsimp only at hns₁ hsb₁ ⊢
  have hC : (s₂.heap.push { cls := .type "list", data := .seq ([] : List Value).toArray }).objs.size = s₂.heap.objs.size + 1 := by rw [Heap.size_push]
  rw [hC] at hns₁ hsb₁ ⊢
  have keep : ∀ b o, s₂.heap.get? b = some o → h₁.get? b = some o := fun b o q => hsb₁.extBut b o (Nat.ne_of_lt (Nat.lt_succ_of_lt (Heap.lt_size q))) (Heap.get?_push_of_some _ (Heap.get?_push_of_some _ q))
  have hacc : h₁.PlainList s₂.heap.objs.size #[] := ⟨_, hsb₁.extBut _ _ (Nat.ne_of_lt (Nat.lt_succ_self _)) (Heap.get?_push_of_some _ (Heap.get?_push_size _ rfl))⟩
  obtain ⟨hi, hc⟩ := h₂ h₁ (s₂.toks + ([] : List (Str × Value)).length) keep hacc hns₁
  have loop := codeAny_mono (R' := fun (r : Result) s' => compPost (model prog w) A E use Q (.ref s₂.heap.objs.size) (s₂.heap.objs.size + 1) r s') hc
    (fun r s' hr => by
      obtain ⟨rfl, q1⟩ := hr
      exact q1)
  refine codeAny_compStart_list loop (wpAny_mono hi (fun it' s' hq => ?_) fun _ _ q => q.elim)
  obtain ⟨rfl, rfl⟩ := hq
  exact loop

/-- the inner loop of a comprehension with two for-clauses -/
theorem two_walk {cenv : Env} {elt t1 i1 i2 : Expr} {scope : Scope} {pos p2 : Pos} {n1 n2 : Str} {D C I : Addr} {v1 : Value} {m : Str → Option Value} {items : Array Value} {s₄ : Shared}
    {fp wr : List Addr} {n : Nat} {P : Nat → Value → Prop} {St : Nat → Heap → Prop} {G : Nat → List Value → Heap → Prop} (W : Walks prog w A I fp wr n P St)
    (hC : cenv.locals = C) (ck : cenv.scope.kind = .function) (k2 : cenv.kindOf n2 = some .local) (n12 : ¬ n1 = n2)
    (hD : s₄.heap.PlainList D items) (hn : s₄.heap.Ns C m) (hm : m n1 = some v1) (hst : St 0 s₄.heap) (hG : G 0 items.toList s₄.heap)
    (hDC : D ≠ C) (hDf : D ∉ fp) (hCf : C ∉ fp) (hwr : ∀ i h b o its k, St i h → b ∈ wr → h.get? b = some o → o.data = .seq its k → False)
    (mG : ∀ i its h h', G i its h → KeepSeq D h h' → G i its h') (lG : ∀ i its h, G i its h → its.length ≤ 10000)
    (helt : ∀ i v2 s m' its, i < n → P i v2 → (∀ b o, b ∉ wr → b ≠ D → b ≠ C → s₄.heap.get? b = some o → s.heap.get? b = some o) → s.heap.Ns C m' → m' n1 = some v1 → m' n2 = some v2 → s.heap.PlainList D its → G i its.toList s.heap →
      wpAny (model prog w) A (eval elt cenv) (fun y s' => Keeps s s' ∧ G (i + 1) (its.toList ++ [y]) s'.heap) (fun _ _ => False) s) :
    codeAny (model prog w) A (.compLoop (.ListComp elt [⟨t1, i1, [], 0⟩, ⟨.Name n2 p2, i2, [], 0⟩] scope pos) 1 (.ref I) (.ref D) cenv)
      (fun r s' => r = .ok .next ∧ ∃ h' tk m' items', s' = { s₄ with heap := h', toks := tk } ∧ (∀ b o, b ∉ wr → b ≠ D → b ≠ C → s₄.heap.get? b = some o → h'.get? b = some o) ∧ h'.Ns C m' ∧ h'.PlainList D items' ∧ G n items'.toList h') s₄ := by
  have hDw : D ∉ wr := fun q => hDf (W.sub _ q)
  have hCw : C ∉ wr := fun q => hCf (W.sub _ q)
  refine compLoop_two1 (fun k s' => ∃ j h' tk m' items', k = n + 1 - j ∧ j ≤ n ∧ s' = { s₄ with heap := h', toks := tk } ∧ (∀ b o, b ∉ wr → b ≠ D → b ≠ C → s₄.heap.get? b = some o → h'.get? b = some o) ∧ h'.Ns C m' ∧ m' n1 = some v1 ∧
    h'.PlainList D items' ∧ G j items'.toList h' ∧ St j h') ?_ (n + 1)
    ⟨0, s₄.heap, s₄.toks, m, items, rfl, Nat.zero_le _, rfl, fun _ _ _ _ _ q => q, hn, hm, hD, hG, hst⟩
  rintro k s' ⟨j, h', tk, m', items', rfl, hj, rfl, keep', hn', hm', hD', hG', hst'⟩
  have kseq : ∀ {h₁ : Heap}, (∀ b o, b ∉ wr → h'.get? b = some o → h₁.get? b = some o) → KeepSeq D h' h₁ := fun hk b o its k hb hd q => hk b o (fun z => hwr j h' b o its k hst' z q hd) q
  by_cases hlt : j < n
  · refine W.item j _ _ _ hlt hst' fun v2 h₁ tk₁ hP hst₁ hk₁ => ?_
    replace hk₁ : ∀ b o, b ∉ wr → h'.get? b = some o → h₁.get? b = some o := hk₁
    have hn₁ : h₁.Ns C m' := hn'.at' fun o q => hk₁ _ o hCw q
    refine wpAny_pure ?_
    refine wpAny_assign_Name (wpAny_storeName_local k2 (hC ▸ hn₁) (fun h₂ hn₂ hs₂ => ?_) (plainScope ck))
    rw [hC] at hn₂ hs₂
    replace hs₂ : Heap.SameBut C h₁ h₂ := hs₂
    have hm₂ : (fun y => if y = n2 then some v2 else m' y) n1 = some v1 := by simp [n12, hm']
    have hD₂ : h₂.PlainList D items' := (hD'.at fun o q => hk₁ _ o hDw q).at fun o q => hs₂.extBut _ o hDC q
    have hG₂ : G j items'.toList h₂ := mG _ _ _ _ (mG _ _ _ _ hG' (kseq hk₁)) fun b o its k hb hd q => hs₂.extBut b o (ns_not_seq hn₁ q hd) q
    have keep₂ : ∀ b o, b ∉ wr → b ≠ D → b ≠ C → s₄.heap.get? b = some o → h₂.get? b = some o := fun b o a1 a2 a3 q => hs₂.extBut b o a3 (hk₁ b o a1 (keep' b o a1 a2 a3 q))
    refine wpAny_mono (helt j v2 { s₄ with heap := h₂, toks := tk₁ + 1 } _ items' hlt hP keep₂ hn₂ hm₂ (by simp) hD₂ hG₂) (fun y s₃ hy => ?_) fun _ _ q => q
    obtain ⟨⟨h₃, tk₃, rfl, keep₃⟩, hG₃⟩ := hy
    replace keep₃ : ∀ b o, h₂.get? b = some o → h₃.get? b = some o := keep₃
    replace hG₃ : G (j + 1) (items'.toList ++ [y]) h₃ := hG₃
    have hD₃ : h₃.PlainList D items' := hD₂.at fun o q => keep₃ _ o q
    refine wpAny_list_append_plain hD₃ (fun h₄ hD₄ hs₄ => ?_) ?_
    · replace hs₄ : Heap.SameBut D h₃ h₄ := hs₄
      have hst₄ : St (j + 1) h₄ := W.frame _ _ _ hst₁ fun b hb o q => hs₄.extBut b o (fun z => hDf (z ▸ hb)) (keep₃ b o (hs₂.extBut b o (fun z => hCf (z ▸ hb)) q))
      refine ⟨n + 1 - (j + 1), by omega, j + 1, h₄, tk₃, _, _, rfl, hlt, rfl, fun b o a1 a2 a3 q => hs₄.extBut b o a2 (keep₃ b o (keep₂ b o a1 a2 a3 q)), (hn₂.keeps keep₃).sameBut hs₄ (Ne.symm hDC), hm₂, hD₄, ?_, hst₄⟩
      rw [Array.toList_push]
      exact mG _ _ _ _ hG₃ fun b o its k hb hd q => hs₄.extBut b o hb q
    · have e : items'.toList.length = items'.size := by simp
      have := lG _ _ _ hG'
      have := sizeLine_eq; omega
  · have hje : j = n := by omega
    subst hje
    refine W.done _ _ _ hst' fun h₁ tk₁ hk₁ => ?_
    replace hk₁ : ∀ b o, b ∉ wr → h'.get? b = some o → h₁.get? b = some o := hk₁
    exact ⟨rfl, h₁, tk₁, m', items', rfl, fun b o a1 a2 a3 q => hk₁ b o a1 (keep' b o a1 a2 a3 q), hn'.at' fun o q => hk₁ _ o hCw q, hD'.at fun o q => hk₁ _ o hDw q, mG _ _ _ _ hG' (kseq hk₁)⟩

set_option maxHeartbeats 2000000 in
/-- [elt for n1 in a list for n2 in ..] -/
theorem comp_two_core {env : Env} {elt i1 i2 : Expr} {scope : Scope} {cl : List (Str × Addr)} {pos cpos p1 p2 : Pos} {use : Option (Value → Sem Unit)} {n1 n2 : Str} {nv : Nat} {P1 : Nat → Value → Prop} {nn : Nat → Nat} {GG : Addr → Nat → List Value → Heap → Prop} {G : Addr → Nat → Nat → List Value → Heap → Prop} {Q : Value → Shared → Prop}
    (hh : A.handled = none) (hclos : closureFor scope env = pure cl) (hcell : ∀ x ∈ scope.names, x.2 ≠ .cell) (hkind : scope.kind = .function) (hnames : ∀ x ∈ scope.names, x.2 = .local → scope.names.lookup x.1 = some .local)
    (k1 : scope.names.lookup n1 = some .local) (k2 : scope.names.lookup n2 = some .local) (n12 : ¬ n1 = n2)
    (h1 : wpAny (model prog w) A (eval i1 env) (fun v s₁ => ∃ (l : Addr) (vs : List Value), v = .ref l ∧ vs.length = nv ∧ (∀ (j : Nat) (v : Value), vs[j]? = some v → P1 j v) ∧ s₁.heap.IsList l vs.toArray ∧ Keeps s s₁) E s)
    (h0 : ∀ D h, GG D 0 [] h)
    (mGG : ∀ D j its h h', GG D j its h → KeepSeq D h h' → GG D j its h') (mG : ∀ D j i its h h', G D j i its h → KeepSeq D h h' → G D j i its h') (lG : ∀ D j i its h, G D j i its h → its.length ≤ 10000)
    (hin : ∀ D j its h, j < nv → GG D j its h → G D j 0 its h) (hout : ∀ D j its h, j < nv → G D j (nn j) its h → GG D (j + 1) its h)
    (h2 : ∀ C j v s' m', j < nv → P1 j v → (∀ b o, s.heap.get? b = some o → s'.heap.get? b = some o) → s'.heap.Ns C m' → m' n1 = some v →
      wpAny (model prog w) A (eval i2 (compEnvC scope cl C env)) (fun x s₂ => wpAny (model prog w) A (pyIter x) (fun it s₃ => ∃ I fp wr P St, it = .ref I ∧ Walks prog w A I fp wr (nn j) P St ∧ St 0 s₃.heap ∧ (∀ b ∈ fp, s'.heap.get? b = none ∧ b < s₃.heap.objs.size) ∧
        (∀ i h b o its k, St i h → b ∈ wr → h.get? b = some o → o.data = .seq its k → False) ∧ Keeps s' s₃ ∧
        (∀ D s₅ m₅ i v₂ its, i < nn j → P i v₂ → (∀ b o, s.heap.get? b = some o → s₅.heap.get? b = some o) → s₅.heap.Ns C m₅ → m₅ n1 = some v → m₅ n2 = some v₂ → s₅.heap.PlainList D its → G D j i its.toList s₅.heap →
          wpAny (model prog w) A (eval elt (compEnvC scope cl C env)) (fun y s₆ => Keeps s₅ s₆ ∧ G D j (i + 1) (its.toList ++ [y]) s₆.heap) (fun _ _ => False) s₅)) (fun _ _ => False) s₂) (fun _ _ => False) s')
    (h : ∀ D C s' m' items, Keeps s s' → s.heap.get? D = none → s.heap.get? C = none → D ≠ C → s'.heap.Ns C m' → s'.heap.PlainList D items → GG D nv items.toList s'.heap → compPost (model prog w) A E use Q (.ref D) C (.ok .next) s')
    (hs : ∀ x, foldedSetIterable i1 env x = pure x := by intro _; rfl) (hs2 : ∀ C x, foldedSetIterable i2 (compEnvC scope cl C env) x = pure x := by intro _ _; rfl) :
    wpAny (model prog w) A (comprehension (.ListComp elt [⟨.Name n1 p1, i1, [], 0⟩, ⟨.Name n2 p2, i2, [], 0⟩] scope pos) scope env cpos (newList []) false (eval i1 env) use) Q E s := by
  refine comp_coreC hclos hcell hkind hnames (wpAny_mono h1 (fun v s₁ hv => ?_) fun _ _ e => e) hs
  obtain ⟨l, vs, rfl, hvn, hP1, hL, ⟨h₁, tk₁, rfl, keep₁⟩⟩ := hv
  subst hvn
  replace hL : h₁.IsList l vs.toArray := hL
  refine wpAny_pyIter_list hL fun h₂ tk₂ up₂' hD₂ hn₂ => ?_
  obtain ⟨I, hI⟩ : ∃ I : Nat, I = h₁.objs.size := ⟨_, rfl⟩
  have e1 : (h₁.push { cls := .type "list_iterator", data := .fields #[.ref l, .int 0 0] }).objs.size = I + 1 := by rw [Heap.size_push, hI]
  dsimp only at up₂' hD₂ hn₂ ⊢
  rw [e1] at hD₂ hn₂ ⊢
  rw [← hI]
  have lt1 : ∀ (b : Nat) (o : Obj), h₁.get? b = some o → b < I := fun b o q => hI ▸ Heap.lt_size q
  have up₂ : ∀ b o, h₁.get? b = some o → h₂.get? b = some o := fun b o q => up₂' b o (Heap.get?_push_of_some _ q)
  have hit₂ : h₂.IsListIter I l 0 := ⟨_, up₂' _ _ (hI ▸ Heap.get?_push_size _ rfl), rfl, rfl⟩
  have hlI : @LT.lt Nat _ l I := by obtain ⟨o, ho, _⟩ := hL; exact lt1 _ _ ho
  refine ⟨wpAny_pyIter_listiter hit₂ ⟨rfl, rfl⟩, ?_⟩
  have ckind : ∀ C, (compEnvC scope cl C env).scope.kind = .function := fun _ => hkind
  refine compLoop_two0 (fun k s' => ∃ j h' tk m' items, k = vs.length + 1 - j ∧ j ≤ vs.length ∧ s' = { s with heap := h', toks := tk } ∧ (∀ b o, h₁.get? b = some o → h'.get? b = some o) ∧ h'.IsListIter I l j ∧ h'.Ns (I + 1 + 1) m' ∧
    h'.PlainList (I + 1) items ∧ GG (I + 1) j items.toList h') ?_ (vs.length + 1) ⟨0, h₂, tk₂, _, #[], rfl, Nat.zero_le _, rfl, up₂, hit₂, hn₂, hD₂, h0 _ _⟩ (hs2 _)
  rintro k s' ⟨j, h', tk, m', items, rfl, hj, rfl, keep', hit', hn', hD', hG'⟩
  have hL' : h'.IsList l vs.toArray := by
    obtain ⟨q, hq, r⟩ := hL
    exact ⟨q, keep' _ _ hq, r⟩
  cases hv : vs[j]? with
  | none =>
    have hje : j = vs.length := Nat.le_antisymm hj (by simpa using hv)
    subst hje
    refine wpAny_pyNext_list_end hh hit' hL' (by simp) fun h₃ hx₃ => ?_
    replace hx₃ : Heap.ExtBut I h' h₃ := hx₃
    have hn₃ : h₃.Ns (I + 1 + 1) m' := hn'.at' fun o q => hx₃ _ o (nb (by omega)) q
    have fresh : ∀ (a : Nat), I ≤ a → s.heap.get? a = none := fun a ha => by
      cases q : s.heap.get? a with
      | none => rfl
      | some o => exact absurd (lt1 _ _ (keep₁ _ _ q)) (by omega)
    refine ⟨rfl, h (I + 1) (I + 1 + 1) { s with heap := h₃, toks := tk } m' items ⟨h₃, tk, rfl, fun b o q => ?_⟩ (fresh _ (by omega)) (fresh _ (by omega)) (na (by omega)) hn₃ (hD'.at fun o q => hx₃ _ o (nb (by omega)) q) ?_⟩
    · have q₁ := keep₁ b o q
      have := lt1 b o q₁
      exact hx₃ b o (na (by omega)) (keep' b o q₁)
    · exact mGG _ _ _ _ _ hG' fun b o its k hb hd q => hx₃ b o (iter_not_seq hit' q hd) q
  | some v =>
    have hlt : j < vs.length := (List.getElem?_eq_some_iff.mp hv).1
    refine wpAny_pyNext_list_item hit' hL' (by simpa using hv) fun h₃ hit₃ hs₃ => ?_
    replace hs₃ : Heap.SameBut I h' h₃ := hs₃
    have hn₃ : h₃.Ns (I + 1 + 1) m' := hn'.at' fun o q => hs₃.extBut _ o (nb (by omega)) q
    refine wpAny_pure ?_
    refine wpAny_assign_Name (wpAny_storeName_local (env := compEnvC scope cl (I + 1 + 1) env) (relabel_local k1) hn₃ (fun h₄ hn₄ hs₄ => ?_) (plainScope hkind))
    replace hs₄ : Heap.SameBut (I + 1 + 1) h₃ h₄ := hs₄
    have hD₄ : h₄.PlainList (I + 1) items := (hD'.at fun o q => hs₃.extBut _ o (nb (by omega)) q).at fun o q => hs₄.extBut _ o (na (by omega)) q
    have hit₄ : h₄.IsListIter I l (j + 1) := by
      obtain ⟨q, hq, r⟩ := hit₃
      exact ⟨q, hs₄.extBut _ _ (na (by omega)) hq, r⟩
    have hG₄ : GG (I + 1) j items.toList h₄ := mGG _ _ _ _ _ (mGG _ _ _ _ _ hG' fun b o its k hb hd q => hs₃.extBut b o (iter_not_seq hit' q hd) q) fun b o its k hb hd q => hs₄.extBut b o (ns_not_seq hn₃ q hd) q
    have up₄ : ∀ b o, h₁.get? b = some o → h₄.get? b = some o := fun b o q => hs₄.extBut b o (na (by have := lt1 b o q; omega)) (hs₃.extBut b o (na (by have := lt1 b o q; omega)) (keep' b o q))
    refine wpAny_mono (h2 (I + 1 + 1) j v _ _ hlt (hP1 j v hv) (fun b o q => up₄ b o (keep₁ b o q)) hn₄ (by simp)) (fun x s₅ hx => wpAny_mono hx (fun it s₆ hit => ?_) fun _ _ q => q) fun _ _ q => q
    obtain ⟨I2, fp, wr, P, St, rfl, W, hst, hfp, hwr, ⟨h₆, tk₆, rfl, up₆⟩, helt⟩ := hit
    replace up₆ : ∀ b o, h₄.get? b = some o → h₆.get? b = some o := up₆
    replace hfp : ∀ b ∈ fp, h₄.get? b = none ∧ b < h₆.objs.size := hfp
    replace hst : St 0 h₆ := hst
    have nofp : ∀ {b o}, h₄.get? b = some o → b ∉ fp := fun {b o} q z => by rw [(hfp b z).1] at q; cases q
    have nowr : ∀ {b o}, h₄.get? b = some o → b ∉ wr := fun q z => nofp q (W.sub _ z)
    have hDf : (I + 1) ∉ fp := by obtain ⟨n, q⟩ := hD₄; exact nofp q
    have hCf : (I + 1 + 1) ∉ fp := by obtain ⟨o, _, _, q, _⟩ := id hn₄; exact nofp q
    have inner := two_walk (t1 := .Name n1 p1) (i1 := i1) (i2 := i2) (scope := scope) (pos := pos) (p2 := p2) (elt := elt) (cenv := compEnvC scope cl (I + 1 + 1) env) (C := I + 1 + 1) (D := I + 1) (v1 := v) (n1 := n1) (n2 := n2) (G := G (I + 1) j)
      (s₄ := { s with heap := h₆, toks := tk₆ }) W rfl hkind (relabel_local k2) n12 (hD₄.at fun o q => up₆ _ o q) (hn₄.keeps up₆) (by simp) hst (mG _ _ _ _ _ _ (hin _ _ _ _ hlt hG₄) (.of_keep up₆))
      (na (by omega)) hDf hCf hwr (fun i its h h' => mG _ _ _ _ _ _) (fun i its h => lG _ _ _ _ _)
      (fun i v2 s₇ m₇ its hi hP keep₇ hn₇ a1 a2 hD₇ hG₇ => helt (I + 1) s₇ m₇ i v2 its hi hP (fun b o q => by
        have q₁ := keep₁ b o q
        have := lt1 b o q₁
        exact keep₇ b o (nowr (up₄ b o q₁)) (na (by omega)) (na (by omega)) (up₆ b o (up₄ b o q₁))) hn₇ a1 a2 hD₇ hG₇)
    have fin := codeAny_mono (R' := fun (r : Result) s₅ => r = .ok .next ∧ ∃ m, m < vs.length + 1 - j ∧ ∃ j h' tk m' items, m = vs.length + 1 - j ∧ j ≤ vs.length ∧ s₅ = { s with heap := h', toks := tk } ∧ (∀ b o, h₁.get? b = some o → h'.get? b = some o) ∧ h'.IsListIter I l j ∧ h'.Ns (I + 1 + 1) m' ∧
      h'.PlainList (I + 1) items ∧ GG (I + 1) j items.toList h') inner (fun r s₇ hr => by
        obtain ⟨rfl, h₇, tk₇, m₇, items₇, rfl, q1, q2, q3, q4⟩ := hr
        replace q1 : ∀ b o, b ∉ wr → b ≠ I + 1 → b ≠ I + 1 + 1 → h₆.get? b = some o → h₇.get? b = some o := q1
        refine ⟨rfl, vs.length + 1 - (j + 1), by omega, j + 1, h₇, tk₇, m₇, items₇, rfl, hlt, rfl, fun b o q => ?_, ?_, q2, q3, hout _ _ _ _ hlt q4⟩
        · have r1 := lt1 b o q
          exact q1 b o (nowr (up₄ b o q)) (na (by omega)) (na (by omega)) (up₆ b o (up₄ b o q))
        · obtain ⟨q, hq, r⟩ := hit₄
          exact ⟨q, q1 _ _ (nowr hq) (na (by omega)) (na (by omega)) (up₆ _ _ hq), r⟩)
    exact compStart_two1 fin (W.self 0 _ _ _ hst fin)

theorem comp_two_walk {env : Env} {elt i1 i2 : Expr} {scope : Scope} {cl : List (Str × Addr)} {pos p1 p2 : Pos} {n1 n2 : Str} {nv : Nat} {P1 : Nat → Value → Prop} {nn : Nat → Nat} {GG : Addr → Nat → List Value → Heap → Prop} {G : Addr → Nat → Nat → List Value → Heap → Prop} {Q : Value → Shared → Prop}
    (hh : A.handled = none) (hclos : closureFor scope env = pure cl) (hcell : ∀ x ∈ scope.names, x.2 ≠ .cell) (hkind : scope.kind = .function) (hnames : ∀ x ∈ scope.names, x.2 = .local → scope.names.lookup x.1 = some .local)
    (k1 : scope.names.lookup n1 = some .local) (k2 : scope.names.lookup n2 = some .local) (n12 : ¬ n1 = n2)
    (h1 : wpAny (model prog w) A (eval i1 env) (fun v s₁ => ∃ (l : Addr) (vs : List Value), v = .ref l ∧ vs.length = nv ∧ (∀ (j : Nat) (v : Value), vs[j]? = some v → P1 j v) ∧ s₁.heap.IsList l vs.toArray ∧ Keeps s s₁) E s)
    (h0 : ∀ D h, GG D 0 [] h)
    (mGG : ∀ D j its h h', GG D j its h → KeepSeq D h h' → GG D j its h') (mG : ∀ D j i its h h', G D j i its h → KeepSeq D h h' → G D j i its h') (lG : ∀ D j i its h, G D j i its h → its.length ≤ 10000)
    (hin : ∀ D j its h, j < nv → GG D j its h → G D j 0 its h) (hout : ∀ D j its h, j < nv → G D j (nn j) its h → GG D (j + 1) its h)
    (h2 : ∀ C j v s' m', j < nv → P1 j v → (∀ b o, s.heap.get? b = some o → s'.heap.get? b = some o) → s'.heap.Ns C m' → m' n1 = some v →
      wpAny (model prog w) A (eval i2 (compEnvC scope cl C env)) (fun x s₂ => wpAny (model prog w) A (pyIter x) (fun it s₃ => ∃ I fp wr P St, it = .ref I ∧ Walks prog w A I fp wr (nn j) P St ∧ St 0 s₃.heap ∧ (∀ b ∈ fp, s'.heap.get? b = none ∧ b < s₃.heap.objs.size) ∧
        (∀ i h b o its k, St i h → b ∈ wr → h.get? b = some o → o.data = .seq its k → False) ∧ Keeps s' s₃ ∧
        (∀ D s₅ m₅ i v₂ its, i < nn j → P i v₂ → (∀ b o, s.heap.get? b = some o → s₅.heap.get? b = some o) → s₅.heap.Ns C m₅ → m₅ n1 = some v → m₅ n2 = some v₂ → s₅.heap.PlainList D its → G D j i its.toList s₅.heap →
          wpAny (model prog w) A (eval elt (compEnvC scope cl C env)) (fun y s₆ => Keeps s₅ s₆ ∧ G D j (i + 1) (its.toList ++ [y]) s₆.heap) (fun _ _ => False) s₅)) (fun _ _ => False) s₂) (fun _ _ => False) s')
    (h : ∀ D s' items, Keeps s s' → s.heap.get? D = none → s'.heap.PlainList D items → GG D nv items.toList s'.heap → Q (.ref D) s')
    (hs : ∀ x, foldedSetIterable i1 env x = pure x := by intro _; rfl) (hs2 : ∀ C x, foldedSetIterable i2 (compEnvC scope cl C env) x = pure x := by intro _ _; rfl) :
    wpAny (model prog w) A (eval (.ListComp elt [⟨.Name n1 p1, i1, [], 0⟩, ⟨.Name n2 p2, i2, [], 0⟩] scope pos) env) Q E s := by
  rw [eval_ListComp]
  refine comp_two_core (use := none) hh hclos hcell hkind hnames k1 k2 n12 h1 h0 mGG mG lG hin hout h2 (fun D C s' m' items K hD hC hDC hnC hpl hG => ⟨m', hnC, fun h₄ hs₄ => ?_⟩) hs hs2
  replace hs₄ : Heap.SameBut C s'.heap h₄ := hs₄
  obtain ⟨h', tk, rfl, keep⟩ := K
  replace hs₄ : Heap.SameBut C h' h₄ := hs₄
  exact h D _ items ⟨h₄, tk, rfl, fun b o q => hs₄.extBut b o (fun z => by rw [z, hC] at q; cases q) (keep b o q)⟩ hD (hpl.at fun o q => hs₄.extBut _ o hDC q) (mGG _ _ _ _ _ hG fun b o its k hb hd q => hs₄.extBut b o (ns_not_seq hnC q hd) q)

/-- y = [elt for n1 in a list for n2 in ..] on one line -/
theorem assign_two_walk {env : Env} {elt i1 i2 : Expr} {scope : Scope} {cl : List (Str × Addr)} {pos p1 p2 : Pos} {n1 n2 : Str} {nv : Nat} {P1 : Nat → Value → Prop} {nn : Nat → Nat} {GG : Addr → Nat → List Value → Heap → Prop} {G : Addr → Nat → Nat → List Value → Heap → Prop} {y : Str} {p13 spos : Pos} {m : Str → Option Value} {Q : Flow → Shared → Prop}
    (hy : env.kindOf y = some .local) (hk : env.scope.kind = .function) (hn : s.heap.Ns env.locals m) (hline : (p13.line == pos.line) = true) (hany : (scope.names.any fun (n, kk) => n == y && (kk == .local || kk == .cell)) = false)
    (hh : A.handled = none) (hclos : closureFor scope env = pure cl) (hcell : ∀ x ∈ scope.names, x.2 ≠ .cell) (hkind : scope.kind = .function) (hnames : ∀ x ∈ scope.names, x.2 = .local → scope.names.lookup x.1 = some .local)
    (k1 : scope.names.lookup n1 = some .local) (k2 : scope.names.lookup n2 = some .local) (n12 : ¬ n1 = n2)
    (h1 : wpAny (model prog w) A (eval i1 env) (fun v s₁ => ∃ (l : Addr) (vs : List Value), v = .ref l ∧ vs.length = nv ∧ (∀ (j : Nat) (v : Value), vs[j]? = some v → P1 j v) ∧ s₁.heap.IsList l vs.toArray ∧ Keeps s s₁) E s)
    (h0 : ∀ D h, GG D 0 [] h)
    (mGG : ∀ D j its h h', GG D j its h → KeepSeq D h h' → GG D j its h') (mG : ∀ D j i its h h', G D j i its h → KeepSeq D h h' → G D j i its h') (lG : ∀ D j i its h, G D j i its h → its.length ≤ 10000)
    (hin : ∀ D j its h, j < nv → GG D j its h → G D j 0 its h) (hout : ∀ D j its h, j < nv → G D j (nn j) its h → GG D (j + 1) its h)
    (h2 : ∀ C j v s' m', j < nv → P1 j v → (∀ b o, s.heap.get? b = some o → s'.heap.get? b = some o) → s'.heap.Ns C m' → m' n1 = some v →
      wpAny (model prog w) A (eval i2 (compEnvC scope cl C env)) (fun x s₂ => wpAny (model prog w) A (pyIter x) (fun it s₃ => ∃ I fp wr P St, it = .ref I ∧ Walks prog w A I fp wr (nn j) P St ∧ St 0 s₃.heap ∧ (∀ b ∈ fp, s'.heap.get? b = none ∧ b < s₃.heap.objs.size) ∧
        (∀ i h b o its k, St i h → b ∈ wr → h.get? b = some o → o.data = .seq its k → False) ∧ Keeps s' s₃ ∧
        (∀ D s₅ m₅ i v₂ its, i < nn j → P i v₂ → (∀ b o, s.heap.get? b = some o → s₅.heap.get? b = some o) → s₅.heap.Ns C m₅ → m₅ n1 = some v → m₅ n2 = some v₂ → s₅.heap.PlainList D its → G D j i its.toList s₅.heap →
          wpAny (model prog w) A (eval elt (compEnvC scope cl C env)) (fun y s₆ => Keeps s₅ s₆ ∧ G D j (i + 1) (its.toList ++ [y]) s₆.heap) (fun _ _ => False) s₅)) (fun _ _ => False) s₂) (fun _ _ => False) s')
    (h : ∀ D h' tk items, Up env.locals s.heap h' → s.heap.get? D = none → h'.PlainList D items → GG D nv items.toList h' → h'.Ns env.locals (fun z => if z = y then some (.ref D) else m z) → Q .next { s with heap := h', toks := tk })
    (hs : ∀ x, foldedSetIterable i1 env x = pure x := by intro _; rfl) (hs2 : ∀ C x, foldedSetIterable i2 (compEnvC scope cl C env) x = pure x := by intro _ _; rfl) :
    wpAny (model prog w) A (exec (.Assign [.Name y p13] (.ListComp elt [⟨.Name n1 p1, i1, [], 0⟩, ⟨.Name n2 p2, i2, [], 0⟩] scope pos) spos) env) Q E s := by
  have hbk : env.blockKind = .function := by simp [Env.blockKind, hk, ScopeKind.isAnnotationScope]
  have hsw : swapsWith (.ListComp elt [⟨.Name n1 p1, i1, [], 0⟩, ⟨.Name n2 p2, i2, [], 0⟩] scope pos) (some (.Name y p13)) spos.line env = pure true := by
    show (pure (env.blockKind == .function && env.kindOf y == some .local && p13.line == pos.line && !(scope.names.any fun (n, kk) => n == y && (kk == .local || kk == .cell))) : Sem Bool) = pure true
    rw [hbk, hy, hline, hany]
    rfl
  rw [exec_Assign_Name_used _ _ _ _ hsw]
  refine wpAny_bind (wpAny_standAt (wpAny_bind ?_))
  show wpAny _ A (do let _ ← comprehension (.ListComp elt [⟨.Name n1 p1, i1, [], 0⟩, ⟨.Name n2 p2, i2, [], 0⟩] scope pos) scope env _ (newList []) false (eval i1 env) (some (assign (.Name y p13) env))) _ _ s
  refine wpAny_bind (wpAny_mono (comp_two_core (use := some (assign (.Name y p13) env)) (Q := fun _ s' => Q .next s') hh hclos hcell hkind hnames k1 k2 n12 h1 h0 mGG mG lG hin hout h2 (fun D C s' m' items K hD hC hDC hnC hpl hG => ?_) hs hs2) (fun _ s' hq => wpAny_pure (wpAny_pure hq)) fun _ _ e => e)
  obtain ⟨h', tk, rfl, keep⟩ := K
  replace hnC : h'.Ns C m' := hnC
  replace hpl : h'.PlainList D items := hpl
  replace hG : GG D nv items.toList h' := hG
  have hLC : env.locals ≠ C := by rintro rfl; obtain ⟨o, _, _, ho, _⟩ := hn; rw [hC] at ho; cases ho
  have hLD : env.locals ≠ D := by rintro rfl; obtain ⟨o, _, _, ho, _⟩ := hn; rw [hD] at ho; cases ho
  show wpAny _ A (assign (.Name y p13) env (.ref D)) _ _ _
  have hn' : h'.Ns env.locals m := hn.keeps keep
  refine wpAny_assign_Name (wpAny_storeName_local hy hn' (fun h₂ hn₂ hs₂ => ?_) (plainScope hk))
  replace hs₂ : Heap.SameBut env.locals h' h₂ := hs₂
  refine ⟨m', hnC.sameBut hs₂ (Ne.symm hLC), fun h₃ hs₃ => ?_⟩
  replace hs₃ : Heap.SameBut C h₂ h₃ := hs₃
  have hnC₂ := hnC.sameBut hs₂ (Ne.symm hLC)
  refine h D h₃ _ items (fun b o hb q => hs₃.extBut b o (fun z => by rw [z, hC] at q; cases q) (hs₂.extBut b o hb (keep b o q))) hD ((hpl.at fun o q => hs₂.extBut _ o (Ne.symm hLD) q).at fun o q => hs₃.extBut _ o hDC q) ?_ (hn₂.sameBut hs₃ hLC)
  exact mGG _ _ _ _ _ (mGG _ _ _ _ _ hG fun b o its k hb hd q => hs₂.extBut b o (ns_not_seq hn' q hd) q) fun b o its k hb hd q => hs₃.extBut b o (ns_not_seq hnC₂ q hd) q
end
end Mine
namespace Mine
open PySem

/-- a list of ints of our own making, apart from D -/
def IntsD (D : Addr) (h : Heap) (v : Value) (xs : List Int) : Prop := ∃ a items, v = .ref a ∧ a ≠ D ∧ h.PlainList a items ∧ IntsAre items.toList xs
def LolD (D : Addr) (h : Heap) (vs : List Value) (xss : List (List Int)) : Prop := Paired (IntsD D h) vs xss
def IntsP (h : Heap) (v : Value) (xs : List Int) : Prop := ∃ a items, v = .ref a ∧ h.PlainList a items ∧ IntsAre items.toList xs
def LolIn (h : Heap) (l : Addr) (xss : List (List Int)) : Prop := ∃ items, h.PlainList l items ∧ Paired (IntsP h) items.toList xss

theorem paired_mono' {α β : Type} {F G : α → β → Prop} (hFG : ∀ a b, F a b → G a b) : ∀ {l₁ : List α} {l₂ : List β}, Paired F l₁ l₂ → Paired G l₁ l₂
  | _, _, .nil => .nil
  | _, _, .cons a t => .cons (hFG _ _ a) (paired_mono' hFG t)
theorem paired_snoc {α β : Type} {F : α → β → Prop} : ∀ {l₁ : List α} {l₂ : List β} {a : α} {b : β}, Paired F l₁ l₂ → F a b → Paired F (l₁ ++ [a]) (l₂ ++ [b])
  | _, _, _, _, .nil, h => .cons h .nil
  | _, _, _, _, .cons x t, h => .cons x (paired_snoc t h)
theorem paired_length {α β : Type} {F : α → β → Prop} : ∀ {l₁ : List α} {l₂ : List β}, Paired F l₁ l₂ → l₁.length = l₂.length
  | _, _, .nil => rfl
  | _, _, .cons _ t => by simp [paired_length t]
theorem paired_at {α β : Type} {F : α → β → Prop} : ∀ {l₁ : List α} {l₂ : List β}, Paired F l₁ l₂ → ∀ {j : Nat} {a : α}, l₁[j]? = some a → ∃ b, l₂[j]? = some b ∧ F a b
  | _, _, .nil, j, a, h => by cases j <;> cases h
  | _, _, .cons q t, 0, a, h => by
    cases h
    exact ⟨_, rfl, q⟩
  | _, _, .cons q t, j + 1, a, h => by
    obtain ⟨b, h1, h2⟩ := paired_at t (j := j) (a := a) (by simpa using h)
    exact ⟨b, by simpa using h1, h2⟩
theorem plain_seq {D a : Addr} {h h' : Heap} {items : Array Value} (x : h.PlainList a items) (ha : a ≠ D) (k : KeepSeq D h h') : h'.PlainList a items := by
  obtain ⟨n, q⟩ := x
  exact ⟨n, k a _ items n ha rfl q⟩
theorem IntsD.seq {D : Addr} {h h' : Heap} {v : Value} {xs : List Int} (x : IntsD D h v xs) (k : KeepSeq D h h') : IntsD D h' v xs :=
  let ⟨a, items, e, ha, q, r⟩ := x; ⟨a, items, e, ha, plain_seq q ha k, r⟩
theorem LolD.seq {D : Addr} {h h' : Heap} {vs : List Value} {xss : List (List Int)} (x : LolD D h vs xss) (k : KeepSeq D h h') : LolD D h' vs xss := paired_mono' (fun _ _ q => q.seq k) x
theorem IntsD.toP {D : Addr} {h : Heap} {v : Value} {xs : List Int} (x : IntsD D h v xs) : IntsP h v xs := let ⟨a, items, e, _, q⟩ := x; ⟨a, items, e, q⟩
theorem IntsP.keep {h h' : Heap} {v : Value} {xs : List Int} (x : IntsP h v xs) (k : ∀ b o its n, o.data = .seq its n → h.get? b = some o → h'.get? b = some o) : IntsP h' v xs := by
  obtain ⟨a, items, e, ⟨n, q⟩, r⟩ := x
  exact ⟨a, items, e, ⟨n, k a _ items n rfl q⟩, r⟩
theorem LolIn.keep {h h' : Heap} {l : Addr} {xss : List (List Int)} (x : LolIn h l xss) (k : ∀ b o its n, o.data = .seq its n → h.get? b = some o → h'.get? b = some o) : LolIn h' l xss := by
  obtain ⟨items, ⟨n, q⟩, r⟩ := x
  exact ⟨items, ⟨n, k l _ items n rfl q⟩, paired_mono' (fun _ _ z => z.keep k) r⟩

def insAt (k : Int) (one : List Int) (p : Nat) : List Int := pickNums one none (some (p : Int)) none ++ [k] ++ pickNums one (some (p : Int)) none none
def insAll (k : Int) (one : List Int) : List (List Int) := (List.range (one.length + 1)).map (insAt k one)
def ordersN : Nat → List (List Int)
  | 0 => [[]]
  | k + 1 => (ordersN k).flatMap (insAll (k : Int))

section
variable {prog : Program} {w : World} {A : Around} {E : Value → Shared → Prop} {s : Shared}

/-- range(arg) as a source -/
theorem range_of {env : Env} {base : Heap} {arg : Expr} {cnt : Nat} {p9 p11 : Pos} {mg mb : Str → Option Value} {Q : Value → Shared → Prop}
    (hk : env.scope.kind = .function) (hr : env.kindOf "range" = some .globalImplicit)
    (hbl : base.Ns env.builtins mb) (hb1 : mb "range" = some (.type "range")) (hg : base.Ns env.globals mg) (hg1 : mg "range" = none) (hb : ∀ b o, base.get? b = some o → s.heap.get? b = some o) (hcnt : cnt ≤ 1000)
    (he : EvI prog w A env s.heap arg (cnt : Int))
    (h : ∀ s' I, Keeps s s' → s.heap.get? I = none → I < s'.heap.objs.size → IsRangeIter s'.heap I 0 (cnt : Int) 1 → Q (.ref I) s')
    (hse : starEach [arg] env = [(false, eval arg env)] := by rfl) :
    wpAny (model prog w) A (eval (.Call (.Name "range" p9) [arg] [] p11) env) (fun xv s₁ => wpAny (model prog w) A (pyIter xv) Q E s₁) E s := by
  refine Call_Name1 (Calls.Name_function_global hk hr (Calls.loadGlobal_builtin (hg.keeps hb) hg1 (hbl.keeps hb) hb1 (PyProof.Rows.callWith_type rfl (Calls.evalArgs_plain (Calls.spliced_cons (he _ _ _ rfl fun t tk => Calls.spliced_nil (call_range_1 ?_)))))))  hse
  refine wpAny_pyIter_range (IsRange.new ..) (small_one (by decide) (by decide) (by omega) (by omega)) ?_
  have hrs : Builtin.Range.rangeSize 0 (cnt : Int) 1 = (cnt : Int) := by rw [rangeSize_one]; split <;> omega
  have hsz : (s.heap.push { cls := .type "range", data := .fields #[.int 0 tk, .int cnt t, .int 1 (tk + 1)] }).objs.size = s.heap.objs.size + 1 := by rw [Heap.size_push]
  refine h _ _ ⟨_, _, rfl, fun b o q => Heap.get?_push_of_some _ (Heap.get?_push_of_some _ q)⟩ ?_ ?_ ?_
  · show s.heap.get? (s.heap.push { cls := .type "range", data := .fields #[.int 0 tk, .int cnt t, .int 1 (tk + 1)] }).objs.size = none
    rw [hsz]
    cases q : s.heap.get? (s.heap.objs.size + 1) with
    | none => rfl
    | some o => exact absurd (Heap.lt_size q) (Nat.not_lt.mpr (Nat.le_succ _))
  · show (s.heap.push { cls := .type "range", data := .fields #[.int 0 tk, .int cnt t, .int 1 (tk + 1)] }).objs.size < ((s.heap.push { cls := .type "range", data := .fields #[.int 0 tk, .int cnt t, .int 1 (tk + 1)] }).push _).objs.size
    simp only [Heap.size_push]
    exact Nat.lt_succ_self _
  · have := Heap.get?_push_size (s.heap.push { cls := .type "range", data := .fields #[.int 0 tk, .int cnt t, .int 1 (tk + 1)] }) (o := { cls := .type "range_iterator", data := .fields #[rawInt 0, rawInt (Builtin.Range.rangeSize 0 cnt 1), rawInt 1] }) rfl
    rw [hrs] at this
    show IsRangeIter ((s.heap.push _).push { cls := .type "range_iterator", data := .fields #[rawInt 0, rawInt (Builtin.Range.rangeSize 0 cnt 1), rawInt 1] }) _ _ _ _
    rw [hrs]
    simpa using this
theorem range_not_seq {h : Heap} {I b : Addr} {x y z : Int} {o : Obj} {its : Array Value} {k : Nat} (q : IsRangeIter h I x y z) (hb : b ∈ [I]) (e : h.get? b = some o) (hd : o.data = .seq its k) : False := by
  rw [List.mem_singleton.mp hb] at e
  have q' : h.get? I = _ := q
  rw [q'] at e
  cases e
  cases hd

/-- a slice of a plain list of ints -/
theorem slice_plain {value slice : Expr} {l : Addr} {items : Array Value} {ns : List Int} {lo hi st : Option Int} {vl vu vk : Value} {ops : List Value} {Q : Value → Shared → Prop} {s : Shared} (hl : s.heap.PlainList l items) (hi' : IntsAre items.toList ns) (hz : ns.length ≤ 1000) (pl : IsPart vl lo) (pu : IsPart vu hi) (pk : IsPart vk st) (hst : st ≠ some 0)
    (h : ∀ l' h' items', h'.PlainList l' items' → IntsAre items'.toList (pickNums ns lo hi st) → (∀ b o, s.heap.get? b = some o → h'.get? b = some o) → s.heap.get? l' = none → Q (.ref l') { s with heap := h' })
    (hs : subscripted slice false (.ref l) (.ref s.heap.objs.size) = operate ops (getItem (.ref l) (.ref s.heap.objs.size)) := by with_unfolding_all rfl)
    (ht : ∀ r, letTemporaryGo value (.ref l) r = pure () := by intro _; with_unfolding_all rfl) :
    wpAny (model prog w) A (subscriptTail value slice (.ref l) (.ref s.heap.objs.size)) Q E { s with heap := s.heap.push { cls := .type "slice", data := .fields #[vl, vu, vk] } } := by
  have e : items.size = ns.length := by have := hi'.length; simpa using this
  refine slice_items hl.isList (by omega) pl pu pk hst (fun l' h' hl' keep' hfr => h l' h' _ hl' ?_ keep' hfr) hs ht
  have := hi'.pick lo hi st
  simpa using this
end
end Mine
namespace Mine
open PySem

structure OrdersNames (base : Heap) (f : Addr) : Prop where
  def_ : FnIs base (stmtAt atOrders) f
  lim : base.NoLimit
  glob : ∃ mg, base.Ns mainGlobals mg ∧ mg "range" = none ∧ mg "len" = none
  blt : ∃ mb, base.Ns builtinsNs mb ∧ mb "range" = some (.type "range") ∧ mb "len" = some (.builtin "len")

theorem relabel_global {scope : Scope} {env : Env} {cl : List (Str × Addr)} {C : Addr} {n : Str} (h : scope.names.lookup n = some .globalImplicit) : (compEnvC scope cl C env).kindOf n = some .globalImplicit := by
  rw [relabel_lookup h, if_neg (by simp)]
theorem insAll_len (k : Int) (one : List Int) : (insAll k one).length = one.length + 1 := by simp [insAll]
theorem flat_le {α β : Type} (g : α → List β) (b : Nat) : ∀ (l : List α), (∀ x ∈ l, (g x).length ≤ b) → (l.flatMap g).length ≤ b * l.length
  | [], _ => Nat.zero_le _
  | x :: l, h => by
    rw [List.flatMap_cons, List.length_append, List.length_cons, Nat.mul_add]
    have h1 := h x (by simp)
    have h2 := flat_le g b l fun y hy => h y (List.mem_cons_of_mem x hy)
    omega
theorem flat_take {α β : Type} {g : α → List β} {l : List α} {j : Nat} {x : α} (h : l[j]? = some x) : (l.take (j + 1)).flatMap g = (l.take j).flatMap g ++ g x := by
  have : l.take (j + 1) = l.take j ++ [x] := by rw [List.take_add_one, h]; rfl
  rw [this, List.flatMap_append, List.flatMap_cons, List.flatMap_nil, List.append_nil]
theorem map_take_snoc {β : Type} (g : Nat → β) {n i : Nat} (h : i < n) : ((List.range n).take (i + 1)).map g = ((List.range n).take i).map g ++ [g i] := by
  have : (List.range n)[i]? = some i := by simp [h]
  rw [List.take_add_one, this]
  simp

section
variable {prog : Program} {w : World} {A : Around} {E : Value → Shared → Prop} {s : Shared}

theorem closureFor_orders {scope : Scope} {env : Env} {c : Addr} (hsn : scope.names = [(Str.ofString ".0", .local), (Str.ofString "one", .local), (Str.ofString "place", .local), (Str.ofString "range", .globalImplicit), (Str.ofString "len", .globalImplicit), (Str.ofString "k", .free)]) (hc : env.cells.lookup (Str.ofString "k") = some c) : closureFor scope env = pure [(Str.ofString "k", c)] := by
  unfold closureFor
  rw [hsn]
  simp only [List.forIn_cons, List.forIn_nil]
  unfold cellOf
  rw [hc]
  rfl

set_option maxHeartbeats 2000000 in
theorem orders_step {env : Env} {L c l f : Addr} {base : Heap} {k : Int} {tk₀ : Tok} {xss : List (List Int)} {m : Str → Option Value} {Q : Flow → Shared → Prop} (e : EnvFor env (stmtAt atOrders) L) (hh : A.handled = none) (N : OrdersNames base f) (hb : ∀ b o, base.get? b = some o → s.heap.get? b = some o)
    (hn : s.heap.Ns L m) (hm : m "orders" = some (.ref l)) (hc : env.cells.lookup (Str.ofString "k") = some c) (hcl : s.heap.IsCell c (some (.int k tk₀))) (hX : LolIn s.heap l xss) (hz : xss.length ≤ 100) (hz2 : ∀ one ∈ xss, one.length ≤ 10)
    (h : ∀ D h' tk, Up L s.heap h' → h'.Ns L (fun z => if z = Str.ofString "orders" then some (.ref D) else m z) → LolIn h' D (xss.flatMap (insAll k)) → s.heap.get? D = none → Q .next { s with heap := h', toks := tk }) :
    wpAny (model prog w) A (exec (nthS (forBody (nthS (defBody (stmtAt atOrders)) 1)) 0) env) Q E s := by
  have hk : env.scope.kind = .function := e.kind rfl
  have kn : ∀ {n : Str} {q : NameKind}, (defScope (stmtAt atOrders)).names.lookup n = some q → env.kindOf n = some q := fun {n q} hq => by
    show env.scope.names.lookup n = _
    rw [e.scope]; exact hq
  obtain ⟨mg, hg, hg1, hg2⟩ := N.glob
  obtain ⟨mb, hbl, hbl1, hbl2⟩ := N.blt
  obtain ⟨items, hl, hX⟩ := hX
  have hlen := paired_length hX
  have bnd : ∀ j, ((xss.take j).flatMap (insAll k)).length ≤ 1100 := fun j => by
    have h1 := flat_le (insAll k) 11 (xss.take j) fun one ho => by
      rw [insAll_len]
      have := hz2 one (List.mem_of_mem_take ho)
      omega
    have h2 : (xss.take j).length ≤ xss.length := by rw [List.length_take]; omega
    omega
  rw [← e.locals] at hn
  refine assign_two_walk (s := s) (n1 := "one") (n2 := "place") (nv := items.toList.length) (P1 := fun j v => items.toList[j]? = some v) (cl := [(Str.ofString "k", c)]) (nn := fun j => (xss.getD j []).length + 1)
    (GG := fun D j its h => LolD D h its ((xss.take j).flatMap (insAll k)))
    (G := fun D j i its h => LolD D h its ((xss.take j).flatMap (insAll k) ++ ((List.range ((xss.getD j []).length + 1)).take i).map (insAt k (xss.getD j []))))
    (kn (by decide)) hk hn rfl rfl hh (closureFor_orders rfl hc) (by decide) rfl (by decide) (by decide) (by decide) (by decide)
    (nm hk (kn (by decide)) hn hm ⟨l, items.toList, rfl, rfl, fun _ _ q => q, by simpa using hl.isList, s.heap, s.toks, rfl, fun _ _ q => q⟩) (fun D h => .nil) (fun D j its h h' x k => x.seq k) (fun D j i its h h' x k => x.seq k) ?_ ?_ ?_ ?_ ?_
  · intro D j i its h x
    have e1 := paired_length x
    rw [List.length_append, List.length_map, List.length_take, List.length_range] at e1
    have h1 := bnd j
    have h2 : (xss.getD j []).length ≤ 10 := by
      rw [List.getD_eq_getElem?_getD]
      cases q : xss[j]? with
      | none => simp
      | some one => exact hz2 one (List.mem_of_getElem? q)
    omega
  · intro D j its h hj x
    simpa using x
  · intro D j its h hj x
    have hj' : j < xss.length := by simpa [← hlen] using hj
    have hone : xss[j]? = some xss[j] := List.getElem?_eq_getElem hj'
    have hgd : xss.getD j [] = xss[j] := by rw [List.getD_eq_getElem?_getD, hone]; rfl
    have e3 : (List.range (xss[j].length + 1)).take (xss[j].length + 1) = List.range (xss[j].length + 1) := List.take_of_length_le (by simp)
    rw [hgd, e3] at x
    rw [flat_take hone]
    exact x
  · intro C j v s' m' _ hv keep' hn' hm'
    obtain ⟨one, hone, a, its, rfl, ha, hia⟩ := paired_at hX hv
    have hgd : xss.getD j [] = one := by rw [List.getD_eq_getElem?_getD, hone]; rfl
    have ho10 : one.length ≤ 10 := hz2 one (List.mem_of_getElem? hone)
    have hal := hia.length
    have hsz : its.size = one.length := by simpa using hal
    rw [hgd]
    have ckind : ∀ {sc : Scope}, sc.kind = .function → (compEnvC sc [(Str.ofString "k", c)] C env).scope.kind = .function := fun h => h
    refine range_of (base := base) (cnt := one.length + 1) (ckind rfl) (relabel_global (by decide)) (e.builtins ▸ hbl) hbl1 (e.globals ▸ hg) hg1 (fun b o q => keep' b o (hb b o q)) (by omega)
      ((EvI.add (EvI.len (base := base) (ckind rfl) (relabel_local (by decide)) (relabel_global (by decide)) hn' hm' (ha.at fun o q => keep' _ o q) (by omega) (e.globals ▸ hg) hg2 (e.builtins ▸ hbl) hbl2 (fun b o q => keep' b o (hb b o q))) .const).as (by rw [hsz]; omega)) fun s₃ I K hI hlt hr => ?_
    refine ⟨I, [I], [I], _, _, rfl, Walks.range hh I 0 1 (one.length + 1), by simpa using hr, fun b hb => ?_, fun i h b o its k st hb q hd => range_not_seq st hb q hd, K, ?_⟩
    · rw [List.mem_singleton.mp hb]; exact ⟨hI, hlt⟩
    rintro D s₅ m₅ i v₂ its₅ hi ⟨t, rfl⟩ keep₅ hn₅ a1 a2 hD hG
    have hp : (0 : Int) + (i : Int) * 1 = (i : Int) := by omega
    rw [hp] at a2
    have ha₅ : s₅.heap.PlainList a its := ha.at fun o q => keep₅ _ o q
    refine wpAny_BinOp (wpAny_BinOp (Subscript_ (nm (ckind rfl) (relabel_local (by decide)) hn₅ a1 (wpAny_Slice (wpAny_evalPart_none (wpAny_evalPart_some (nm (ckind rfl) (relabel_local (by decide)) hn₅ a2 (wpAny_evalPart_none ?_))))))))
    refine slice_plain (s := s₅) ha₅ hia (by omega) .none (IsPart.int _ _) .none (by simp) fun l₁ h₁ its₁ hl₁ hi₁ keep₁ hfr₁ => ?_
    have up₁ : ∀ b o, s.heap.get? b = some o → h₁.get? b = some o := fun b o q => keep₁ b o (keep₅ b o q)
    refine wpAny_List_spliced (spliced_more (wpAny_Name (wpAny_loadName_cell (ckind rfl) (relabel_free (by decide) hk (kn (by decide))) (c := c) (by simp [compEnvC]) (hcl.keeps up₁) ?_) (by decide)))
    refine Calls.spliced_nil ⟨by show 1 ≤ sizeLine; decide, ?_⟩
    have keep₂ : ∀ b o, h₁.get? b = some o → (h₁.push { cls := .type "list", data := .seq ([Value.int k tk₀] : List Value).toArray }).get? b = some o := fun b o q => Heap.get?_push_of_some _ q
    have n₁ := hi₁.length
    have pl1 : (pickNums one none (some (i : Int)) none).length ≤ one.length := length_pickNums_le hia _ _ _
    have pl2 : (pickNums one (some (i : Int)) none none).length ≤ one.length := length_pickNums_le hia _ _ _
    simp only [Array.length_toList] at n₁
    refine add_items (hl₁.at fun o q => keep₂ _ o q) ⟨0, Heap.get?_push_size _ rfl⟩ (by simp; omega) fun h₃ hl₃ keep₃ => ?_
    have hi₃ : IntsAre (its₁.toList ++ [Value.int k tk₀]) (pickNums one none (some (i : Int)) none ++ [k]) := hi₁.append (.cons _ _ .nil)
    have up₃ : ∀ b o, s₅.heap.get? b = some o → h₃.get? b = some o := fun b o q => keep₃ b o (keep₂ b o (keep₁ b o q))
    refine Subscript_ (nm (ckind rfl) (relabel_local (by decide)) (hn₅.keeps up₃) a1 (wpAny_Slice (wpAny_evalPart_some (nm (ckind rfl) (relabel_local (by decide)) (hn₅.keeps up₃) a2 (wpAny_evalPart_none (wpAny_evalPart_none ?_))))))
    refine slice_plain (s := { s₅ with heap := h₃ }) (ha₅.at fun o q => up₃ _ o q) hia (by omega) (IsPart.int _ _) .none .none (by simp) fun l₄ h₄ its₄ hl₄ hi₄ keep₄ hfr₄ => ?_
    replace keep₄ : ∀ b o, h₃.get? b = some o → h₄.get? b = some o := keep₄
    have n₄ := hi₄.length
    simp only [Array.length_toList] at n₄
    refine add_items (hl₃.at fun o q => keep₄ _ o q) hl₄ (by simp; omega) fun h₅ hl₅ keep₅' => ?_
    have up₅ : ∀ b o, s₅.heap.get? b = some o → h₅.get? b = some o := fun b o q => keep₅' b o (keep₄ b o (up₃ b o q))
    refine ⟨⟨h₅, _, rfl, up₅⟩, ?_⟩
    show LolD D h₅ (its₅.toList ++ [.ref h₄.objs.size]) _
    rw [map_take_snoc (insAt k one) hi, ← List.append_assoc]
    refine paired_snoc (LolD.seq hG (.of_keep up₅)) ⟨h₄.objs.size, _, rfl, ?_, hl₅, by simpa [insAt] using hi₃.append hi₄⟩
    obtain ⟨nD, qD⟩ := hD
    exact Nat.ne_of_gt (Heap.lt_size (keep₄ _ _ (up₃ _ _ qD)))
  · intro D h' tk its u' hD₀ hpl hG hn'
    rw [e.locals] at hn' u'
    refine h D h' tk u' hn' ⟨its, hpl, ?_⟩ hD₀
    have hG : LolD D h' its.toList ((xss.take items.toList.length).flatMap (insAll k)) := hG
    rw [List.take_of_length_le (by omega)] at hG
    exact paired_mono' (fun _ _ q => q.toP) hG
end
end Mine
namespace Mine
open PySem

theorem cell_not_seq {h : Heap} {c b : Addr} {v : Option Value} {o : Obj} {its : Array Value} {k : Nat} (x : h.IsCell c v) (q : h.get? b = some o) (hd : o.data = .seq its k) : b ≠ c := by
  rintro rfl
  obtain ⟨o', ho', r⟩ := x
  rw [q] at ho'
  cases ho'
  rw [hd] at r
  cases r
theorem rangeit_not_seq {h : Heap} {I b : Addr} {x y z : Int} {o : Obj} {its : Array Value} {k : Nat} (q : IsRangeIter h I x y z) (e : h.get? b = some o) (hd : o.data = .seq its k) : b ≠ I := fun z => range_not_seq q (List.mem_singleton.mpr z) e hd

/-- the twenty-four orders -/
theorem orders_small : ∀ j, j < 5 → (ordersN j).length ≤ 100 ∧ ∀ one ∈ ordersN j, one.length ≤ 10 := by decide +kernel

section
variable {prog : Program} {w : World} {A : Around} {E : Value → Shared → Prop} {s : Shared}

set_option maxHeartbeats 2000000 in
theorem call_orders {base : Heap} {f : Addr} {Q : Value → Shared → Prop} (N : OrdersNames base f) (hh : A.handled = none) (hroom : A.depth < recursionLimit)
    (hb : ∀ b o, base.get? b = some o → s.heap.get? b = some o)
    (h : ∀ O s', Keeps s s' → LolIn s'.heap O (ordersN 4) → Q (.ref O) s') : wpAny (model prog w) A (call (.ref f) []) Q E s := by
  refine enterCells (cs := fun L => cellsFrom L (defScope (stmtAt atOrders)).names []) (binds := []) hroom N.def_ N.lim hb ?_ (fun _ => rfl) ?_ rfl rfl rfl fun env h₁ tk₁ e1 e2 e3 e4 e5 e6 hcells hapart hn hk₁ => ?_
  · rintro ⟨name, qualname, params, body, scope, globals, closure, defaults, kwdefaults, doc, pyModule, anns, code, closureTuple, builtins⟩ h1 h2 h3
    dsimp only at h1 h2 h3
    subst h1 h2 h3
    rfl
  · intro L y hy
    cases hy
  have e : EnvFor env (stmtAt atOrders) s.heap.objs.size := ⟨e1, e2, e3, e4, e5⟩
  have hk : env.scope.kind = .function := e.kind rfl
  have kn : ∀ {n : Str} {q : NameKind}, (defScope (stmtAt atOrders)).names.lookup n = some q → env.kindOf n = some q := fun {n q} hq => by
    show env.scope.names.lookup n = _
    rw [e.scope]; exact hq
  have hh' : (A.deeper env).handled = none := hh
  obtain ⟨L, hL⟩ : ∃ L, L = s.heap.objs.size := ⟨_, rfl⟩
  have hLs : s.heap.get? L = none := hL ▸ getAbove _
  have lc : env.cells.lookup (Str.ofString "k") = some (s.heap.objs.size + 1) := by rw [e6]; rfl
  obtain ⟨hcL, hc0, hcl⟩ := hcells _ _ lc
  obtain ⟨c, hc⟩ : ∃ c, c = s.heap.objs.size + 1 := ⟨_, rfl⟩
  rw [← hc] at lc hcL hc0 hcl
  rw [← hL] at e hn hcL
  have heL := e.locals
  obtain ⟨mg, hg, hg1, hg2⟩ := N.glob
  obtain ⟨mb, hbl, hbl1, hbl2⟩ := N.blt
  have hb₁ : ∀ b o, base.get? b = some o → h₁.get? b = some o := fun b o q => hk₁ b o (hb b o q)
  obtain ⟨M₁, a₁, hn₁⟩ := forget hn
  have neL : ∀ {b o}, s.heap.get? b = some o → b ≠ L := fun q z => by rw [z, hLs] at q; cases q
  have nec : ∀ {b o}, s.heap.get? b = some o → b ≠ c := fun q z => by rw [z, hc0] at q; cases q
  -- orders = [[]]
  refine wpAny_execs_cons (wpAny_Assign_Name (wpAny_List_spliced (spliced_more (wpAny_List_spliced (Calls.spliced_nil ⟨Nat.zero_le _, Calls.spliced_nil ⟨by show 1 ≤ sizeLine; decide, ?_⟩⟩)))))
  refine wpAny_storeName_local (kn (by decide)) (heL ▸ (hn₁.push _).push _) (fun h₂ hn₂ hs₂ => ?_) (plainScope hk)
  rw [heL] at hn₂ hs₂
  replace hs₂ : Heap.SameBut L ((h₁.push { cls := .type "list", data := .seq ([] : List Value).toArray }).push { cls := .type "list", data := .seq ([Value.ref h₁.objs.size] : List Value).toArray }) h₂ := hs₂
  have e7 : (h₁.push { cls := .type "list", data := .seq ([] : List Value).toArray }).objs.size = h₁.objs.size + 1 := by rw [Heap.size_push]
  have hLlt := hn₁.lt
  have hO₂ : LolIn h₂ (h₁.objs.size + 1) (ordersN 0) := by
    refine ⟨#[.ref h₁.objs.size], ⟨0, hs₂.extBut _ _ (Nat.ne_of_gt (Nat.lt_succ_of_lt hLlt)) ?_⟩, .cons ⟨h₁.objs.size, #[], rfl, ⟨0, hs₂.extBut _ _ (Nat.ne_of_gt hLlt) ?_⟩, .nil⟩ .nil⟩
    · have := Heap.get?_push_size (h₁.push { cls := .type "list", data := .seq ([] : List Value).toArray }) (o := { cls := .type "list", data := .seq ([Value.ref h₁.objs.size] : List Value).toArray }) rfl
      rw [e7] at this
      exact this
    · exact Heap.get?_push_of_some _ (Heap.get?_push_size _ rfl)
  have up₂ : ∀ b o, b ≠ L → h₁.get? b = some o → h₂.get? b = some o := fun b o hb' q => hs₂.extBut b o hb' (Heap.get?_push_of_some _ (Heap.get?_push_of_some _ q))
  have hcl₂ : ∃ v, h₂.IsCell c v := ⟨_, let ⟨o, ho, r⟩ := hcl; ⟨o, up₂ _ o hcL ho, r⟩⟩
  have old₂ : ∀ b o, s.heap.get? b = some o → h₂.get? b = some o := fun b o q => up₂ b o (neL q) (hk₁ b o q)
  obtain ⟨M₂, a₂, hn₂⟩ := forget hn₂
  have b₂ : M₂ "orders" = some (.ref (h₁.objs.size + 1)) := by
    rw [a₂]
    show some (Value.ref (h₁.push { cls := .type "list", data := .seq ([] : List Value).toArray }).objs.size) = _
    rw [e7]
  -- the loop
  refine wpAny_execs_cons (wpAny_For (range_of (base := base) (cnt := 4) hk (kn (by decide)) (e.builtins ▸ hbl) hbl1 (e.globals ▸ hg) hg1 (fun b o q => old₂ b o (hb b o q)) (by decide) .const fun s₃ I K hI hlt hr => ?_))
  obtain ⟨h₃, tk₃, rfl, keep₃⟩ := K
  replace keep₃ : ∀ b o, h₂.get? b = some o → h₃.get? b = some o := keep₃
  replace hI : h₂.get? I = none := hI
  replace hr : IsRangeIter h₃ I 0 4 1 := hr
  have W := Walks.range (prog := prog) (w := w) (A := A.deeper env) hh' I 0 1 4
  have hIL : I ≠ L := by rintro rfl; obtain ⟨o, _, _, q, _⟩ := id hn₂; rw [hI] at q; cases q
  have hIc : I ≠ c := by rintro rfl; obtain ⟨v, o, q, _⟩ := hcl₂; rw [hI] at q; cases q
  have neI : ∀ {b o}, s.heap.get? b = some o → b ≠ I := fun {b o} q z => by have := old₂ b o q; rw [z, hI] at this; cases this
  refine codeAny_forLoop (fun k s' => ∃ j h' tk m' l, k = 5 - j ∧ j ≤ 4 ∧ s' = { s with heap := h', toks := tk } ∧ (∀ b o, s.heap.get? b = some o → h'.get? b = some o) ∧ IsRangeIter h' I (0 + ((j : Nat) : Int) * 1) ((4 : Nat) - ((j : Nat) : Int)) 1 ∧ (∃ v, h'.IsCell c v) ∧ h'.Ns L m' ∧
    m' "orders" = some (.ref l) ∧ LolIn h' l (ordersN j)) ?_ 5 ⟨0, h₃, tk₃, M₂, _, rfl, by decide, rfl, fun b o q => keep₃ b o (old₂ b o q), by simpa using hr, let ⟨v, x⟩ := hcl₂; ⟨v, x.keeps keep₃⟩, hn₂.keeps keep₃, b₂, hO₂.keep fun b o _ _ _ q => keep₃ b o q⟩
  rintro k s' ⟨j, h', tk, m', l, rfl, hj, rfl, old', hr', ⟨v, hcl'⟩, hn', hm', hX'⟩
  by_cases hlt' : j < 4
  · refine W.item j _ _ _ hlt' hr' fun v2 h₄ tk₄ hP hr₄ hk₄ => ?_
    obtain ⟨t, rfl⟩ := hP
    have ej : (0 : Int) + (j : Int) * 1 = (j : Int) := by omega
    rw [ej]
    replace hk₄ : ∀ b o, b ∉ [I] → h'.get? b = some o → h₄.get? b = some o := hk₄
    have up₄ : ∀ b o, b ≠ I → h'.get? b = some o → h₄.get? b = some o := fun b o hb' q => hk₄ b o (fun z => hb' (List.mem_singleton.mp z)) q
    have hcl₄ : h₄.IsCell c v := let ⟨o, ho, r⟩ := hcl'; ⟨o, up₄ _ o (Ne.symm hIc) ho, r⟩
    refine wpAny_assign_Name (wpAny_storeName_cell hk (kn (by decide)) lc hcl₄ fun h₅ hcl₅ hs₅ => ?_)
    replace hs₅ : Heap.SameBut c h₄ h₅ := hs₅
    have hn₄ : h₄.Ns L m' := hn'.at' fun o q => up₄ _ o (Ne.symm hIL) q
    have hn₅ : h₅.Ns L m' := hn₄.at' fun o q => hs₅.extBut _ o (Ne.symm hcL) q
    have hX₅ : LolIn h₅ l (ordersN j) := (hX'.keep fun b o _ _ hd q => up₄ b o (rangeit_not_seq hr' q hd) q).keep fun b o _ _ hd q => hs₅.extBut b o (cell_not_seq hcl₄ q hd) q
    have old₅ : ∀ b o, s.heap.get? b = some o → h₅.get? b = some o := fun b o q => hs₅.extBut b o (nec q) (up₄ b o (neI q) (old' b o q))
    obtain ⟨sm1, sm2⟩ := orders_small j (by omega)
    refine wpAny_execs_cons (orders_step (c := c) (l := l) e hh' N (fun b o q => old₅ b o (hb b o q)) hn₅ hm' lc hcl₅ hX₅ sm1 sm2 fun D h₆ tk₆ u₆ hn₆ hX₆ hD₆ => wpAny_execs_nil ?_)
    replace u₆ : Up L h₅ h₆ := u₆
    refine ⟨5 - (j + 1), by omega, j + 1, h₆, tk₆, _, D, rfl, hlt', rfl, fun b o q => u₆ b o (neL q) (old₅ b o q), ?_, ⟨_, cell_up hcl₅ u₆ hcL⟩, hn₆, by simp, hX₆⟩
    have hr₅ : IsRangeIter h₅ I (0 + ((j + 1 : Nat) : Int) * 1) ((4 : Nat) - ((j + 1 : Nat) : Int)) 1 := hs₅.extBut _ _ hIc hr₄
    exact u₆ _ _ hIL hr₅
  · have hje : j = 4 := by omega
    subst hje
    refine W.done _ _ _ hr' fun h₄ tk₄ hk₄ => wpAny_execs_nil ?_
    replace hk₄ : ∀ b o, b ∉ [I] → h'.get? b = some o → h₄.get? b = some o := hk₄
    have up₄ : ∀ b o, b ≠ I → h'.get? b = some o → h₄.get? b = some o := fun b o hb' q => hk₄ b o (fun z => hb' (List.mem_singleton.mp z)) q
    have hn₄ : h₄.Ns L m' := hn'.at' fun o q => up₄ _ o (Ne.symm hIL) q
    show wpAny _ _ (execs _ env) _ _ _
    refine wpAny_execs_cons (wpAny_Return_some (nm hk (kn (by decide)) (heL ▸ hn₄) hm' ?_))
    exact h l _ ⟨h₄, _, rfl, fun b o q => up₄ b o (neI q) (old' b o q)⟩ (hX'.keep fun b o _ _ hd q => up₄ b o (rangeit_not_seq hr' q hd) q)
end
end Mine
namespace Mine
open PySem

abbrev Tab := Int × Int
abbrev Seat := List Tab × Int
/-- a table: its size, its guests; a seating: its tables, its ways; all apart from the list D -/
def TabD (D : Addr) (h : Heap) (v : Value) (r : Tab) : Prop := ∃ T t1 t2, v = .ref T ∧ T ≠ D ∧ h.IsTuple T #[.int r.1 t1, .int r.2 t2]
def TabsD (D : Addr) (h : Heap) (a : Addr) (tabs : List Tab) : Prop := a ≠ D ∧ ∃ items, h.PlainList a items ∧ Paired (TabD D h) items.toList tabs
def SeatD (D : Addr) (h : Heap) (v : Value) (st : Seat) : Prop := ∃ T a tw, v = .ref T ∧ T ≠ D ∧ h.IsTuple T #[.ref a, .int st.2 tw] ∧ TabsD D h a st.1

theorem tuple_seq {D T : Addr} {h h' : Heap} {its : Array Value} (x : h.IsTuple T its) (hT : T ≠ D) (k : KeepSeq D h h') : h'.IsTuple T its :=
  let ⟨o, ho, hc, n, hd⟩ := x; ⟨o, k T o its n hT hd ho, hc, n, hd⟩
theorem TabD.seq {D : Addr} {h h' : Heap} {v : Value} {r : Tab} (x : TabD D h v r) (k : KeepSeq D h h') : TabD D h' v r :=
  let ⟨T, t1, t2, e, hT, q⟩ := x; ⟨T, t1, t2, e, hT, tuple_seq q hT k⟩
theorem TabsD.seq {D a : Addr} {h h' : Heap} {tabs : List Tab} (x : TabsD D h a tabs) (k : KeepSeq D h h') : TabsD D h' a tabs :=
  let ⟨ha, items, q, r⟩ := x; ⟨ha, items, plain_seq q ha k, paired_mono' (fun _ _ z => z.seq k) r⟩
theorem SeatD.seq {D : Addr} {h h' : Heap} {v : Value} {st : Seat} (x : SeatD D h v st) (k : KeepSeq D h h') : SeatD D h' v st :=
  let ⟨T, a, tw, e, hT, q, r⟩ := x; ⟨T, a, tw, e, hT, tuple_seq q hT k, r.seq k⟩
theorem TabD.base {D D' : Addr} {h : Heap} {v : Value} {r : Tab} (x : TabD D h v r) (hD : h.get? D' = none) : TabD D' h v r := by
  obtain ⟨T, t1, t2, e, _, q⟩ := x
  refine ⟨T, t1, t2, e, ?_, q⟩
  rintro rfl
  obtain ⟨o, ho, _⟩ := q
  rw [hD] at ho; cases ho
theorem TabsD.base {D D' a : Addr} {h : Heap} {tabs : List Tab} (x : TabsD D h a tabs) (hD : h.get? D' = none) : TabsD D' h a tabs := by
  obtain ⟨_, items, q, r⟩ := x
  refine ⟨?_, items, q, paired_mono' (fun _ _ z => z.base hD) r⟩
  rintro rfl
  obtain ⟨n, ho⟩ := q
  rw [hD] at ho; cases ho
theorem SeatD.base {D D' : Addr} {h : Heap} {v : Value} {st : Seat} (x : SeatD D h v st) (hD : h.get? D' = none) : SeatD D' h v st := by
  obtain ⟨T, a, tw, e, _, q, r⟩ := x
  refine ⟨T, a, tw, e, ?_, q, r.base hD⟩
  rintro rfl
  obtain ⟨o, ho, _⟩ := q
  rw [hD] at ho; cases ho

theorem paired_at' {α β : Type} {F : α → β → Prop} : ∀ {l₁ : List α} {l₂ : List β}, Paired F l₁ l₂ → ∀ {j : Nat} {b : β}, l₂[j]? = some b → ∃ a, l₁[j]? = some a ∧ F a b
  | _, _, .nil, j, a, h => by cases j <;> cases h
  | _, _, .cons q t, 0, a, h => by
    cases h
    exact ⟨_, rfl, q⟩
  | _, _, .cons q t, j + 1, a, h => by
    obtain ⟨b, h1, h2⟩ := paired_at' t (j := j) (b := a) (by simpa using h)
    exact ⟨b, by simpa using h1, h2⟩
theorem paired_append {α β : Type} {F : α → β → Prop} : ∀ {l₁ k₁ : List α} {l₂ k₂ : List β}, Paired F l₁ l₂ → Paired F k₁ k₂ → Paired F (l₁ ++ k₁) (l₂ ++ k₂)
  | _, _, _, _, .nil, h => h
  | _, _, _, _, .cons x t, h => .cons x (paired_append t h)
theorem paired_places {α β : Type} {F : α → β → Prop} {vs : List α} {xs : List β} (h : Paired F vs xs) : ∀ js : List Nat, Paired F (js.filterMap (vs[·]?)) (js.filterMap (xs[·]?))
  | [] => .nil
  | j :: js => by
    have ih := paired_places h js
    cases hn : xs[j]? with
    | some n =>
      obtain ⟨v, hv, hF⟩ := paired_at' h hn
      simp only [List.filterMap_cons, hn, hv]
      exact .cons hF ih
    | none =>
      have hv : vs[j]? = none := by
        rw [List.getElem?_eq_none_iff] at hn ⊢
        rw [paired_length h]; exact hn
      simp only [List.filterMap_cons, hn, hv]
      exact ih
theorem paired_pick {β : Type} {F : Value → β → Prop} {items : Array Value} {xs : List β} (h : Paired F items.toList xs) (lo hi st : Option Int) : Paired F (slicePick items lo hi st).toList (pickOf xs lo hi st) := by
  have hl := paired_length h
  have e : (slicePick items lo hi st).toList = (sliceRange (sliceBounds lo hi st xs.length).1 (sliceBounds lo hi st xs.length).2.1 (sliceBounds lo hi st xs.length).2.2).filterMap (items.toList[·]?) := by
    simp only [Array.length_toList] at hl
    simp [slicePick, hl]
  rw [e]
  exact paired_places h _

def seatAlone (size : Int) (st : Seat) : Seat := (st.1 ++ [(size, 1)], st.2)
def tabAt (st : Seat) (k : Nat) : Tab := st.1.getD k (0, 0)
def seatAt (size : Int) (st : Seat) (k : Nat) : Seat :=
  (pickOf st.1 none (some (k : Int)) none ++ [((tabAt st k).1 + size, (tabAt st k).2 + 1)] ++ pickOf st.1 (some ((k : Int) + 1)) none none, st.2 * (tabAt st k).2)
def seatStep (size : Int) (st : Seat) : List Seat := seatAlone size st :: (List.range st.1.length).map (seatAt size st)

section
variable {prog : Program} {w : World} {A : Around} {E : Value → Shared → Prop} {s : Shared}

theorem push_tuple {h : Heap} {its : Array Value} : (h.push { cls := .type "tuple", data := .seq its }).IsTuple h.objs.size its := ⟨_, Heap.get?_push_size _ rfl, rfl, _, rfl⟩

/-- (tables + [(size, 1)], ways) -/
theorem elt_alone {env : Env} {n1 n2 n3 : Str} {p1 p3 p5 p6 p7 p8 p9 p10 : Pos} {c1 kk kk2 : Nat} {D a : Addr} {st : Seat} {size : Int} {tw ts : Tok} {m : Str → Option Value} {dits : Array Value} {Q : Value → Shared → Prop}
    (hk : env.scope.kind = .function) (k1 : env.kindOf n1 = some .local) (k2 : env.kindOf n2 = some .local) (k3 : env.kindOf n3 = some .local) (hn : s.heap.Ns env.locals m)
    (m1 : m n1 = some (.ref a)) (m2 : m n2 = some (.int st.2 tw)) (m3 : m n3 = some (.int size ts)) (hD : s.heap.PlainList D dits) (hT : TabsD D s.heap a st.1) (hz : st.1.length ≤ 100)
    (h : ∀ v s', Keeps s s' → SeatD D s'.heap v (seatAlone size st) → Q v s') (d1 : (n1 == ("__debug__" : Str)) = false) (d2 : (n2 == ("__debug__" : Str)) = false) (d3 : (n3 == ("__debug__" : Str)) = false) :
    wpAny (model prog w) A (eval (.Tuple [.BinOp (.Name n1 p1) .Add (.List [.Tuple [.Name n3 p3, .Constant (.int 1) c1 p5] kk p6] p7) p8, .Name n2 p9] kk2 p10) env) Q E s := by
  obtain ⟨hDn, qD⟩ := id hD
  have hDlt : D < s.heap.objs.size := Heap.lt_size qD
  obtain ⟨haD, its, ha, hp⟩ := id hT
  have hlen := paired_length hp
  simp only [Array.length_toList] at hlen
  refine pairOf (wpAny_BinOp (nm hk k1 hn m1 (wpAny_List_spliced (spliced_more (pairOf (nm hk k3 hn m3 (wpAny_Constant_int (Calls.spliced_nil ⟨by show 1 ≤ sizeLine; decide, ?_⟩)) d3)))) d1))
  dsimp only
  obtain ⟨H1, e1⟩ : ∃ H, H = s.heap.push { cls := .type "tuple", data := .seq #[.int size ts, .int 1 s.toks] } := ⟨_, rfl⟩
  have k1' : ∀ b o, s.heap.get? b = some o → H1.get? b = some o := fun b o q => e1 ▸ Heap.get?_push_of_some _ q
  have hT1 : H1.IsTuple s.heap.objs.size #[.int size ts, .int 1 s.toks] := e1 ▸ push_tuple
  have z1 : H1.objs.size = s.heap.objs.size + 1 := by rw [e1, Heap.size_push]
  rw [← e1]
  have keep₂ : ∀ b o, H1.get? b = some o → (H1.push { cls := .type "list", data := .seq ([Value.ref s.heap.objs.size] : List Value).toArray }).get? b = some o := fun b o q => Heap.get?_push_of_some _ q
  refine add_items (its := its) (its2 := #[.ref s.heap.objs.size]) (ha.at fun o q => keep₂ _ o (k1' _ o q)) ⟨0, Heap.get?_push_size _ rfl⟩ (by simp; omega) fun h₃ hl₃ keep₃ => ?_
  dsimp only at hl₃ keep₃ ⊢
  have up₃ : ∀ b o, s.heap.get? b = some o → h₃.get? b = some o := fun b o q => keep₃ b o (keep₂ b o (k1' b o q))
  refine nm hk k2 (hn.keeps up₃) m2 ?_ d2
  have up₄ : ∀ (o' : Obj) b o, s.heap.get? b = some o → (h₃.push o').get? b = some o := fun o' b o q => Heap.get?_push_of_some _ (up₃ b o q)
  have z2 : (H1.push { cls := .type "list", data := .seq ([Value.ref s.heap.objs.size] : List Value).toArray }).objs.size = s.heap.objs.size + 2 := by rw [Heap.size_push, z1]
  rw [z2] at hl₃ ⊢
  have hlt : s.heap.objs.size + 2 < h₃.objs.size := by obtain ⟨n, q⟩ := hl₃; exact Heap.lt_size q
  refine h _ _ ⟨_, _, rfl, up₄ _⟩ ⟨h₃.objs.size, s.heap.objs.size + 2, tw, rfl, ?_, push_tuple, ?_, _, hl₃.at fun o q => Heap.get?_push_of_some _ q, ?_⟩
  · exact nb (Nat.lt_trans (Nat.lt_trans hDlt (Nat.lt_succ_of_lt (Nat.lt_succ_self _))) hlt)
  · exact nb (Nat.lt_trans hDlt (Nat.lt_succ_of_lt (Nat.lt_succ_self _)))
  · show Paired _ (its.toList ++ [Value.ref s.heap.objs.size]) (st.1 ++ [(size, 1)])
    refine paired_snoc (paired_mono' (fun _ _ z => z.seq (.of_keep (up₄ _))) hp) ⟨s.heap.objs.size, ts, s.toks, rfl, nb hDlt, ?_⟩
    obtain ⟨o, ho, r⟩ := hT1
    exact ⟨o, Heap.get?_push_of_some _ (keep₃ _ _ (keep₂ _ _ ho)), r⟩

/-- (tables[:k] + [(total + size, guests + 1)] + tables[k + 1:], ways * guests) -/
theorem elt_joined {env : Env} {n1 n2 n3 nk nt ng : Str} {p1 p2 p3 p4 p5 p6 p7 p8 p9 q1 q2 q3 q4 q5 q6 q7 q8 q9 r1 r2 r3 r4 r5 r6 : Pos} {c1 c2 kk kk2 : Nat} {D a : Addr} {st : Seat} {size : Int} {k : Nat} {tw ts tk₀ tt tg : Tok} {m : Str → Option Value} {dits : Array Value} {Q : Value → Shared → Prop}
    (hk : env.scope.kind = .function) (k1 : env.kindOf n1 = some .local) (k2 : env.kindOf n2 = some .local) (k3 : env.kindOf n3 = some .local) (k4 : env.kindOf nk = some .local) (k5 : env.kindOf nt = some .local) (k6 : env.kindOf ng = some .local) (hn : s.heap.Ns env.locals m)
    (m1 : m n1 = some (.ref a)) (m2 : m n2 = some (.int st.2 tw)) (m3 : m n3 = some (.int size ts)) (m4 : m nk = some (.int (k : Int) tk₀)) (m5 : m nt = some (.int (tabAt st k).1 tt)) (m6 : m ng = some (.int (tabAt st k).2 tg))
    (hD : s.heap.PlainList D dits) (hT : TabsD D s.heap a st.1) (hz : st.1.length ≤ 100) (hmul : IntMulOk st.2 (tabAt st k).2)
    (h : ∀ v s', Keeps s s' → SeatD D s'.heap v (seatAt size st k) → Q v s') (d1 : (n1 == ("__debug__" : Str)) = false) (d2 : (n2 == ("__debug__" : Str)) = false) (d3 : (n3 == ("__debug__" : Str)) = false)
    (d4 : (nk == ("__debug__" : Str)) = false) (d5 : (nt == ("__debug__" : Str)) = false) (d6 : (ng == ("__debug__" : Str)) = false) :
    wpAny (model prog w) A (eval (.Tuple [.BinOp (.BinOp (.Subscript (.Name n1 p1) (.Slice none (some (.Name nk p2)) none p3) p4) .Add (.List [.Tuple [.BinOp (.Name nt p5) .Add (.Name n3 p6) p7, .BinOp (.Name ng p8) .Add (.Constant (.int 1) c1 p9) q1] kk q2] q3) q4) .Add
      (.Subscript (.Name n1 q5) (.Slice (some (.BinOp (.Name nk q6) .Add (.Constant (.int 1) c2 q7) q8)) none none q9) r1) r2, .BinOp (.Name n2 r3) .Mult (.Name ng r4) r5] kk2 r6) env) Q E s := by
  obtain ⟨hDn, qD⟩ := id hD
  have hDlt : D < s.heap.objs.size := Heap.lt_size qD
  obtain ⟨haD, its, ha, hp⟩ := id hT
  have hlen := paired_length hp
  simp only [Array.length_toList] at hlen
  refine pairOf (wpAny_BinOp (wpAny_BinOp (Subscript_ (nm hk k1 hn m1 (wpAny_Slice (wpAny_evalPart_none (wpAny_evalPart_some (nm hk k4 hn m4 (wpAny_evalPart_none ?_) d4)))) d1))))
  refine slice_items (s := s) ha.isList (by omega) .none (IsPart.int _ _) .none (by simp) fun l₁ h₁ hl₁ keep₁ hfr₁ => ?_
  have hp₁ := paired_pick hp none (some (k : Int)) none
  have hn₁ : h₁.Ns env.locals m := hn.keeps keep₁
  have hD₁ : h₁.PlainList D dits := hD.at fun o q => keep₁ _ o q
  -- the joined table
  refine wpAny_List_spliced (spliced_more (pairOf (EvI.add (.name hk k5 hn₁ m5 d5) (.name hk k3 hn₁ m3 d3) _ _ _ rfl fun t₂ tk₂ => EvI.add (.name hk k6 hn₁ m6 d6) .const _ _ _ rfl fun t₃ tk₃ => Calls.spliced_nil ⟨by show 1 ≤ sizeLine; decide, ?_⟩)))
  dsimp only
  obtain ⟨H2, e2⟩ : ∃ H, H = h₁.push { cls := .type "tuple", data := .seq #[.int ((tabAt st k).1 + size) t₂, .int ((tabAt st k).2 + 1) t₃] } := ⟨_, rfl⟩
  have kp₂ : ∀ b o, h₁.get? b = some o → H2.get? b = some o := fun b o q => e2 ▸ Heap.get?_push_of_some _ q
  have hT2 : H2.IsTuple h₁.objs.size #[.int ((tabAt st k).1 + size) t₂, .int ((tabAt st k).2 + 1) t₃] := e2 ▸ push_tuple
  have z2 : H2.objs.size = h₁.objs.size + 1 := by rw [e2, Heap.size_push]
  rw [← e2]
  have keep₂ : ∀ b o, H2.get? b = some o → (H2.push { cls := .type "list", data := .seq ([Value.ref h₁.objs.size] : List Value).toArray }).get? b = some o := fun b o q => Heap.get?_push_of_some _ q
  have n₁ : (slicePick its none (some (k : Int)) none).size ≤ its.size := slicePick_size_le _ _ _ _
  refine add_items (its := slicePick its none (some (k : Int)) none) (its2 := #[.ref h₁.objs.size]) (hl₁.at fun o q => keep₂ _ o (kp₂ _ o q)) ⟨0, Heap.get?_push_size _ rfl⟩ (by simp; omega) fun h₃ hl₃ keep₃ => ?_
  dsimp only at hl₃ keep₃ ⊢
  have up₃ : ∀ b o, h₁.get? b = some o → h₃.get? b = some o := fun b o q => keep₃ b o (keep₂ b o (kp₂ b o q))
  have hn₃ : h₃.Ns env.locals m := hn₁.keeps up₃
  have hT3 : h₃.IsTuple h₁.objs.size #[.int ((tabAt st k).1 + size) t₂, .int ((tabAt st k).2 + 1) t₃] := let ⟨o, ho, r⟩ := hT2; ⟨o, keep₃ _ _ (keep₂ _ _ ho), r⟩
  -- the tables behind
  refine Subscript_ (nm hk k1 hn₃ m1 (wpAny_Slice (wpAny_evalPart_some (EvI.add (.name hk k4 hn₃ m4 d4) .const _ _ _ rfl fun t₄ tk₄ => wpAny_evalPart_none (wpAny_evalPart_none ?_)))) d1)
  dsimp only
  refine slice_items (s := { s with heap := h₃, toks := tk₄ }) (ha.at fun o q => up₃ _ o (keep₁ _ o q)).isList (by omega) (IsPart.int _ _) .none .none (by simp) fun l₅ h₅ hl₅ keep₅ hfr₅ => ?_
  replace keep₅ : ∀ b o, h₃.get? b = some o → h₅.get? b = some o := keep₅
  have hp₅ := paired_pick hp (some ((k : Int) + 1)) none none
  have n₅ : (slicePick its (some ((k : Int) + 1)) none none).size ≤ its.size := slicePick_size_le _ _ _ _
  refine add_items (hl₃.at fun o q => keep₅ _ o q) hl₅ (by simp; omega) fun h₆ hl₆ keep₆ => ?_
  dsimp only at hl₆ keep₆ ⊢
  have up₆ : ∀ b o, h₃.get? b = some o → h₆.get? b = some o := fun b o q => keep₆ b o (keep₅ b o q)
  have hn₆ : h₆.Ns env.locals m := hn₃.keeps up₆
  refine EvI.mul (.name hk k2 hn₆ m2 d2) (.name hk k6 hn₆ m6 d6) hmul _ _ _ rfl fun t₇ tk₇ => ?_
  have all : ∀ (o' : Obj) b o, s.heap.get? b = some o → (h₆.push o').get? b = some o := fun o' b o q => Heap.get?_push_of_some _ (up₆ b o (up₃ b o (keep₁ b o q)))
  have lt : ∀ {hh : Heap}, hh.PlainList D dits → D < hh.objs.size := fun x => let ⟨_, q⟩ := x; Heap.lt_size q
  have hD₃ : h₃.PlainList D dits := hD₁.at fun o q => up₃ _ o q
  refine h _ _ ⟨_, _, rfl, all _⟩ ⟨h₆.objs.size, h₅.objs.size, t₇, rfl, nb (lt (hD₃.at fun o q => up₆ _ o q)), push_tuple, nb (lt (hD₃.at fun o q => keep₅ _ o q)), _, hl₆.at fun o q => Heap.get?_push_of_some _ q, ?_⟩
  have kall : KeepSeq D s.heap (h₆.push { cls := .type "tuple", data := .seq #[.ref h₅.objs.size, .int (st.2 * (tabAt st k).2) t₇] }) := .of_keep (all _)
  have new : TabD D (h₆.push { cls := .type "tuple", data := .seq #[.ref h₅.objs.size, .int (st.2 * (tabAt st k).2) t₇] }) (.ref h₁.objs.size) ((tabAt st k).1 + size, (tabAt st k).2 + 1) :=
    ⟨h₁.objs.size, t₂, t₃, rfl, nb (lt hD₁), let ⟨o, ho, r⟩ := hT3; ⟨o, Heap.get?_push_of_some _ (up₆ _ _ ho), r⟩⟩
  have := paired_append (paired_append (paired_mono' (fun _ _ (z : TabD D s.heap _ _) => z.seq kall) hp₁) (Paired.cons new .nil)) (paired_mono' (fun _ _ (z : TabD D s.heap _ _) => z.seq kall) hp₅)
  simpa [seatAt] using this

/-- total, guests = tables[k] -/
theorem unpack_stmt {env : Env} {n1 nk nt ng : Str} {p1 p2 p3 p4 p5 p6 p7 : Pos} {kk : Nat} {D a : Addr} {tabs : List Tab} {k : Nat} {tk₀ : Tok} {m : Str → Option Value} {Q : Flow → Shared → Prop}
    (hh : A.handled = none) (hk : env.scope.kind = .function) (k1 : env.kindOf n1 = some .local) (k4 : env.kindOf nk = some .local) (k5 : env.kindOf nt = some .local) (k6 : env.kindOf ng = some .local) (hn : s.heap.Ns env.locals m)
    (m1 : m n1 = some (.ref a)) (m4 : m nk = some (.int (k : Int) tk₀)) (hT : TabsD D s.heap a tabs) (hlt : k < tabs.length) (hz : tabs.length ≤ 100)
    (h : ∀ h' tk t1 t2, h'.Ns env.locals (fun y => if y = ng then some (.int (tabs.getD k (0, 0)).2 t2) else if y = nt then some (.int (tabs.getD k (0, 0)).1 t1) else m y) → Up env.locals s.heap h' → Q .next { s with heap := h', toks := tk })
    (d1 : (n1 == ("__debug__" : Str)) = false) (d4 : (nk == ("__debug__" : Str)) = false)
    (hw : swapsWithSole [.Tuple [.Name nt p1, .Name ng p2] kk p3] (.Subscript (.Name n1 p4) (.Name nk p5) p6) p7.line env = pure false := by rfl) (hw2 : swappedStores [.Tuple [.Name nt p1, .Name ng p2] kk p3] (.Subscript (.Name n1 p4) (.Name nk p5) p6) env = pure none := by rfl)
    (hss : ∀ u, subscripted (.Name nk p5) false (.ref a) (.int (k : Int) u) = operate [.ref a, .int (k : Int) u] (getItem (.ref a) (.int (k : Int) u)) := by intro _; with_unfolding_all rfl) :
    wpAny (model prog w) A (exec (.Assign [.Tuple [.Name nt p1, .Name ng p2] kk p3] (.Subscript (.Name n1 p4) (.Name nk p5) p6) p7) env) Q E s := by
  obtain ⟨haD, its, ha, hp⟩ := id hT
  have hrow : tabs[k]? = some tabs[k] := List.getElem?_eq_getElem hlt
  have hgd : tabs.getD k (0, 0) = tabs[k] := by rw [List.getD_eq_getElem?_getD, hrow]; rfl
  obtain ⟨v, hv, T, t1, t2, rfl, hTD, hTt⟩ := paired_at' hp hrow
  rw [hgd] at h
  refine Assign_Tuple (Subscript_ (nm hk k1 hn m1 (nm hk k4 hn m4 ?_ d4) d1)) hw hw2
  refine tail_any ha.isList.typeIs slot_list_getitem.lookup (wpAny_getItem_list ha.isList (by omega) (by omega) (x := .ref T) (by simpa using hv) ?_) (hss _)
  refine wpAny_assign_Tuple hh hTt rfl rfl fun h₂ hx₂ => ?_
  have up₂ : ∀ b o, s.heap.get? b = some o → h₂.get? b = some o := fun b o q => hx₂ b o (Nat.ne_of_lt (Heap.lt_size q)) q
  have hn₂ : h₂.Ns env.locals m := hn.keeps up₂
  show wpAny _ _ (do holding [.int tabs[k].2 t2] (assign (.Name nt _) env (.int tabs[k].1 t1)); do holding [] (assign (.Name ng _) env (.int tabs[k].2 t2)); pure ()) _ _ _
  refine wpAny_bind (wpAny_holding (wpAny_assign_Name (wpAny_storeName_local k5 hn₂ (fun h₃ hn₃ hs₃ => ?_) (plainScope hk))))
  replace hs₃ : Heap.SameBut env.locals h₂ h₃ := hs₃
  refine wpAny_bind (wpAny_holding (wpAny_assign_Name (wpAny_storeName_local k6 hn₃ (fun h₄ hn₄ hs₄ => wpAny_pure ?_) (plainScope hk))))
  replace hs₄ : Heap.SameBut env.locals h₃ h₄ := hs₄
  exact h h₄ _ t1 t2 hn₄ fun b o hb q => hs₄.extBut b o hb (hs₃.extBut b o hb (up₂ b o q))
end
end Mine
namespace Mine
open PySem

/-- where a range's iterator of `cnt` ints stands -/
def RangeAt (h : Heap) (I : Addr) (cnt j : Nat) : Prop := IsRangeIter h I (0 + ((j : Nat) : Int) * 1) ((cnt : Nat) - ((j : Nat) : Int)) 1
theorem RangeAt.keep {h h' : Heap} {I : Addr} {cnt j : Nat} (x : RangeAt h I cnt j) (k : ∀ o, h.get? I = some o → h'.get? I = some o) : RangeAt h' I cnt j := k _ x
theorem RangeAt.ne {h : Heap} {I b : Addr} {cnt j : Nat} {o : Obj} {its : Array Value} {k : Nat} (x : RangeAt h I cnt j) (e : h.get? b = some o) (hd : o.data = .seq its k) : b ≠ I := rangeit_not_seq x e hd
theorem RangeAt.ne_ns {h : Heap} {I L : Addr} {cnt j : Nat} {m : Str → Option Value} (x : RangeAt h I cnt j) (hn : h.Ns L m) : I ≠ L := by
  rintro rfl
  obtain ⟨o', _, _, ho', hd', _⟩ := hn
  have x' : h.get? I = _ := x
  rw [x'] at ho'
  cases ho'
  cases hd'

section
variable {prog : Program} {w : World} {A : Around} {E : Value → Shared → Prop} {s : Shared}

/-- for n1, n2 in a list of pairs -/
theorem loop_pairs {R' : Result → Shared → Prop} {vs : List Value} {R I : Addr} {env : Env} {n1 n2 : Str} {p1 p2 p4 : Pos} {kk : Nat} {body : List Stmt} {m : Str → Option Value}
    (hh : A.handled = none) (hk : env.scope.kind = .function) (k1 : env.kindOf n1 = some .local) (k2 : env.kindOf n2 = some .local)
    (J : Nat → (Str → Option Value) → Shared → Prop)
    (hJ : ∀ j m s h' tk, J j m s → s.heap.IsListIter I R j → s.heap.Ns env.locals m → (∀ b o, b ≠ env.locals → b ≠ I → s.heap.get? b = some o → h'.get? b = some o) → J j m { s with heap := h', toks := tk })
    (hJR : ∀ j m s, J j m s → s.heap.IsList R vs.toArray) (hT : ∀ j m s v, J j m s → vs[j]? = some v → ∃ T a b, v = .ref T ∧ s.heap.IsTuple T #[a, b])
    (step : ∀ j T a b m s₁, vs[j]? = some (.ref T) → J j m s₁ → s₁.heap.IsTuple T #[a, b] → s₁.heap.IsListIter I R (j + 1) → s₁.heap.Ns env.locals (fun y => if y = n2 then some b else if y = n1 then some a else m y) →
      wpAny (model prog w) A (execs body env) (fun f s₂ => f = .next ∧ s₂.heap.IsListIter I R (j + 1) ∧ ∃ m₂, s₂.heap.Ns env.locals m₂ ∧ J (j + 1) m₂ s₂) (notedBy (model prog w) A env fun e s' => R' (.error e) s') s₁)
    (hafter : ∀ m' s', s'.heap.Ns env.locals m' → J vs.length m' s' → R' (.ok .next) s')
    (hit : s.heap.IsListIter I R 0) (hn : s.heap.Ns env.locals m) (h0 : J 0 m s) :
    codeAny (model prog w) A (.forLoop (.Tuple [.Name n1 p1, .Name n2 p2] kk p4) (.ref I) body [] env) R' s := by
  refine codeAny_forLoop_any (fun k s' => ∃ j m', k = vs.length + 1 - j ∧ j ≤ vs.length ∧ s'.heap.IsListIter I R j ∧ s'.heap.Ns env.locals m' ∧ J j m' s') ?_ (vs.length + 1) ⟨0, m, rfl, Nat.zero_le _, hit, hn, h0⟩
  rintro k s' ⟨j, m', rfl, hj, hit', hn', hJ'⟩
  have hIL := iter_ne_ns hit' hn'
  have hl := hJR _ _ _ hJ'
  cases hv : vs[j]? with
  | none =>
    have hje : j = vs.length := Nat.le_antisymm hj (by simpa using hv)
    subst hje
    refine wpAny_pyNext_list_end hh hit' hl (by simp) fun h₁ hx₁ => wpAny_execs_nil ?_
    replace hx₁ : Heap.ExtBut I s'.heap h₁ := hx₁
    exact hafter m' _ (hn'.at' fun o q => hx₁ _ o (Ne.symm hIL) q) (hJ _ _ _ h₁ s'.toks hJ' hit' hn' fun b o _ hb q => hx₁ b o hb q)
  | some v =>
    have hlt : j < vs.length := (List.getElem?_eq_some_iff.mp hv).1
    obtain ⟨T, a, b, rfl, hTT⟩ := hT _ _ _ _ hJ' hv
    obtain ⟨oT, hoT, hcT, nT, hdT⟩ := id hTT
    have hTI : T ≠ I := iter_not_seq hit' hoT hdT
    have hTL : T ≠ env.locals := ns_not_seq hn' hoT hdT
    refine wpAny_pyNext_list_item hit' hl (by simpa using hv) fun h₁ hit₁ hs₁ => ?_
    replace hs₁ : Heap.SameBut I s'.heap h₁ := hs₁
    have hT₁ : h₁.IsTuple T #[a, b] := ⟨oT, hs₁.extBut _ _ hTI hoT, hcT, nT, hdT⟩
    refine wpAny_letOwnedTupleGo_listiter hit₁ ?_
    refine wpAny_assign_Tuple hh hT₁ rfl rfl fun h₂ hx₂ => ?_
    replace hx₂ : Heap.ExtBut h₁.objs.size h₁ h₂ := hx₂
    have up₂ : ∀ b o, h₁.get? b = some o → h₂.get? b = some o := fun b o q => hx₂ b o (Nat.ne_of_lt (Heap.lt_size q)) q
    have hn₂ : h₂.Ns env.locals m' := (hn'.sameBut hs₁ (Ne.symm hIL)).keeps up₂
    show wpAny _ _ (do holding [b] (assign (.Name n1 _) env a); do holding [] (assign (.Name n2 _) env b); pure ()) _ _ _
    refine wpAny_bind (wpAny_holding (wpAny_assign_Name (wpAny_storeName_local k1 hn₂ (fun h₃ hn₃ hs₃ => ?_) (plainScope hk))))
    replace hs₃ : Heap.SameBut env.locals h₂ h₃ := hs₃
    refine wpAny_bind (wpAny_holding (wpAny_assign_Name (wpAny_storeName_local k2 hn₃ (fun h₄ hn₄ hs₄ => wpAny_pure ?_) (plainScope hk))))
    replace hs₄ : Heap.SameBut env.locals h₃ h₄ := hs₄
    have up₄ : ∀ b o, b ≠ env.locals → h₁.get? b = some o → h₄.get? b = some o := fun b o hb q => hs₄.extBut b o hb (hs₃.extBut b o hb (up₂ b o q))
    have J₄ := fun tk => hJ _ _ _ h₄ tk hJ' hit' hn' fun b o hbL hb q => up₄ b o hbL (hs₁.extBut b o hb q)
    have hT₄ : h₄.IsTuple T #[a, b] := ⟨oT, up₄ _ _ hTL (hs₁.extBut _ _ hTI hoT), hcT, nT, hdT⟩
    refine wpAny_mono (step j T a b m' _ hv (J₄ _) hT₄ (iter_keeps hit₁ fun o q => up₄ _ o hIL q) hn₄) (fun f s₃ hf => ?_) fun _ _ q => q
    obtain ⟨rfl, q1, m₂, q2, q3⟩ := hf
    exact ⟨vs.length + 1 - (j + 1), by omega, j + 1, m₂, rfl, hlt, q1, q2, q3⟩

/-- for n in range(cnt) -/
theorem loop_range {R' : Result → Shared → Prop} {cnt : Nat} {I : Addr} {env : Env} {n : Str} {p : Pos} {body : List Stmt} {m : Str → Option Value} (hh : A.handled = none) (hk : env.scope.kind = .function) (k1 : env.kindOf n = some .local)
    (J : Nat → (Str → Option Value) → Shared → Prop)
    (hJ : ∀ j m s h' tk, J j m s → RangeAt s.heap I cnt j → s.heap.Ns env.locals m → (∀ b o, b ≠ env.locals → b ≠ I → s.heap.get? b = some o → h'.get? b = some o) → J j m { s with heap := h', toks := tk })
    (step : ∀ j t m s₁, j < cnt → J j m s₁ → RangeAt s₁.heap I cnt (j + 1) → s₁.heap.Ns env.locals (fun y => if y = n then some (.int ((j : Nat) : Int) t) else m y) →
      wpAny (model prog w) A (execs body env) (fun f s₂ => f = .next ∧ RangeAt s₂.heap I cnt (j + 1) ∧ ∃ m₂, s₂.heap.Ns env.locals m₂ ∧ J (j + 1) m₂ s₂) (notedBy (model prog w) A env fun e s' => R' (.error e) s') s₁)
    (hafter : ∀ m' s', s'.heap.Ns env.locals m' → J cnt m' s' → R' (.ok .next) s')
    (hit : RangeAt s.heap I cnt 0) (hn : s.heap.Ns env.locals m) (h0 : J 0 m s) :
    codeAny (model prog w) A (.forLoop (.Name n p) (.ref I) body [] env) R' s := by
  have W := Walks.range (prog := prog) (w := w) (A := A) hh I 0 1 cnt
  refine codeAny_forLoop (fun k s' => ∃ j m', k = cnt + 1 - j ∧ j ≤ cnt ∧ RangeAt s'.heap I cnt j ∧ s'.heap.Ns env.locals m' ∧ J j m' s') ?_ (cnt + 1) ⟨0, m, rfl, Nat.zero_le _, hit, hn, h0⟩
  rintro k s' ⟨j, m', rfl, hj, hit', hn', hJ'⟩
  have hIL := hit'.ne_ns hn'
  by_cases hlt : j < cnt
  · refine W.item j _ _ _ hlt hit' fun v h₁ tk₁ hP hit₁ hk₁ => ?_
    obtain ⟨t, rfl⟩ := hP
    have ej : (0 : Int) + (j : Int) * 1 = (j : Int) := by omega
    rw [ej]
    replace hk₁ : ∀ b o, b ≠ I → s'.heap.get? b = some o → h₁.get? b = some o := fun b o hb q => hk₁ b o (fun z => hb (List.mem_singleton.mp z)) q
    refine wpAny_assign_Name (wpAny_storeName_local k1 (hn'.at' fun o q => hk₁ _ o (Ne.symm hIL) q) (fun h₂ hn₂ hs₂ => ?_) (plainScope hk))
    replace hs₂ : Heap.SameBut env.locals h₁ h₂ := hs₂
    have J₂ := fun tk => hJ _ _ _ h₂ tk hJ' hit' hn' fun b o hbL hb q => hs₂.extBut b o hbL (hk₁ b o hb q)
    have hit₂ : RangeAt h₂ I cnt (j + 1) := RangeAt.keep hit₁ fun o q => hs₂.extBut _ o hIL q
    refine wpAny_mono (step j t m' _ hlt (J₂ _) hit₂ hn₂) (fun f s₃ hf => ?_) fun _ _ q => q
    obtain ⟨rfl, q1, m₂, q2, q3⟩ := hf
    exact ⟨cnt + 1 - (j + 1), by omega, j + 1, m₂, rfl, hlt, q1, q2, q3⟩
  · have hje : j = cnt := by omega
    subst hje
    refine W.done _ _ _ hit' fun h₁ tk₁ hk₁ => wpAny_execs_nil ?_
    replace hk₁ : ∀ b o, b ≠ I → s'.heap.get? b = some o → h₁.get? b = some o := fun b o hb q => hk₁ b o (fun z => hb (List.mem_singleton.mp z)) q
    exact hafter m' _ (hn'.at' fun o q => hk₁ _ o (Ne.symm hIL) q) (hJ _ _ _ h₁ _ hJ' hit' hn' fun b o _ hb q => hk₁ b o hb q)
end
end Mine
namespace Mine
open PySem

def worthFor : Stmt := nthS (defBody (stmtAt atWorths)) 1
def seatFor : Stmt := nthS (forBody worthFor) 1
def kFor : Stmt := nthS (forBody seatFor) 1

structure WorthNames (base : Heap) (f : Addr) : Prop where
  def_ : FnIs base (stmtAt atWorths) f
  lim : base.NoLimit
  glob : ∃ mg, base.Ns mainGlobals mg ∧ mg "range" = none ∧ mg "len" = none ∧ mg "sum" = none ∧ mg "max" = none
  blt : ∃ mb, base.Ns builtinsNs mb ∧ mb "range" = some (.type "range") ∧ mb "len" = some (.builtin "len") ∧ mb "sum" = some (.builtin "sum") ∧ mb "max" = some (.builtin "max")

/-- a seating that may be turned -/
structure SeatOk (st : Seat) : Prop where
  len : st.1.length ≤ 100
  mul : ∀ k, k < st.1.length → IntMulOk st.2 (tabAt st k).2

def SeatsD (D : Addr) (h : Heap) (vs : List Value) (ss : List Seat) : Prop := Paired (SeatD D h) vs ss
theorem SeatsD.seq {D : Addr} {h h' : Heap} {vs : List Value} {ss : List Seat} (x : SeatsD D h vs ss) (k : KeepSeq D h h') : SeatsD D h' vs ss := paired_mono' (fun _ _ z => z.seq k) x
theorem same_seq {D : Addr} {h h' : Heap} (k : Heap.SameBut D h h') : KeepSeq D h h' := fun b o _ _ hb _ q => k.extBut b o hb q

def Run (L D : Addr) (s s' : Shared) : Prop := ∃ h' tk, s' = { s with heap := h', toks := tk } ∧ ∀ b o, b ≠ L → b ≠ D → s.heap.get? b = some o → h'.get? b = some o

theorem ww1 : ¬ (Str.ofString "tables" = Str.ofString "guests") := by decide
theorem ww2 : ¬ (Str.ofString "tables" = Str.ofString "total") := by decide
theorem ww3 : ¬ (Str.ofString "tables" = Str.ofString "k") := by decide
theorem ww4 : ¬ (Str.ofString "ways" = Str.ofString "guests") := by decide
theorem ww5 : ¬ (Str.ofString "ways" = Str.ofString "total") := by decide
theorem ww6 : ¬ (Str.ofString "ways" = Str.ofString "k") := by decide
theorem ww7 : ¬ (Str.ofString "size" = Str.ofString "guests") := by decide
theorem ww8 : ¬ (Str.ofString "size" = Str.ofString "total") := by decide
theorem ww9 : ¬ (Str.ofString "size" = Str.ofString "k") := by decide
theorem ww10 : ¬ (Str.ofString "longer" = Str.ofString "guests") := by decide
theorem ww11 : ¬ (Str.ofString "longer" = Str.ofString "total") := by decide
theorem ww12 : ¬ (Str.ofString "longer" = Str.ofString "k") := by decide
theorem ww13 : ¬ (Str.ofString "k" = Str.ofString "guests") := by decide
theorem ww14 : ¬ (Str.ofString "k" = Str.ofString "total") := by decide
theorem ww15 : ¬ (Str.ofString "total" = Str.ofString "guests") := by decide

section
variable {prog : Program} {w : World} {A : Around} {E : Value → Shared → Prop} {s : Shared}

set_option maxHeartbeats 2000000 in
/-- one seating: what it grows to, behind what longer holds -/
theorem seat_turn {env : Env} {L D a f : Addr} {base : Heap} {st : Seat} {accs : List Seat} {size : Int} {tw ts : Tok} {m : Str → Option Value} {dits : Array Value} (e : EnvFor env (stmtAt atWorths) L) (hh : A.handled = none) (N : WorthNames base f) (hb : ∀ b o, base.get? b = some o → s.heap.get? b = some o) (hLb : base.get? L = none) (hDb : base.get? D = none)
    (hn : s.heap.Ns L m) (m1 : m "tables" = some (.ref a)) (m2 : m "ways" = some (.int st.2 tw)) (m3 : m "size" = some (.int size ts)) (m4 : m "longer" = some (.ref D)) (hDL : D ≠ L)
    (hD : s.heap.PlainList D dits) (hA : SeatsD D s.heap dits.toList accs) (hT : TabsD D s.heap a st.1) (ok : SeatOk st) (hz : accs.length ≤ 5000) :
    wpAny (model prog w) A (execs (forBody seatFor) env) (fun fl s₂ => fl = .next ∧ Run L D s s₂ ∧ ∃ m₂ dits', s₂.heap.Ns L m₂ ∧ (∀ n, ¬ n = Str.ofString "k" → ¬ n = Str.ofString "total" → ¬ n = Str.ofString "guests" → m₂ n = m n) ∧
      s₂.heap.PlainList D dits' ∧ SeatsD D s₂.heap dits'.toList (accs ++ seatStep size st)) E s := by
  have hk : env.scope.kind = .function := e.kind rfl
  have kn : ∀ {n : Str} {q : NameKind}, (defScope (stmtAt atWorths)).names.lookup n = some q → env.kindOf n = some q := fun {n q} hq => by
    show env.scope.names.lookup n = _
    rw [e.scope]; exact hq
  obtain ⟨mg, hg, hg1, hg2, _⟩ := N.glob
  obtain ⟨mb, hbl, hbl1, hbl2, _⟩ := N.blt
  have heL := e.locals
  have hnE : s.heap.Ns env.locals m := heL ▸ hn
  have lenA := paired_length hA
  simp only [Array.length_toList] at lenA
  -- longer.append((tables + [(size, 1)], ways))
  refine wpAny_execs_cons (append_stmt hk (kn (by decide)) hnE m4 hD (elt_alone (D := D) hk (kn (by decide)) (kn (by decide)) (kn (by decide)) hnE m1 m2 m3 hD hT ok.len (fun v s₁ K hv => ?_) (by decide) (by decide) (by decide)) e.inter rfl rfl rfl rfl (by decide))
  obtain ⟨h₁, tk₁, rfl, keep₁⟩ := K
  replace hv : SeatD D h₁ v (seatAlone size st) := hv
  refine ⟨dits, hD.at fun o q => keep₁ _ o q, by have := sizeLine_eq; omega, fun h₂ hD₂ hs₂ => ?_⟩
  replace hs₂ : Heap.SameBut D h₁ h₂ := hs₂
  have kq₂ : KeepSeq D s.heap h₂ := (KeepSeq.of_keep keep₁).trans (same_seq hs₂)
  have up₂ : ∀ b o, b ≠ D → s.heap.get? b = some o → h₂.get? b = some o := fun b o hb' q => hs₂.extBut b o hb' (keep₁ b o q)
  have hA₂ : SeatsD D h₂ (dits.push v).toList (accs ++ [seatAlone size st]) := by
    rw [Array.toList_push]
    exact paired_snoc (hA.seq kq₂) (hv.seq (same_seq hs₂))
  have hT₂ : TabsD D h₂ a st.1 := hT.seq kq₂
  have hn₂ : h₂.Ns L m := hn.at' fun o q => up₂ _ o (Ne.symm hDL) q
  have hb₂ : ∀ b o, base.get? b = some o → h₂.get? b = some o := fun b o q => up₂ b o (fun z => by rw [z, hDb] at q; cases q) (hb b o q)
  obtain ⟨haD, its, ha, hp⟩ := id hT₂
  have lenT := paired_length hp
  simp only [Array.length_toList] at lenT
  have okl := ok.len
  -- for k in range(len(tables))
  refine wpAny_execs_cons (wpAny_For (range_of (s := { s with heap := h₂, toks := tk₁ }) (base := base) (cnt := st.1.length) hk (kn (by decide)) (e.builtins ▸ hbl) hbl1 (e.globals ▸ hg) hg1 hb₂ (by omega)
    ((EvI.len (base := base) hk (kn (by decide)) (kn (by decide)) (heL ▸ hn₂) m1 ha (by omega) (e.globals ▸ hg) hg2 (e.builtins ▸ hbl) hbl2 hb₂).as (by rw [lenT])) fun s₃ I K hI hlt hr => ?_))
  obtain ⟨h₃, tk₃, rfl, keep₃⟩ := K
  replace keep₃ : ∀ b o, h₂.get? b = some o → h₃.get? b = some o := keep₃
  replace hI : h₂.get? I = none := hI
  replace hr : RangeAt h₃ I st.1.length 0 := by
    show IsRangeIter _ _ _ _ _
    simpa using hr
  have hID : I ≠ D := by rintro rfl; obtain ⟨n, q⟩ := hD₂; rw [hI] at q; cases q
  have hIL : I ≠ L := by rintro rfl; obtain ⟨o, _, _, q, _⟩ := id hn₂; rw [hI] at q; cases q
  have hIa : I ≠ a := by rintro rfl; obtain ⟨n, q⟩ := ha; rw [hI] at q; cases q
  refine loop_range (cnt := st.1.length) hh hk (kn (by decide))
    (fun j m' s' => ∃ h' tk, s' = { s with heap := h', toks := tk } ∧ (∀ b o, b ≠ L → b ≠ D → b ≠ I → h₂.get? b = some o → h'.get? b = some o) ∧ (∀ n, ¬ n = Str.ofString "k" → ¬ n = Str.ofString "total" → ¬ n = Str.ofString "guests" → m' n = m n) ∧
      TabsD D h' a st.1 ∧ ∃ dits', h'.PlainList D dits' ∧ SeatsD D h' dits'.toList ((accs ++ [seatAlone size st]) ++ ((List.range st.1.length).take j).map (seatAt size st))) ?_ ?_ ?_ hr (heL ▸ hn₂.keeps keep₃)
    ⟨h₃, tk₃, rfl, fun b o _ _ _ q => keep₃ b o q, fun _ _ _ _ => rfl, hT₂.seq (.of_keep keep₃), _, hD₂.at fun o q => keep₃ _ o q, by simpa using hA₂.seq (.of_keep keep₃)⟩
  · rintro j m' s' h' tk' ⟨h₄, tk₄, rfl, q1, q2, q3, dits', q4, q5⟩ hit hnn hk'
    replace hk' : ∀ b o, b ≠ L → b ≠ I → h₄.get? b = some o → h'.get? b = some o := heL ▸ hk'
    have kq : KeepSeq D h₄ h' := fun b o its k _ hd q => hk' b o (heL ▸ ns_not_seq hnn q hd) (hit.ne q hd) q
    exact ⟨h', tk', rfl, fun b o x1 x2 x3 q => hk' b o x1 x3 (q1 b o x1 x2 x3 q), q2, q3.seq kq, dits', q4.at fun o q => hk' _ o hDL (Ne.symm hID) q, q5.seq kq⟩
  · rintro j t m' s' hj ⟨h₄, tk₄, rfl, q1, q2, q3, dits', q4, q5⟩ hit hn'
    replace hit : RangeAt h₄ I st.1.length (j + 1) := hit
    have lenD := paired_length q5
    rw [List.length_append, List.length_append, List.length_map, List.length_take, List.length_range, Array.length_toList, List.length_singleton] at lenD
    refine wpAny_execs_cons (unpack_stmt (D := D) (k := j) (tk₀ := t) hh hk (kn (by decide)) (kn (by decide)) (kn (by decide)) (kn (by decide)) hn' (by simp [ww3, q2 _ ww3 ww2 ww1, m1]) (by simp) q3 hj ok.len (fun h₅ tk₅ t1 t2 hn₅ u₅ => ?_) (by decide) (by decide))
    rw [heL] at hn₅ u₅
    replace u₅ : Up L h₄ h₅ := u₅
    have hn₄L : h₄.Ns L _ := heL ▸ hn'
    have kq₅ : KeepSeq D h₄ h₅ := fun b o its k _ hd q => u₅ b o (ns_not_seq hn₄L q hd) q
    have hD₅ : h₅.PlainList D dits' := q4.at fun o q => u₅ _ o hDL q
    have hT₅ := q3.seq kq₅
    obtain ⟨M₅, a₅, hn₅⟩ := forget hn₅
    have f1 : M₅ "tables" = some (.ref a) := by rw [a₅]; simp [ww1, ww2, ww3, q2 _ ww3 ww2 ww1, m1]
    have f2 : M₅ "ways" = some (.int st.2 tw) := by rw [a₅]; simp [ww4, ww5, ww6, q2 _ ww6 ww5 ww4, m2]
    have f3 : M₅ "size" = some (.int size ts) := by rw [a₅]; simp [ww7, ww8, ww9, q2 _ ww9 ww8 ww7, m3]
    have f4 : M₅ "k" = some (.int (j : Int) t) := by rw [a₅]; simp [ww13, ww14]
    have f5 : M₅ "total" = some (.int (tabAt st j).1 t1) := by rw [a₅]; simp [ww15, tabAt]
    have f6 : M₅ "guests" = some (.int (tabAt st j).2 t2) := by rw [a₅]; simp [tabAt]
    have f7 : M₅ "longer" = some (.ref D) := by rw [a₅]; simp [ww10, ww11, ww12, q2 _ ww12 ww11 ww10, m4]
    have f8 : ∀ n, ¬ n = Str.ofString "k" → ¬ n = Str.ofString "total" → ¬ n = Str.ofString "guests" → M₅ n = m n := fun n x1 x2 x3 => by rw [a₅]; simp [x1, x2, x3, q2 n x1 x2 x3]
    clear a₅
    refine wpAny_execs_cons (append_stmt (s := { s with heap := h₅, toks := tk₅ }) hk (kn (by decide)) (heL ▸ hn₅) f7 hD₅ ?_ e.inter rfl rfl rfl rfl (by decide))
    refine elt_joined (D := D) (st := st) (size := size) (k := j) hk (kn (by decide)) (kn (by decide)) (kn (by decide)) (kn (by decide)) (kn (by decide)) (kn (by decide)) (heL ▸ hn₅) f1 f2 f3 f4 f5 f6 hD₅ hT₅ ok.len (ok.mul j hj) (fun v' s₆ K hv' => ?_) (by decide) (by decide) (by decide) (by decide) (by decide) (by decide)
    obtain ⟨h₆, tk₆, rfl, keep₆⟩ := K
    replace keep₆ : ∀ b o, h₅.get? b = some o → h₆.get? b = some o := keep₆
    replace hv' : SeatD D h₆ v' (seatAt size st j) := hv'
    refine ⟨dits', hD₅.at fun o q => keep₆ _ o q, by have := sizeLine_eq; omega, fun h₇ hD₇ hs₇ => wpAny_execs_nil ?_⟩
    replace hs₇ : Heap.SameBut D h₆ h₇ := hs₇
    have kq₇ : KeepSeq D h₅ h₇ := (KeepSeq.of_keep keep₆).trans (same_seq hs₇)
    have up₇ : ∀ b o, b ≠ L → b ≠ D → h₄.get? b = some o → h₇.get? b = some o := fun b o x1 x2 q => hs₇.extBut b o x2 (keep₆ b o (u₅ b o x1 q))
    refine ⟨rfl, RangeAt.keep hit fun o q => up₇ _ o hIL hID q, _, heL ▸ (hn₅.keeps keep₆).sameBut hs₇ (Ne.symm hDL), h₇, tk₆, rfl, fun b o x1 x2 x3 q => up₇ b o x1 x2 (q1 b o x1 x2 x3 q), f8, hT₅.seq kq₇, _, hD₇, ?_⟩
    · rw [map_take_snoc (seatAt size st) hj, ← List.append_assoc, Array.toList_push]
      exact paired_snoc ((q5.seq kq₅).seq kq₇) (hv'.seq (same_seq hs₇))
  · rintro m' s' hn' ⟨h₄, tk₄, rfl, q1, q2, q3, dits', q4, q5⟩
    have et : (List.range st.1.length).take st.1.length = List.range st.1.length := List.take_of_length_le (by simp)
    rw [et] at q5
    refine wpAny_execs_nil ⟨rfl, ⟨h₄, tk₄, rfl, fun b o x1 x2 q => ?_⟩, m', dits', heL ▸ hn', q2, q4, ?_⟩
    · have q' := up₂ b o x2 q
      exact q1 b o x1 x2 (fun z => by rw [z, hI] at q'; cases q') q'
    · simpa [seatStep] using q5
end
end Mine
namespace Mine
open PySem

theorem tuple_inj {h : Heap} {T : Addr} {a b c d : Value} (x : h.IsTuple T #[a, b]) (y : h.IsTuple T #[c, d]) : a = c ∧ b = d := by
  obtain ⟨o, ho, hc, n, hd⟩ := x
  obtain ⟨o', ho', hc', n', hd'⟩ := y
  rw [ho] at ho'
  cases ho'
  rw [hd] at hd'
  cases hd'
  exact ⟨rfl, rfl⟩
theorem TabD.rebase {D D' : Addr} {h : Heap} {v : Value} {r : Tab} (x : TabD D h v r) (hne : ∀ b o its k, h.get? b = some o → o.data = .seq its k → b ≠ D') : TabD D' h v r := by
  obtain ⟨T, t1, t2, e, _, q⟩ := x
  obtain ⟨o, ho, hc, n, hd⟩ := id q
  exact ⟨T, t1, t2, e, hne _ _ _ _ ho hd, q⟩
theorem TabsD.rebase {D D' a : Addr} {h : Heap} {tabs : List Tab} (x : TabsD D h a tabs) (hne : ∀ b o its k, h.get? b = some o → o.data = .seq its k → b ≠ D') : TabsD D' h a tabs := by
  obtain ⟨_, items, q, r⟩ := x
  obtain ⟨n, ho⟩ := id q
  exact ⟨hne _ _ _ _ ho rfl, items, q, paired_mono' (fun _ _ z => z.rebase hne) r⟩
theorem SeatsD.rebase {D D' : Addr} {h : Heap} {vs : List Value} {ss : List Seat} (x : SeatsD D h vs ss) (hne : ∀ b o its k, h.get? b = some o → o.data = .seq its k → b ≠ D') : SeatsD D' h vs ss := by
  refine paired_mono' (fun v st z => ?_) x
  obtain ⟨T, a, tw, e, _, q, r⟩ := z
  obtain ⟨o, ho, hc, n, hd⟩ := id q
  exact ⟨T, a, tw, e, hne _ _ _ _ ho hd, q, r.rebase hne⟩

theorem flat_part {α β : Type} (g : α → List β) (l : List α) (j : Nat) : ((l.take j).flatMap g).length ≤ (l.flatMap g).length := by
  have : l.flatMap g = (l.take j).flatMap g ++ (l.drop j).flatMap g := by rw [← List.flatMap_append, List.take_append_drop]
  rw [this, List.length_append]
  omega

theorem wy1 : ¬ (Str.ofString "size" = Str.ofString "longer") := by decide
theorem wy2 : ¬ (Str.ofString "seatings" = Str.ofString "longer") := by decide
theorem wy3 : ¬ (Str.ofString "size" = Str.ofString "ways") := by decide
theorem wy4 : ¬ (Str.ofString "size" = Str.ofString "tables") := by decide
theorem wy5 : ¬ (Str.ofString "longer" = Str.ofString "ways") := by decide
theorem wy6 : ¬ (Str.ofString "longer" = Str.ofString "tables") := by decide
theorem wy7 : ¬ (Str.ofString "tables" = Str.ofString "ways") := by decide

section
variable {prog : Program} {w : World} {A : Around} {E : Value → Shared → Prop} {s : Shared}

set_option maxHeartbeats 2000000 in
/-- all seatings grow by one guest -/
theorem worth_turn {env : Env} {L R f : Addr} {base : Heap} {ss : List Seat} {size : Int} {ts : Tok} {m : Str → Option Value} {rits : Array Value} (e : EnvFor env (stmtAt atWorths) L) (hh : A.handled = none) (N : WorthNames base f) (hb : ∀ b o, base.get? b = some o → s.heap.get? b = some o) (hLb : base.get? L = none)
    (hn : s.heap.Ns L m) (m1 : m "seatings" = some (.ref R)) (m3 : m "size" = some (.int size ts)) (hR : s.heap.PlainList R rits) (hS : SeatsD L s.heap rits.toList ss) (ok : ∀ st ∈ ss, SeatOk st) (hz : (ss.flatMap (seatStep size)).length ≤ 5000) :
    wpAny (model prog w) A (execs (forBody worthFor) env) (fun fl s₂ => fl = .next ∧ ∃ h' tk, s₂ = { s with heap := h', toks := tk } ∧ Up L s.heap h' ∧ ∃ m₂ R' rits', h'.Ns L m₂ ∧ m₂ "seatings" = some (.ref R') ∧ h'.PlainList R' rits' ∧ SeatsD L h' rits'.toList (ss.flatMap (seatStep size))) E s := by
  have hk : env.scope.kind = .function := e.kind rfl
  have kn : ∀ {n : Str} {q : NameKind}, (defScope (stmtAt atWorths)).names.lookup n = some q → env.kindOf n = some q := fun {n q} hq => by
    show env.scope.names.lookup n = _
    rw [e.scope]; exact hq
  have heL := e.locals
  have hRL : R ≠ L := plain_ne_ns hR hn
  -- longer = []
  refine wpAny_execs_cons (wpAny_Assign_Name (wpAny_List_spliced (Calls.spliced_nil ⟨Nat.zero_le _, wpAny_storeName_local (kn (by decide)) (heL ▸ hn.push _) (fun h₁ hn₁ hs₁ => ?_) (plainScope hk)⟩)))
  rw [heL] at hn₁ hs₁
  replace hs₁ : Heap.SameBut L (s.heap.push { cls := .type "list", data := .seq ([] : List Value).toArray }) h₁ := hs₁
  obtain ⟨D, hDe⟩ : ∃ D, D = s.heap.objs.size := ⟨_, rfl⟩
  have hD₀ : s.heap.get? D = none := hDe ▸ getAbove _
  have hDL : D ≠ L := hDe ▸ Nat.ne_of_gt hn.lt
  have up₁ : Up L s.heap h₁ := fun b o hb' q => hs₁.extBut b o hb' (Heap.get?_push_of_some _ q)
  have hD₁ : h₁.PlainList D #[] := ⟨0, hs₁.extBut _ _ hDL (hDe ▸ Heap.get?_push_size _ rfl)⟩
  have fresh : ∀ b o its k, s.heap.get? b = some o → o.data = .seq its k → b ≠ D := fun b o _ _ q _ z => by rw [z, hD₀] at q; cases q
  have kq₁ : KeepSeq D s.heap h₁ := fun b o its k _ hd q => up₁ b o (ns_not_seq hn q hd) q
  have hS₁ : SeatsD D h₁ rits.toList ss := (hS.rebase fresh).seq kq₁
  have hR₁ : h₁.PlainList R rits := hR.at fun o q => up₁ _ o hRL q
  have hRD : R ≠ D := by obtain ⟨n, q⟩ := hR; exact fresh _ _ _ _ q rfl
  have hDb : base.get? D = none := by
    cases q : base.get? D with
    | none => rfl
    | some o => rw [hb _ _ q] at hD₀; cases hD₀
  obtain ⟨M₁, a₁, hn₁⟩ := forget hn₁
  have b1 : M₁ "seatings" = some (.ref R) := by rw [a₁]; simp [wy2, m1]
  have b2 : M₁ "size" = some (.int size ts) := by rw [a₁]; simp [wy1, m3]
  have b3 : M₁ "longer" = some (.ref D) := by rw [a₁, hDe]; simp
  clear a₁
  have hb₁ : ∀ b o, base.get? b = some o → h₁.get? b = some o := base_up hb hLb up₁
  have lenS := paired_length hS
  -- for tables, ways in seatings
  refine wpAny_execs_cons (wpAny_For (nm hk (kn (by decide)) (heL ▸ hn₁) b1 (wpAny_pyIter_list hR₁.isList ?_)))
  dsimp only
  obtain ⟨I, hIe⟩ : ∃ I, I = h₁.objs.size := ⟨_, rfl⟩
  have hI₀ : h₁.get? I = none := hIe ▸ getAbove _
  have hIL : I ≠ L := by rintro rfl; obtain ⟨o, _, _, q, _⟩ := id hn₁; rw [hI₀] at q; cases q
  have hID : I ≠ D := by rintro rfl; obtain ⟨n, q⟩ := hD₁; rw [hI₀] at q; cases q
  have push₁ : ∀ b o, h₁.get? b = some o → (h₁.push { cls := .type "list_iterator", data := .fields #[.ref R, .int 0 0] }).get? b = some o := fun b o q => Heap.get?_push_of_some _ q
  have hit₁ : (h₁.push { cls := .type "list_iterator", data := .fields #[.ref R, .int 0 0] }).IsListIter I R 0 := ⟨_, hIe ▸ Heap.get?_push_size _ rfl, rfl, rfl⟩
  rw [← hIe]
  refine loop_pairs (vs := rits.toList) (R := R) (I := I) hh hk (kn (by decide)) (kn (by decide))
    (fun j m' s' => ∃ h' tk, s' = { s with heap := h', toks := tk } ∧ (∀ b o, b ≠ L → b ≠ D → b ≠ I → h₁.get? b = some o → h'.get? b = some o) ∧ m' "size" = some (.int size ts) ∧ m' "longer" = some (.ref D) ∧
      SeatsD D h' rits.toList ss ∧ ∃ dits, h'.PlainList D dits ∧ SeatsD D h' dits.toList ((ss.take j).flatMap (seatStep size))) ?_ ?_ ?_ ?_ ?_ hit₁ (heL ▸ hn₁.push _)
    ⟨_, _, rfl, fun b o _ _ _ q => push₁ b o q, b2, b3, hS₁.seq (.of_keep push₁), #[], hD₁.at fun o q => push₁ _ o q, .nil⟩
  · rintro j m' s' h' tk' ⟨h₄, tk₄, rfl, q1, q2, q3, q4, dits, q5, q6⟩ hit hnn hk'
    replace hk' : ∀ b o, b ≠ L → b ≠ I → h₄.get? b = some o → h'.get? b = some o := heL ▸ hk'
    have kq : KeepSeq D h₄ h' := fun b o its k _ hd q => hk' b o (heL ▸ ns_not_seq hnn q hd) (iter_not_seq hit q hd) q
    exact ⟨h', tk', rfl, fun b o x1 x2 x3 q => hk' b o x1 x3 (q1 b o x1 x2 x3 q), q2, q3, q4.seq kq, dits, q5.at fun o q => hk' _ o hDL (Ne.symm hID) q, q6.seq kq⟩
  · rintro j m' s' ⟨h₄, tk₄, rfl, q1, q2, q3, q4, dits, q5, q6⟩
    have hRI : R ≠ I := by rintro rfl; obtain ⟨n, q⟩ := hR₁; rw [hI₀] at q; cases q
    have := (hR₁.at fun o q => q1 _ o hRL hRD hRI q).isList
    simpa using this
  · rintro j m' s' v ⟨h₄, tk₄, rfl, q1, q2, q3, q4, dits, q5, q6⟩ hv
    obtain ⟨st, _, T, a, tw, ev, _, hT, _⟩ := paired_at q4 hv
    exact ⟨T, _, _, ev, hT⟩
  · rintro j T x y m' s' hv ⟨h₄, tk₄, rfl, q1, q2, q3, q4, dits, q5, q6⟩ hT hit hn'
    obtain ⟨st, hst, T', a, tw, ev, hTD, hT', hTabs⟩ := paired_at q4 hv
    cases ev
    obtain ⟨rfl, rfl⟩ := tuple_inj hT hT'
    replace hit : h₄.IsListIter I R (j + 1) := hit
    have old₄ : ∀ b o, base.get? b = some o → h₄.get? b = some o := fun b o q => q1 b o (fun z => by rw [z, hLb] at q; cases q) (fun z => by rw [z, hDb] at q; cases q) (fun z => by have := hb₁ b o q; rw [z, hI₀] at this; cases this) (hb₁ b o q)
    have hpart := flat_part (seatStep size) ss j
    refine wpAny_mono (seat_turn (s := { s with heap := h₄, toks := tk₄ }) (a := a) (st := st) (size := size) (tw := tw) (ts := ts) e hh N old₄ hLb hDb (heL ▸ hn') (by simp [wy7]) (by simp) (by simp [wy3, wy4, q2]) (by simp [wy5, wy6, q3]) hDL q5 q6 hTabs (ok st (List.mem_of_getElem? hst)) (by omega)) (fun fl s₅ hf => ?_) fun _ _ q => q
    obtain ⟨rfl, ⟨h₅, tk₅, rfl, k₅⟩, m₅, dits', p1, p2, p3, p4⟩ := hf
    replace k₅ : ∀ b o, b ≠ L → b ≠ D → h₄.get? b = some o → h₅.get? b = some o := k₅
    have hn₄L : h₄.Ns L _ := heL ▸ hn'
    have kq₅ : KeepSeq D h₄ h₅ := fun b o its k hbD hd q => k₅ b o (ns_not_seq hn₄L q hd) hbD q
    refine ⟨rfl, iter_keeps hit fun o q => k₅ _ o hIL hID q, m₅, heL ▸ p1, h₅, tk₅, rfl, fun b o x1 x2 x3 q => k₅ b o x1 x2 (q1 b o x1 x2 x3 q), ?_, ?_, q4.seq kq₅, dits', p3, ?_⟩
    · rw [p2 _ ww9 ww8 ww7]; simp [wy3, wy4, q2]
    · rw [p2 _ ww12 ww11 ww10]; simp [wy5, wy6, q3]
    · rw [flat_take hst]; exact p4
  · rintro m' s' hn' ⟨h₄, tk₄, rfl, q1, q2, q3, q4, dits, q5, q6⟩
    rw [lenS, List.take_of_length_le (Nat.le_refl _)] at q6
    show wpAny _ _ (execs _ env) _ _ _
    refine wpAny_execs_cons (wpAny_Assign_Name (nm hk (kn (by decide)) hn' q3 (wpAny_storeName_local (kn (by decide)) hn' (fun h₅ hn₅ hs₅ => wpAny_execs_nil ?_) (plainScope hk))))
    rw [heL] at hn₅ hs₅
    replace hs₅ : Heap.SameBut L h₄ h₅ := hs₅
    have hn₄L : h₄.Ns L m' := heL ▸ hn'
    refine ⟨rfl, h₅, _, rfl, fun b o x1 q => ?_, _, D, dits, hn₅, by simp, q5.at fun o q => hs₅.extBut _ o hDL q, ?_⟩
    · have q' := up₁ b o x1 q
      exact hs₅.extBut b o x1 (q1 b o x1 (fun z => by rw [z, hD₀] at q; cases q) (fun z => by rw [z, hI₀] at q'; cases q') q')
    · exact (q6.rebase fun b o its k q hd => ns_not_seq hn₄L q hd).seq (same_seq hs₅)
end
end Mine
namespace Mine
open PySem

theorem ints_set : ∀ {vs : List Value} {ns : List Int}, IntsAre vs ns → ∀ (k : Nat) (n : Int) (t : Tok), IntsAre (vs.set k (.int n t)) (ns.set k n)
  | _, _, .nil, _, _, _ => .nil
  | _, _, .cons _ _ r, 0, n, t => .cons n t r
  | _, _, .cons a u r, k + 1, n, t => .cons a u (ints_set r k n t)

section
variable {prog : Program} {w : World} {A : Around} {E : Value → Shared → Prop} {s : Shared}

set_option maxHeartbeats 1000000 in
/-- [elt for n1, n2 in a list of pairs], ints -/
theorem comp_pairs {env : Env} {elt iter : Expr} {scope : Scope} {cl : List (Str × Addr)} {pos p1 p2 p4 : Pos} {kk : Nat} {n1 n2 : Str} {vs : List Value} {g : Nat → Int} {Q : Value → Shared → Prop}
    (hh : A.handled = none) (hclos : closureFor scope env = pure cl) (hcell : ∀ x ∈ scope.names, x.2 ≠ .cell) (hkind : scope.kind = .function) (hnames : ∀ x ∈ scope.names, x.2 = .local → scope.names.lookup x.1 = some .local)
    (k1 : scope.names.lookup n1 = some .local) (k2 : scope.names.lookup n2 = some .local) (hz : vs.length ≤ 1000)
    (h1 : wpAny (model prog w) A (eval iter env) (fun v s₁ => ∃ l, v = .ref l ∧ s₁.heap.IsList l vs.toArray ∧ Keeps s s₁) E s)
    (hT : ∀ (j : Nat) (v : Value), vs[j]? = some v → ∃ T x y, v = Value.ref T ∧ s.heap.IsTuple T #[x, y])
    (helt : ∀ (C : Addr) (j : Nat) (T : Addr) (x y : Value) (s₃ : Shared) (m₃ : Str → Option Value) (E' : Value → Shared → Prop), vs[j]? = some (Value.ref T) → s.heap.IsTuple T #[x, y] → (∀ b o, s.heap.get? b = some o → s₃.heap.get? b = some o) → s₃.heap.Ns C (fun z => if z = n2 then some y else if z = n1 then some x else m₃ z) →
      wpAny (model prog w) A (eval elt (compEnvC scope cl C env)) (fun v s₄ => (∃ t, v = .int (g j) t) ∧ Keeps s₃ s₄) E' s₃)
    (h : ∀ D s' items, Keeps s s' → s.heap.get? D = none → s'.heap.PlainList D items → IntsAre items.toList ((List.range vs.length).map g) → Q (.ref D) s')
    (hs : ∀ x, foldedSetIterable iter env x = pure x := by intro _; rfl) :
    wpAny (model prog w) A (eval (.ListComp elt [⟨.Tuple [.Name n1 p1, .Name n2 p2] kk p4, iter, [], 0⟩] scope pos) env) Q E s := by
  rw [eval_ListComp]
  refine comp_coreC (use := none) hclos hcell hkind hnames (wpAny_mono h1 (fun v s₁ hv => ?_) fun _ _ e => e) hs
  obtain ⟨l, rfl, hL, ⟨h₁, tk₁, rfl, keep₁⟩⟩ := hv
  replace hL : h₁.IsList l vs.toArray := hL
  refine wpAny_pyIter_list hL fun h₂ tk₂ up₂' hD₂ hn₂ => ?_
  obtain ⟨I, hI⟩ : ∃ I : Nat, I = h₁.objs.size := ⟨_, rfl⟩
  have e1 : (h₁.push { cls := .type "list_iterator", data := .fields #[.ref l, .int 0 0] }).objs.size = I + 1 := by rw [Heap.size_push, hI]
  dsimp only at up₂' hD₂ hn₂ ⊢
  rw [e1] at hD₂ hn₂ ⊢
  rw [← hI]
  have lt1 : ∀ (b : Nat) (o : Obj), h₁.get? b = some o → b < I := fun b o q => hI ▸ Heap.lt_size q
  have up₂ : ∀ b o, h₁.get? b = some o → h₂.get? b = some o := fun b o q => up₂' b o (Heap.get?_push_of_some _ q)
  have hit₂ : h₂.IsListIter I l 0 := ⟨_, up₂' _ _ (hI ▸ Heap.get?_push_size _ rfl), rfl, rfl⟩
  refine ⟨wpAny_pyIter_listiter hit₂ ⟨rfl, rfl⟩, ?_⟩
  have fresh : ∀ (a : Nat), I ≤ a → s.heap.get? a = none := fun a ha => by
    cases q : s.heap.get? a with
    | none => rfl
    | some o => exact absurd (lt1 _ _ (keep₁ _ _ q)) (by omega)
  refine compLoop_any (fun k s' => ∃ j h' tk m' items, k = vs.length + 1 - j ∧ j ≤ vs.length ∧ s' = { s with heap := h', toks := tk } ∧ (∀ b o, h₁.get? b = some o → h'.get? b = some o) ∧ h'.IsListIter I l j ∧ h'.Ns (I + 1 + 1) m' ∧
    h'.PlainList (I + 1) items ∧ IntsAre items.toList (((List.range vs.length).take j).map g)) ?_ (vs.length + 1) ⟨0, h₂, tk₂, _, #[], rfl, Nat.zero_le _, rfl, up₂, hit₂, hn₂, hD₂, by simpa using IntsAre.nil⟩
  rintro k s' ⟨j, h', tk, m', items, rfl, hj, rfl, keep', hit', hn', hD', hG'⟩
  have hL' : h'.IsList l vs.toArray := by
    obtain ⟨q, hq, r⟩ := hL
    exact ⟨q, keep' _ _ hq, r⟩
  cases hv : vs[j]? with
  | none =>
    have hje : j = vs.length := Nat.le_antisymm hj (by simpa using hv)
    subst hje
    refine wpAny_pyNext_list_end hh hit' hL' (by simp) fun h₃ hx₃ => ?_
    replace hx₃ : Heap.ExtBut I h' h₃ := hx₃
    have hn₃ : h₃.Ns (I + 1 + 1) m' := hn'.at' fun o q => hx₃ _ o (nb (by omega)) q
    rw [List.take_of_length_le (by simp)] at hG'
    refine ⟨rfl, m', hn₃, fun h₄ hs₄ => ?_⟩
    replace hs₄ : Heap.SameBut (I + 1 + 1) h₃ h₄ := hs₄
    refine h (I + 1) _ items ⟨h₄, tk, rfl, fun b o q => ?_⟩ (fresh _ (by omega)) ((hD'.at fun o q => hx₃ _ o (nb (by omega)) q).at fun o q => hs₄.extBut _ o (na (by omega)) q) hG'
    have q₁ := keep₁ b o q
    have := lt1 b o q₁
    exact hs₄.extBut b o (na (by omega)) (hx₃ b o (na (by omega)) (keep' b o q₁))
  | some v =>
    have hlt : j < vs.length := (List.getElem?_eq_some_iff.mp hv).1
    obtain ⟨T, x, y, rfl, hTT⟩ := hT j v hv
    obtain ⟨oT, hoT, hcT, nT, hdT⟩ := id hTT
    have hTlt := lt1 _ _ (keep₁ _ _ hoT)
    refine wpAny_pyNext_list_item hit' hL' (by simpa using hv) fun h₃ hit₃ hs₃ => ?_
    replace hs₃ : Heap.SameBut I h' h₃ := hs₃
    have hn₃ : h₃.Ns (I + 1 + 1) m' := hn'.at' fun o q => hs₃.extBut _ o (nb (by omega)) q
    have hT₃ : h₃.IsTuple T #[x, y] := ⟨oT, hs₃.extBut _ _ (na hTlt) (keep' _ _ (keep₁ _ _ hoT)), hcT, nT, hdT⟩
    refine wpAny_letOwnedTupleGo_listiter hit₃ ?_
    refine wpAny_assign_Tuple hh hT₃ rfl rfl fun h₄ hx₄ => ?_
    replace hx₄ : Heap.ExtBut h₃.objs.size h₃ h₄ := hx₄
    have up₄ : ∀ b o, h₃.get? b = some o → h₄.get? b = some o := fun b o q => hx₄ b o (Nat.ne_of_lt (Heap.lt_size q)) q
    have hn₄ : h₄.Ns (I + 1 + 1) m' := hn₃.keeps up₄
    have ckind : (compEnvC scope cl (I + 1 + 1) env).scope.kind = .function := hkind
    show wpAny _ _ (do holding [y] (assign (.Name n1 _) _ x); do holding [] (assign (.Name n2 _) _ y); pure ()) _ _ _
    refine wpAny_bind (wpAny_holding (wpAny_assign_Name (wpAny_storeName_local (relabel_local k1) hn₄ (fun h₅ hn₅ hs₅ => ?_) (plainScope ckind))))
    replace hs₅ : Heap.SameBut (I + 1 + 1) h₄ h₅ := hs₅
    refine wpAny_bind (wpAny_holding (wpAny_assign_Name (wpAny_storeName_local (relabel_local k2) hn₅ (fun h₆ hn₆ hs₆ => wpAny_pure ?_) (plainScope ckind))))
    replace hs₆ : Heap.SameBut (I + 1 + 1) h₅ h₆ := hs₆
    have up₆ : ∀ b o, b ≠ I + 1 + 1 → h₃.get? b = some o → h₆.get? b = some o := fun b o hb q => hs₆.extBut b o hb (hs₅.extBut b o hb (up₄ b o q))
    have old₆ : ∀ b o, h₁.get? b = some o → h₆.get? b = some o := fun b o q => up₆ b o (na (by have := lt1 b o q; omega)) (hs₃.extBut b o (na (lt1 b o q)) (keep' b o q))
    refine wpAny_tests_nil ?_
    rw [if_pos rfl]
    refine wpAny_mono (helt (I + 1 + 1) j T x y _ _ _ hv hTT (fun b o q => old₆ b o (keep₁ b o q)) hn₆) (fun v' s₇ hv' => ?_) fun _ _ q => q
    obtain ⟨⟨t, rfl⟩, ⟨h₇, tk₇, rfl, keep₇⟩⟩ := hv'
    replace keep₇ : ∀ b o, h₆.get? b = some o → h₇.get? b = some o := keep₇
    have hD₇ : h₇.PlainList (I + 1) items := hD'.at fun o q => keep₇ _ o (up₆ _ o (na (by omega)) (hs₃.extBut _ o (nb (by omega)) q))
    refine wpAny_list_append_plain hD₇ (fun h₈ hD₈ hs₈ => ?_) ?_
    · replace hs₈ : Heap.SameBut (I + 1) h₇ h₈ := hs₈
      refine ⟨vs.length + 1 - (j + 1), by omega, j + 1, h₈, _, _, _, rfl, hlt, rfl, fun b o q => hs₈.extBut b o (na (by have := lt1 b o q; omega)) (keep₇ b o (old₆ b o q)), ?_, (hn₆.keeps keep₇).sameBut hs₈ (nb (show I + 1 < I + 1 + 1 by omega)), hD₈, ?_⟩
      · obtain ⟨o, ho, q⟩ := hit₃
        exact ⟨o, hs₈.extBut _ o (na (by omega)) (keep₇ _ _ (up₆ _ o (na (by omega)) ho)), q⟩
      · rw [map_take_snoc g hlt, Array.toList_push]
        exact hG'.append (.cons _ _ .nil)
    · have h2 := hG'.length
      rw [List.length_map, List.length_take, List.length_range] at h2
      have h3 : items.toList.length = items.size := by simp
      have := sizeLine_eq; omega
end
end Mine
namespace Mine
open PySem

def upN (n : Int) : Int := if n > 0 then n else 0
def worthIx (st : Seat) : Int := (st.1.map fun r => upN r.1).sum
def tallyStep (tl : List Int) (st : Seat) : List Int := tl.set (worthIx st).toNat (tl.getD (worthIx st).toNat 0 + st.2)
def seatsOf (sizes : List Int) : List Seat := sizes.foldl (fun ss size => ss.flatMap (seatStep size)) [([], 1)]
def zero9 : List Int := (List.replicate (9 : Int).toNat [0]).flatten
/-- what _law_worths_of_seatings gives -/
def worthsOf (sizes : List Int) : List Int := (seatsOf sizes).foldl tallyStep zero9

structure WorthOk (sizes : List Int) : Prop where
  len : sizes.length ≤ 100
  ok : ∀ j, j ≤ sizes.length → (∀ st ∈ seatsOf (sizes.take j), SeatOk st) ∧ (seatsOf (sizes.take j)).length ≤ 5000
  ix : ∀ st ∈ seatsOf sizes, 0 ≤ worthIx st ∧ worthIx st < 9

theorem tallyStep_len (tl : List Int) (st : Seat) : (tallyStep tl st).length = tl.length := by simp [tallyStep]
theorem tally_len (ss : List Seat) : ∀ tl : List Int, (ss.foldl tallyStep tl).length = tl.length := by
  induction ss with
  | nil => intro tl; rfl
  | cons st ss ih => intro tl; rw [List.foldl_cons, ih, tallyStep_len]
theorem range_get {α β : Type} (f : α → β) (d : α) (l : List α) : (List.range l.length).map (fun j => f (l.getD j d)) = l.map f := by
  apply List.ext_getElem?
  intro i
  rw [List.getElem?_map, List.getElem?_map]
  by_cases h : i < l.length
  · rw [List.getElem?_range h, List.getElem?_eq_getElem h]
    simp [List.getD_eq_getElem?_getD, List.getElem?_eq_getElem h]
  · rw [List.getElem?_eq_none (l := List.range l.length) (by simp; omega), List.getElem?_eq_none (l := l) (by omega)]
    rfl
theorem seatsOf_take {sizes : List Int} {j : Nat} {v : Int} (h : sizes[j]? = some v) : seatsOf (sizes.take (j + 1)) = (seatsOf (sizes.take j)).flatMap (seatStep v) := by
  unfold seatsOf
  have : sizes.take (j + 1) = sizes.take j ++ [v] := by rw [List.take_add_one, h]; rfl
  rw [this, List.foldl_append]
  rfl

theorem wz1 : ¬ (Str.ofString "tally" = Str.ofString "ways") := by decide
theorem wz2 : ¬ (Str.ofString "tally" = Str.ofString "tables") := by decide
theorem wz3 : ¬ (Str.ofString "sizes" = Str.ofString "seatings") := by decide
theorem wz4 : ¬ (Str.ofString "seatings" = Str.ofString "size") := by decide
theorem wz5 : ¬ (Str.ofString "seatings" = Str.ofString "tally") := by decide

def tallyFor : Stmt := nthS (defBody (stmtAt atWorths)) 3

section
variable {prog : Program} {w : World} {A : Around} {E : Value → Shared → Prop} {s : Shared}

set_option maxHeartbeats 1000000 in
/-- tally[sum([max(0, total) for total, guests in tables])] += ways -/
theorem tally_turn {env : Env} {L a f Ta : Addr} {base : Heap} {st : Seat} {tl : List Int} {tw : Tok} {m : Str → Option Value} (e : EnvFor env (stmtAt atWorths) L) (hh : A.handled = none) (N : WorthNames base f) (hb : ∀ b o, base.get? b = some o → s.heap.get? b = some o)
    (hn : s.heap.Ns L m) (m1 : m "tables" = some (.ref a)) (m2 : m "ways" = some (.int st.2 tw)) (m3 : m "tally" = some (.ref Ta)) (hT : TabsD Ta s.heap a st.1) (ok : st.1.length ≤ 100) (hl : IntsIn s.heap Ta tl) (len : tl.length = 9) (i0 : 0 ≤ worthIx st) (i9 : worthIx st < 9) (hTL : Ta ≠ L) :
    wpAny (model prog w) A (execs (forBody tallyFor) env) (fun fl s₂ => fl = .next ∧ ∃ h' tk, s₂ = { s with heap := h', toks := tk } ∧ (∀ b o, b ≠ Ta → s.heap.get? b = some o → h'.get? b = some o) ∧ h'.Ns L m ∧ IntsIn h' Ta (tallyStep tl st)) E s := by
  have hk : env.scope.kind = .function := e.kind rfl
  have kn : ∀ {n : Str} {q : NameKind}, (defScope (stmtAt atWorths)).names.lookup n = some q → env.kindOf n = some q := fun {n q} hq => by
    show env.scope.names.lookup n = _
    rw [e.scope]; exact hq
  obtain ⟨mg, hg, hg1, hg2, hg3, hg4⟩ := N.glob
  obtain ⟨mb, hbl, hbl1, hbl2, hbl3, hbl4⟩ := N.blt
  have hnE : s.heap.Ns env.locals m := e.locals ▸ hn
  obtain ⟨haD, its, ha, hp⟩ := hT
  have lenT := paired_length hp
  simp only [Array.length_toList] at lenT
  refine wpAny_execs_cons (wpAny_AugAssign_Subscript_any (nm hk (kn (by decide)) hnE m3 ?_))
  refine Call_Name1 (Calls.Name_function_global hk (kn (by decide)) (Calls.loadGlobal_builtin (e.globals ▸ hg.keeps hb) hg3 (e.builtins ▸ hbl.keeps hb) hbl3 (Calls.callWith_builtin rfl (Calls.evalArgs_plain (Calls.spliced_cons ?_)))))
  refine comp_pairs (vs := its.toList) (cl := []) (g := fun j => upN (tabAt st j).1) (n1 := "total") (n2 := "guests") hh (closureFor_none (by decide)) (by decide) rfl (by decide) (by decide) (by decide) (by simp; omega)
    (nm hk (kn (by decide)) hnE m1 ⟨a, rfl, by simpa using ha.isList, s.heap, s.toks, rfl, fun _ _ q => q⟩) ?_ ?_ ?_
  · intro j v hv
    obtain ⟨r, _, T, t1, t2, ev, _, hTT⟩ := paired_at hp hv
    exact ⟨T, _, _, ev, hTT⟩
  · intro C j T x y s₃ m₃ E' hv hTT keep₃ hn₃
    obtain ⟨r, hr, T', t1, t2, ev, _, hT'⟩ := paired_at hp hv
    cases ev
    obtain ⟨rfl, rfl⟩ := tuple_inj hTT hT'
    have htab : tabAt st j = r := by
      unfold tabAt
      rw [List.getD_eq_getElem?_getD, hr]
      rfl
    have hb₃ : ∀ b o, base.get? b = some o → s₃.heap.get? b = some o := fun b o q => keep₃ b o (hb b o q)
    refine Call_Name2 ?_
    refine Calls.Name_function_global rfl (relabel_global (by decide)) (Calls.loadGlobal_builtin (e.globals ▸ hg.keeps hb₃) hg4 (e.builtins ▸ hbl.keeps hb₃) hbl4 ?_)
    refine Calls.callWith_builtin rfl (Calls.evalArgs_plain (Calls.spliced_cons (wpAny_Constant_int (Calls.spliced_cons ?_))))
    refine nm rfl (relabel_local (by decide)) hn₃ (v := .int r.1 t1) (by simp [ww15]) (Calls.spliced_nil ?_)
    refine max_two_ints hh fun h₄ tk₄ keep₄ => ?_
    refine ⟨?_, h₄, tk₄, rfl, keep₄⟩
    rw [htab]
    unfold upN
    by_cases hc : r.1 > 0
    · exact ⟨t1, by rw [if_pos hc, if_pos hc]⟩
    · exact ⟨_, by rw [if_neg hc, if_neg hc]⟩
  · intro D s₁ items K hD hpl hi
    obtain ⟨h₁, tk₁, rfl, keep₁⟩ := K
    replace keep₁ : ∀ b o, s.heap.get? b = some o → h₁.get? b = some o := keep₁
    have esum : (List.range its.toList.length).map (fun j => upN (tabAt st j).1) = st.1.map fun r => upN r.1 := by
      rw [Array.length_toList, lenT]
      exact range_get (fun r : Tab => upN r.1) (0, 0) st.1
    rw [esum] at hi
    refine Calls.spliced_nil (sum_keep hh ⟨_, hpl.isList, hi⟩ fun h₂ tk₂ t₂ keep₂ => ?_)
    replace keep₂ : ∀ b o, h₁.get? b = some o → h₂.get? b = some o := keep₂
    have up₂ : ∀ b o, s.heap.get? b = some o → h₂.get? b = some o := fun b o q => keep₂ b o (keep₁ b o q)
    obtain ⟨vs, hL, hvs⟩ := hl.keeps fun o q => up₂ _ o q
    have eix : (st.1.map fun r => upN r.1).sum = worthIx st := rfl
    have hlt : (worthIx st).toNat < tl.length := by omega
    obtain ⟨tx, hx⟩ := hvs.get (worthIx st).toNat tl[(worthIx st).toNat] (List.getElem?_eq_getElem hlt)
    have hvl := hvs.length
    rw [eix]
    refine wpAny_getItem_list hL i0 (by omega) (by simpa using hx) ?_
    have hn₂ : h₂.Ns L m := hn.keeps up₂
    refine nm hk (kn (by decide)) (e.locals ▸ hn₂) m2 (wpAny_iadd_int ?_)
    refine wpAny_setItem_list (hL) i0 (by omega) (by simp; omega) fun h₃ hL₃ hs₃ => wpAny_execs_nil ?_
    replace hs₃ : Heap.SameBut Ta h₂ h₃ := hs₃
    refine ⟨rfl, h₃, _, rfl, fun b o hbT q => hs₃.extBut b o hbT (up₂ b o q), hn₂.sameBut hs₃ (Ne.symm hTL), vs.set (worthIx st).toNat (.int (tl[(worthIx st).toNat] + st.2) tk₂), ?_, ?_⟩
    · simpa using hL₃
    · unfold tallyStep
      rw [List.getD_eq_getElem?_getD, List.getElem?_eq_getElem hlt]
      exact ints_set hvs _ _ _
end
end Mine
namespace Mine
open PySem

section
variable {prog : Program} {w : World} {A : Around} {E : Value → Shared → Prop} {s : Shared}

set_option maxHeartbeats 4000000 in
theorem call_worths {base : Heap} {f l : Addr} {sizes : List Int} {Q : Value → Shared → Prop} (N : WorthNames base f) (hh : A.handled = none) (hroom : A.depth < recursionLimit)
    (hb : ∀ b o, base.get? b = some o → s.heap.get? b = some o) (hl : IntsIn s.heap l sizes) (ok : WorthOk sizes)
    (h : ∀ T s', Keeps s s' → IntsIn s'.heap T (worthsOf sizes) → Q (.ref T) s') : wpAny (model prog w) A (call (.ref f) [.ref l]) Q E s := by
  refine enterDefs (binds := [("sizes", .ref l)]) hroom N.def_ N.lim hb ?_ (by decide) ?_ rfl rfl rfl fun env h₁ e1 e2 e3 e4 e5 hn hk₁ => ?_
  · rintro ⟨name, qualname, params, body, scope, globals, closure, defaults, kwdefaults, doc, pyModule, anns, code, closureTuple, builtins⟩ h1 h2 h3
    dsimp only at h1 h2 h3
    subst h1 h2 h3
    rfl
  · intro y hy
    rcases List.mem_cons.mp hy with rfl | hy
    · show (defScope (stmtAt atWorths)).names.lookup (Str.ofString "sizes") = _; decide
    cases hy
  have e : EnvFor env (stmtAt atWorths) s.heap.objs.size := ⟨e1, e2, e3, e4, e5⟩
  have hk : env.scope.kind = .function := e.kind rfl
  have kn : ∀ {n : Str} {q : NameKind}, (defScope (stmtAt atWorths)).names.lookup n = some q → env.kindOf n = some q := fun {n q} hq => by
    show env.scope.names.lookup n = _
    rw [e.scope]; exact hq
  have hh' : (A.deeper env).handled = none := hh
  obtain ⟨L, hL⟩ : ∃ L, L = s.heap.objs.size := ⟨_, rfl⟩
  have hLs : s.heap.get? L = none := hL ▸ getAbove _
  rw [← hL] at e hn
  have heL := e.locals
  have hLb : base.get? L = none := by
    cases q : base.get? L with
    | none => rfl
    | some o => rw [hb _ _ q] at hLs; cases hLs
  obtain ⟨M₁, a₁, hn₁⟩ := forget hn
  have b1 : M₁ "sizes" = some (.ref l) := by rw [a₁]; rfl
  clear a₁
  have neL : ∀ {b o}, s.heap.get? b = some o → b ≠ L := fun q z => by rw [z, hLs] at q; cases q
  -- seatings = [([], 1)]
  refine wpAny_execs_cons (wpAny_Assign_Name (wpAny_List_spliced (spliced_more (pairOf (wpAny_List_spliced (Calls.spliced_nil ⟨Nat.zero_le _, wpAny_Constant_int (Calls.spliced_nil ⟨by show 1 ≤ sizeLine; decide, ?_⟩)⟩))))))
  dsimp only
  obtain ⟨a0, ea0⟩ : ∃ a : Addr, a = h₁.objs.size := ⟨_, rfl⟩
  obtain ⟨H1, eH1⟩ : ∃ H, H = h₁.push { cls := .type "list", data := .seq ([] : List Value).toArray } := ⟨_, rfl⟩
  have p1 : H1.PlainList a0 #[] := eH1 ▸ ea0 ▸ ⟨0, Heap.get?_push_size _ rfl⟩
  have kp1 : ∀ b o, h₁.get? b = some o → H1.get? b = some o := fun b o q => eH1 ▸ Heap.get?_push_of_some _ q
  rw [← eH1, ← ea0]
  obtain ⟨T0, eT0⟩ : ∃ a : Addr, a = H1.objs.size := ⟨_, rfl⟩
  obtain ⟨tw0, etw0⟩ : ∃ t : Tok, t = s.toks + [(Str.ofString "sizes", Value.ref l)].length := ⟨_, rfl⟩
  obtain ⟨H2, eH2⟩ : ∃ H, H = H1.push { cls := .type "tuple", data := .seq #[.ref a0, .int 1 tw0] } := ⟨_, rfl⟩
  have p2 : H2.IsTuple T0 #[.ref a0, .int 1 tw0] := eH2 ▸ eT0 ▸ push_tuple
  have kp2 : ∀ b o, H1.get? b = some o → H2.get? b = some o := fun b o q => eH2 ▸ Heap.get?_push_of_some _ q
  rw [← etw0, ← eH2, ← eT0]
  have hn2 : H2.Ns L M₁ := (hn₁.keeps kp1).keeps kp2
  refine wpAny_storeName_local (kn (by decide)) (heL ▸ hn2.push _) (fun h₂ hn₂ hs₂ => ?_) (plainScope hk)
  rw [heL] at hn₂ hs₂
  replace hs₂ : Heap.SameBut L (H2.push { cls := .type "list", data := .seq ([Value.ref T0] : List Value).toArray }) h₂ := hs₂
  have up₂ : Up L H2 h₂ := fun b o hb' q => hs₂.extBut b o hb' (Heap.get?_push_of_some _ q)
  have kq₂ : KeepSeq L H2 h₂ := fun b o its k hbL hd q => up₂ b o hbL q
  have hn1 : H1.Ns L M₁ := hn₁.keeps kp1
  have a0L : a0 ≠ L := plain_ne_ns p1 hn1
  have T0L : T0 ≠ L := by obtain ⟨o, ho, hc, n, hd⟩ := id p2; exact ns_not_seq hn2 ho hd
  obtain ⟨R0, eR0⟩ : ∃ a : Addr, a = H2.objs.size := ⟨_, rfl⟩
  have R0L : R0 ≠ L := eR0 ▸ Nat.ne_of_gt hn2.lt
  have hR₂ : h₂.PlainList R0 #[.ref T0] := ⟨0, hs₂.extBut _ _ R0L (eR0 ▸ Heap.get?_push_size _ rfl)⟩
  have hS₂ : SeatsD L h₂ [.ref T0] (seatsOf []) := .cons ⟨T0, a0, tw0, rfl, T0L, tuple_seq p2 T0L kq₂, a0L, #[], plain_seq (p1.at fun o q => kp2 _ o q) a0L kq₂, .nil⟩ .nil
  have old₂ : ∀ b o, s.heap.get? b = some o → h₂.get? b = some o := fun b o q => up₂ b o (neL q) (kp2 b o (kp1 b o (hk₁ b o q)))
  obtain ⟨M₂, a₂, hn₂⟩ := forget hn₂
  have c1 : M₂ "sizes" = some (.ref l) := by rw [a₂]; simp [wz3, b1]
  have c2 : M₂ "seatings" = some (.ref R0) := by rw [a₂, eR0]; simp
  clear a₂
  -- for size in sizes
  have hl₂ : IntsIn h₂ l sizes := hl.keeps fun o q => old₂ _ o q
  obtain ⟨vs, hL₂, hvs⟩ := id hl₂
  refine wpAny_execs_cons (wpAny_For (nm hk (kn (by decide)) (heL ▸ hn₂) c1 (wpAny_pyIter_list hL₂ ?_)))
  dsimp only
  obtain ⟨I, hIe⟩ : ∃ I : Addr, I = h₂.objs.size := ⟨_, rfl⟩
  have hI₀ : h₂.get? I = none := hIe ▸ getAbove _
  have neI : ∀ {b o}, s.heap.get? b = some o → b ≠ I := fun {b o} q z => by have := old₂ b o q; rw [z, hI₀] at this; cases this
  have push₂ : ∀ b o, h₂.get? b = some o → (h₂.push { cls := .type "list_iterator", data := .fields #[.ref l, .int 0 0] }).get? b = some o := fun b o q => Heap.get?_push_of_some _ q
  have hit₂ : (h₂.push { cls := .type "list_iterator", data := .fields #[.ref l, .int 0 0] }).IsListIter I l 0 := ⟨_, hIe ▸ Heap.get?_push_size _ rfl, rfl, rfl⟩
  rw [← hIe]
  refine loop_ints (ns := sizes) (l := l) (I := I) hh' hk (kn (by decide))
    (fun j m' s' => ∃ h' tk, s' = { s with heap := h', toks := tk } ∧ (∀ b o, s.heap.get? b = some o → h'.get? b = some o) ∧ ∃ R rits, m' "seatings" = some (.ref R) ∧ h'.PlainList R rits ∧ SeatsD L h' rits.toList (seatsOf (sizes.take j)))
    ?_ ?_ ?_ ?_ hit₂ (heL ▸ hn₂.push _) ⟨_, _, rfl, fun b o q => push₂ b o (old₂ b o q), R0, _, c2, hR₂.at fun o q => push₂ _ o q, hS₂.seq (.of_keep push₂)⟩
  · rintro j m' s' h' tk' ⟨h₄, tk₄, rfl, q1, R, rits, q2, q3, q4⟩ hit hnn hk'
    replace hk' : ∀ b o, b ≠ L → b ≠ I → h₄.get? b = some o → h'.get? b = some o := heL ▸ hk'
    have kq : KeepSeq L h₄ h' := fun b o its k hbL hd q => hk' b o hbL (iter_not_seq hit q hd) q
    exact ⟨h', tk', rfl, fun b o q => hk' b o (neL q) (neI q) (q1 b o q), R, rits, q2, plain_seq q3 (plain_ne_ns q3 (heL ▸ hnn)) kq, q4.seq kq⟩
  · rintro j m' s' ⟨h₄, tk₄, rfl, q1, _⟩
    exact hl.keeps fun o q => q1 _ o q
  · rintro j v t m' s' hv ⟨h₄, tk₄, rfl, q1, R, rits, q2, q3, q4⟩ hit hn'
    have hj : j < sizes.length := (List.getElem?_eq_some_iff.mp hv).1
    replace hit : h₄.IsListIter I l (j + 1) := hit
    have hIL : I ≠ L := iter_ne_ns hit (heL ▸ hn')
    have hnext := seatsOf_take hv
    refine wpAny_mono (worth_turn (s := { s with heap := h₄, toks := tk₄ }) (size := v) (ts := t) e hh' N (fun b o q => q1 b o (hb b o q)) hLb (heL ▸ hn') (by simp [wz4, q2]) (by simp) q3 q4 (ok.ok j (by omega)).1 (by rw [← hnext]; exact (ok.ok (j + 1) (by omega)).2)) (fun fl s₅ hf => ?_) fun _ _ q => q
    obtain ⟨rfl, h₅, tk₅, rfl, u₅, m₅, R', rits', r1, r2, r3, r4⟩ := hf
    replace u₅ : Up L h₄ h₅ := u₅
    refine ⟨rfl, iter_keeps hit fun o q => u₅ _ o hIL q, m₅, heL ▸ r1, h₅, tk₅, rfl, fun b o q => u₅ b o (neL q) (q1 b o q), R', rits', r2, r3, ?_⟩
    rw [hnext]; exact r4
  · rintro m' s' hn' ⟨h₄, tk₄, rfl, q1, R, rits, q2, q3, q4⟩
    rw [List.take_length] at q4
    obtain ⟨ss, hss⟩ : ∃ ss, ss = seatsOf sizes := ⟨_, rfl⟩
    have hok := ok.ok sizes.length (Nat.le_refl _)
    have hix := ok.ix
    rw [List.take_length] at hok
    have hw : worthsOf sizes = ss.foldl tallyStep zero9 := by rw [hss]; rfl
    rw [← hss] at q4 hok hix
    rw [hw] at h
    show wpAny _ _ (execs _ env) _ _ _
    replace hn' : h₄.Ns L m' := heL ▸ hn'
    -- tally = [0] * 9
    refine wpAny_execs_cons (wpAny_Assign_Name (wpAny_BinOp (wpAny_List_spliced (ints_spliced (.cons oneC .nil) rfl fun zs tkz hzs => ⟨?_, ?_⟩))))
    · have := hzs.length; have := sizeLine_eq; simp at *; omega
    have hzl := hzs.length
    refine wpAny_Constant_int (mul_keep (items := zs.toArray) (x := 9) ⟨0, Heap.get?_push_size _ rfl⟩ ?_ (by decide) (by decide) ?_ fun h₅ hT₅ keep₅ => ?_)
    · cases zs with
      | nil => simp at hzl
      | cons => rfl
    · simp at hzl ⊢; omega
    dsimp only at hT₅ keep₅ ⊢
    have up₅ : ∀ b o, h₄.get? b = some o → h₅.get? b = some o := fun b o q => keep₅ b o (Heap.get?_push_of_some _ q)
    obtain ⟨Ta, eTa⟩ : ∃ a : Addr, a = (h₄.push { cls := .type "list", data := .seq zs.toArray }).objs.size := ⟨_, rfl⟩
    rw [← eTa] at hT₅ ⊢
    have hTa₀ : h₄.get? Ta = none := by
      cases q : h₄.get? Ta with
      | none => rfl
      | some o =>
        have q1 := Heap.lt_size q
        rw [eTa, Heap.size_push] at q1
        exact absurd q1 (Nat.not_lt.mpr (Nat.le_succ _))
    have hTaL : Ta ≠ L := by rintro rfl; obtain ⟨o, _, _, q, _⟩ := id hn'; rw [hTa₀] at q; cases q
    have fresh : ∀ b o its k, h₄.get? b = some o → o.data = .seq its k → b ≠ Ta := fun b o _ _ q _ z => by rw [z, hTa₀] at q; cases q
    refine wpAny_storeName_local (kn (by decide)) (heL ▸ hn'.keeps up₅) (fun h₆ hn₆ hs₆ => ?_) (plainScope hk)
    rw [heL] at hn₆ hs₆
    replace hs₆ : Heap.SameBut L h₅ h₆ := hs₆
    have hn₅ : h₅.Ns L m' := hn'.keeps up₅
    have kq₆ : KeepSeq Ta h₄ h₆ := (KeepSeq.of_keep up₅).trans fun b o its k _ hd q => hs₆.extBut b o (ns_not_seq hn₅ q hd) q
    have hS₆ : SeatsD Ta h₆ rits.toList ss := (q4.rebase fresh).seq kq₆
    have hTl₆ : IntsIn h₆ Ta zero9 := by
      have := IntsIn.of_plain (ns := zero9) hT₅ (by simpa [zero9] using rep_ints hzs (9 : Int).toNat)
      exact this.keeps fun o q => hs₆.extBut _ o hTaL q
    have hRL : R ≠ L := plain_ne_ns q3 hn'
    have hR₆ : h₆.PlainList R rits := q3.at fun o q => hs₆.extBut _ o hRL (up₅ _ o q)
    have old₆ : ∀ b o, s.heap.get? b = some o → h₆.get? b = some o := fun b o q => hs₆.extBut b o (neL q) (up₅ b o (q1 b o q))
    have neT : ∀ {b o}, s.heap.get? b = some o → b ≠ Ta := fun {b o} q z => by have := q1 b o q; rw [z, hTa₀] at this; cases this
    obtain ⟨M₆, a₆, hn₆⟩ := forget hn₆
    have d1 : M₆ "seatings" = some (.ref R) := by rw [a₆]; simp [wz5, q2]
    have d2 : M₆ "tally" = some (.ref Ta) := by rw [a₆]; simp
    clear a₆
    have lenS := paired_length hS₆
    -- for tables, ways in seatings
    refine wpAny_execs_cons (wpAny_For (nm hk (kn (by decide)) (heL ▸ hn₆) d1 (wpAny_pyIter_list hR₆.isList ?_)))
    dsimp only
    obtain ⟨I2, hI2e⟩ : ∃ I : Addr, I = h₆.objs.size := ⟨_, rfl⟩
    have hI2₀ : h₆.get? I2 = none := hI2e ▸ getAbove _
    have neI2 : ∀ {b o}, s.heap.get? b = some o → b ≠ I2 := fun {b o} q z => by have := old₆ b o q; rw [z, hI2₀] at this; cases this
    have hI2T : I2 ≠ Ta := by rintro rfl; obtain ⟨_, ⟨o, q, _⟩, _⟩ := hTl₆; rw [hI2₀] at q; cases q
    have hI2R : I2 ≠ R := by rintro rfl; obtain ⟨n, q⟩ := hR₆; rw [hI2₀] at q; cases q
    have hRT : R ≠ Ta := by obtain ⟨n, q⟩ := q3; exact fresh _ _ _ _ q rfl
    have push₆ : ∀ b o, h₆.get? b = some o → (h₆.push { cls := .type "list_iterator", data := .fields #[.ref R, .int 0 0] }).get? b = some o := fun b o q => Heap.get?_push_of_some _ q
    have hit₆ : (h₆.push { cls := .type "list_iterator", data := .fields #[.ref R, .int 0 0] }).IsListIter I2 R 0 := ⟨_, hI2e ▸ Heap.get?_push_size _ rfl, rfl, rfl⟩
    rw [← hI2e]
    refine loop_pairs (vs := rits.toList) (R := R) (I := I2) hh' hk (kn (by decide)) (kn (by decide))
      (fun j m' s' => ∃ h' tk, s' = { s with heap := h', toks := tk } ∧ (∀ b o, s.heap.get? b = some o → h'.get? b = some o) ∧ m' "tally" = some (.ref Ta) ∧ h'.PlainList R rits ∧
        SeatsD Ta h' rits.toList ss ∧ IntsIn h' Ta ((ss.take j).foldl tallyStep zero9)) ?_ ?_ ?_ ?_ ?_ hit₆ (heL ▸ hn₆.push _)
      ⟨_, _, rfl, fun b o q => push₆ b o (old₆ b o q), d2, hR₆.at fun o q => push₆ _ o q, hS₆.seq (.of_keep push₆), hTl₆.keeps fun o q => push₆ _ o q⟩
    · rintro j m' s' h' tk' ⟨h₇, tk₇, rfl, r1, r2, r3, r4, r5⟩ hit hnn hk'
      replace hk' : ∀ b o, b ≠ L → b ≠ I2 → h₇.get? b = some o → h'.get? b = some o := heL ▸ hk'
      have kq : KeepSeq Ta h₇ h' := fun b o its k _ hd q => hk' b o (heL ▸ ns_not_seq hnn q hd) (iter_not_seq hit q hd) q
      exact ⟨h', tk', rfl, fun b o q => hk' b o (neL q) (neI2 q) (r1 b o q), r2, r3.at fun o q => hk' _ o hRL (Ne.symm hI2R) q, r4.seq kq, r5.keeps fun o q => hk' _ o hTaL (Ne.symm hI2T) q⟩
    · rintro j m' s' ⟨h₇, tk₇, rfl, r1, r2, r3, r4, r5⟩
      have := r3.isList
      simpa using this
    · rintro j m' s' v ⟨h₇, tk₇, rfl, r1, r2, r3, r4, r5⟩ hv
      obtain ⟨st, _, T, a, tw, ev, _, hT, _⟩ := paired_at r4 hv
      exact ⟨T, _, _, ev, hT⟩
    · rintro j T x y m' s' hv ⟨h₇, tk₇, rfl, r1, r2, r3, r4, r5⟩ hT hit hn''
      obtain ⟨st, hst, T', a, tw, ev, hTD, hT', hTabs⟩ := paired_at r4 hv
      cases ev
      obtain ⟨rfl, rfl⟩ := tuple_inj hT hT'
      replace hit : h₇.IsListIter I2 R (j + 1) := hit
      have hmem := List.mem_of_getElem? hst
      have hlen : ((ss.take j).foldl tallyStep zero9).length = 9 := by rw [tally_len]; rfl
      refine wpAny_mono (tally_turn (s := { s with heap := h₇, toks := tk₇ }) (a := a) (st := st) (Ta := Ta) (tw := tw) e hh' N (fun b o q => r1 b o (hb b o q)) (heL ▸ hn'') (by simp [wy7]) (by simp) (by simp [wz1, wz2, r2]) hTabs (hok.1 st hmem).len r5 hlen (hix st hmem).1 (hix st hmem).2 hTaL) (fun fl s₈ hf => ?_) fun _ _ q => q
      obtain ⟨rfl, h₈, tk₈, rfl, k₈, n₈, l₈⟩ := hf
      replace k₈ : ∀ b o, b ≠ Ta → h₇.get? b = some o → h₈.get? b = some o := k₈
      refine ⟨rfl, iter_keeps hit fun o q => k₈ _ o hI2T q, _, heL ▸ n₈, h₈, tk₈, rfl, fun b o q => k₈ b o (neT q) (r1 b o q), by simp [wz1, wz2, r2], r3.at fun o q => k₈ _ o hRT q, r4.seq fun b o its k hbT _ q => k₈ b o hbT q, ?_⟩
      have : ss.take (j + 1) = ss.take j ++ [st] := by rw [List.take_add_one, hst]; rfl
      rw [this, List.foldl_append]
      exact l₈
    · rintro m' s' hn'' ⟨h₇, tk₇, rfl, r1, r2, r3, r4, r5⟩
      rw [lenS, List.take_length] at r5
      show wpAny _ _ (execs _ env) _ _ _
      refine wpAny_execs_cons (wpAny_Return_some (nm hk (kn (by decide)) hn'' r2 ?_))
      exact h Ta _ ⟨h₇, _, rfl, r1⟩ r5
end
end Mine
namespace Mine
open PySem

theorem IsCell.up {L c : Addr} {h h' : Heap} {v : Option Value} (x : h.IsCell c v) (u : Up L h h') (hl : c ≠ L) : h'.IsCell c v := cell_up x u hl
theorem strs_of_paired {g : Int → Str} : ∀ {vs : List Value} {ns : List Int}, Paired (fun n y => ∃ t, y = Value.str (g n) t) ns vs → StrsAre vs (ns.map g)
  | _, _, .nil => .nil
  | _, _, .cons ⟨t, e⟩ r => by
    subst e
    exact .cons _ t (strs_of_paired r)

section
variable {prog : Program} {w : World} {A : Around} {E : Value → Shared → Prop} {s : Shared}

/-- y = [elt for k in range(cnt)]; y is a cell -/
theorem cell_comp_range {env : Env} {base : Heap} {elt : Expr} {cnt : Nat} {k y : Str} {p8 p9 p10 p11 p12 p13 spos : Pos} {c2 : Nat} {scope : Scope} {cl : List (Str × Addr)} {mg mb : Str → Option Value} {F : Nat → Value → Prop} {cy : Addr} {v₀ : Option Value} {Q : Flow → Shared → Prop}
    (hh : A.handled = none) (hk : env.scope.kind = .function) (hr : env.kindOf "range" = some .globalImplicit) (hy : env.kindOf y = some .cell) (hcy : env.cells.lookup y = some cy) (hcly : s.heap.IsCell cy v₀)
    (hbl : base.Ns env.builtins mb) (hb1 : mb "range" = some (.type "range")) (hg : base.Ns env.globals mg) (hg1 : mg "range" = none) (hb : ∀ b o, base.get? b = some o → s.heap.get? b = some o) (hcnt : cnt ≤ 1000)
    (hclos : closureFor scope env = pure cl) (hcell : ∀ y ∈ scope.names, y.2 ≠ .cell) (hkind : scope.kind = .function) (hnames : ∀ y ∈ scope.names, y.2 = .local → scope.names.lookup y.1 = some .local) (hx : scope.names.lookup k = some .local)
    (hel : ∀ C j s₃ m₃ t E', j < cnt → (∀ b o, s.heap.get? b = some o → s₃.heap.get? b = some o) → s₃.heap.Ns C m₃ → m₃ k = some (.int ((j : Nat) : Int) t) → wpAny (model prog w) A (eval elt (compEnvC scope cl C env)) (fun y s₄ => F j y ∧ Keeps s₃ s₄) E' s₃)
    (h : ∀ D h' tk ys, s.heap.get? D = none → D ≠ cy → h'.PlainList D ys → ItemsBy F cnt ys → h'.IsCell cy (some (.ref D)) → Up cy s.heap h' → Q .next { s with heap := h', toks := tk }) :
    wpAny (model prog w) A (exec (.Assign [.Name y p13] (.ListComp elt [⟨.Name k p8, .Call (.Name "range" p9) [.Constant (.int (cnt : Int)) c2 p10] [] p11, [], 0⟩] scope p12) spos) env) Q E s := by
  have hbk : env.blockKind = .function := by simp [Env.blockKind, hk, ScopeKind.isAnnotationScope]
  refine wpAny_Assign_Name (comp_range (cnt := cnt) (k := k) (base := base) (cl := cl) (F := F) hh hk hr hbl hb1 hg hg1 hb hcnt hclos hcell hkind hnames hx hel ?_) ?_
  · intro D h' tk ys hD hpl hit keep'
    have hDc : D ≠ cy := by
      rintro rfl
      obtain ⟨o, ho, _⟩ := hcly
      rw [ho] at hD; cases hD
    refine wpAny_storeName_cell hk hy hcy (hcly.keeps keep') fun h'' hc'' hs'' => ?_
    replace hs'' : Heap.SameBut cy h' h'' := hs''
    exact h D h'' _ ys hD hDc (hpl.at fun o q => hs''.extBut _ o hDc q) hit hc'' fun b o hb' q => hs''.extBut b o hb' (keep' b o q)
  · show (pure (env.blockKind == .function && env.kindOf y == some .local && p13.line == p12.line && !(scope.names.any fun (n, kk) => n == y && (kk == .local || kk == .cell))) : Sem Bool) = pure false
    rw [hbk, hy]
    rfl

/-- [elt for k in a list of ints]; an item's text or int by F -/
theorem comp_listC {env : Env} {elt iter : Expr} {k : Str} {p8 p12 : Pos} {scope : Scope} {cl : List (Str × Addr)} {ns : List Int} {F : Int → Value → Prop} {Q : Value → Shared → Prop} (hh : A.handled = none)
    (hclos : closureFor scope env = pure cl) (hcell : ∀ y ∈ scope.names, y.2 ≠ .cell) (hkind : scope.kind = .function) (hnames : ∀ y ∈ scope.names, y.2 = .local → scope.names.lookup y.1 = some .local) (hx : scope.names.lookup k = some .local) (hz : ns.length ≤ 1000)
    (hit : wpAny (model prog w) A (eval iter env) (fun v s₁ => ∃ l, v = .ref l ∧ IntsIn s₁.heap l ns ∧ Keeps s s₁) E s)
    (hel : ∀ C n t s₃ m₃ E', n ∈ ns → (∀ b o, s.heap.get? b = some o → s₃.heap.get? b = some o) → s₃.heap.Ns C m₃ → m₃ k = some (.int n t) → wpAny (model prog w) A (eval elt (compEnvC scope cl C env)) (fun y s₄ => F n y ∧ Keeps s₃ s₄) E' s₃)
    (h : ∀ D s' items, Keeps s s' → s.heap.get? D = none → s'.heap.PlainList D items → Paired F ns items.toList → Q (.ref D) s')
    (hs : ∀ x, foldedSetIterable iter env x = pure x := by intro _; rfl) :
    wpAny (model prog w) A (eval (.ListComp elt [⟨.Name k p8, iter, [], 0⟩] scope p12) env) Q E s := by
  refine wpAny_ListComp_free (fun _ => true) (fun v y => ∃ n t, v = Value.int n t ∧ F n y) hclos hcell hkind hnames hx (wpAny_mono hit (fun xv s₁ hv => ?_) fun _ _ q => q) hs
  obtain ⟨l, rfl, ⟨vs, hL, hi⟩, ⟨h₁, tk₁, rfl, keep₁⟩⟩ := hv
  replace hL : h₁.IsList l vs.toArray := hL
  have hll : l < h₁.objs.size := by obtain ⟨o, ho, _⟩ := hL; exact Heap.lt_size ho
  have hlen := hi.length
  refine wpAny_pyIter_list hL ?_
  refine ⟨_, _, _, _, _, _, rfl, Walks.list (A := A) hh _ l (Nat.ne_of_lt hll) vs.toArray, by have := sizeLine_eq; simp; omega, ⟨⟨_, Heap.get?_push_size _ rfl, rfl, rfl⟩, (by obtain ⟨o, ho, r⟩ := hL; exact ⟨o, Heap.get?_push_of_some _ ho, r⟩)⟩, ?_, ?_, ?_⟩
  · intro b hb
    rw [Heap.size_push]
    simp only [List.mem_cons, List.not_mem_nil, or_false] at hb
    rcases hb with rfl | rfl
    · exact Nat.lt_succ_self _
    · exact Nat.lt_succ_of_lt hll
  · refine ⟨fun _ _ _ _ _ _ _ _ _ _ _ _ => wpAny_tests_nil ⟨rfl, keeps_refl _⟩, ?_⟩
    rintro C i v s₃ m₃ E' hC hP - hn₃ hm₃ keep₃ -
    have hv : vs[i]? = some v := by simpa using hP
    have hlt : i < ns.length := by rw [← hlen]; exact (List.getElem?_eq_some_iff.mp hv).1
    obtain ⟨t, ht⟩ := hi.get i ns[i] (List.getElem?_eq_getElem hlt)
    rw [hv] at ht
    cases ht
    have old : ∀ b o, s.heap.get? b = some o → s₃.heap.get? b = some o := fun b o q => by
      have q₁ := keep₁ b o q
      refine keep₃ b o (fun hb => ?_) (Heap.get?_push_of_some _ q₁)
      have e := List.mem_singleton.mp hb
      exact absurd (Heap.lt_size q₁) (by rw [e]; exact Nat.lt_irrefl _)
    exact wpAny_mono (hel C ns[i] t s₃ m₃ E' (List.getElem_mem _) old hn₃ hm₃) (fun y s₄ hy => ⟨⟨_, _, rfl, hy.1⟩, hy.2⟩) fun _ _ q => q
  · intro D h' tk ys vs' hD hyl hypl hlen' hvs' hF hk'
    rw [List.filter_eq_self.mpr (fun _ _ => rfl)] at hF
    have evs : vs' = vs := by
      refine List.ext_getElem? fun j => ?_
      cases q : vs'[j]? with
      | some v => have := hvs' j v q; simpa using this.symm
      | none =>
        have : vs'.length ≤ j := List.getElem?_eq_none_iff.mp q
        exact (List.getElem?_eq_none (by simp at hlen'; omega)).symm
    subst evs
    have old : ∀ b o, s.heap.get? b = some o → h'.get? b = some o := fun b o q => by
      have q₁ := keep₁ b o q
      refine hk' b o (fun hb => ?_) (Heap.get?_push_of_some _ q₁)
      have e := List.mem_singleton.mp hb
      exact absurd (Heap.lt_size q₁) (by rw [e]; exact Nat.lt_irrefl _)
    refine h D _ ys ⟨h', tk, rfl, old⟩ ?_ hypl ?_
    · cases q : s.heap.get? D with
      | none => rfl
      | some o =>
        have := Heap.get?_push_of_some { cls := .type "list_iterator", data := .fields #[.ref l, .int 0 0] } (keep₁ D o q)
        exact absurd (this.symm.trans hD) (by simp)
    · have key : ∀ {vs ys : List Value} {ns : List Int}, IntsAre vs ns → Paired (fun (v y : Value) => ∃ n t, v = Value.int n t ∧ F n y) vs ys → Paired F ns ys := by
        intro vs ys ns x
        induction x generalizing ys with
        | nil => intro y; cases y; exact .nil
        | cons n t _ ih =>
          intro y
          cases y with
          | cons q r =>
            obtain ⟨n', t', e1, q2⟩ := q
            cases e1
            exact .cons q2 (ih r)
      exact key hi hF

/-- [elt for k in a list]; the element may make generators that end -/
theorem comp_ext {env : Env} {elt iter : Expr} {k : Str} {p8 p12 : Pos} {scope : Scope} {cl : List (Str × Addr)} {n : Nat} {g : Nat → Int} {Q : Value → Shared → Prop} (hh : A.handled = none)
    (hclos : closureFor scope env = pure cl) (hcell : ∀ y ∈ scope.names, y.2 ≠ .cell) (hkind : scope.kind = .function) (hnames : ∀ y ∈ scope.names, y.2 = .local → scope.names.lookup y.1 = some .local) (hx : scope.names.lookup k = some .local) (hz : n ≤ 1000)
    (hit : wpAny (model prog w) A (eval iter env) (fun v s₁ => ∃ (l : Addr) (vs : List Value), v = .ref l ∧ vs.length = n ∧ s₁.heap.IsList l vs.toArray ∧ Keeps s s₁ ∧
      (∀ (C : Addr) (j : Nat) (v : Value) (s₃ : Shared) (m₃ : Str → Option Value) (E' : Value → Shared → Prop), vs[j]? = some v → (∀ b o, s₁.heap.get? b = some o → s₃.heap.get? b = some o) → s₃.heap.Ns C m₃ → m₃ k = some v →
        wpAny (model prog w) A (eval elt (compEnvC scope cl C env)) (fun y s₄ => (∃ t, y = .int (g j) t) ∧ Ext s₃ s₄) E' s₃)) E s)
    (h : ∀ D s' items, Ext s s' → s.heap.get? D = none → s'.heap.PlainList D items → IntsAre items.toList ((List.range n).map g) → Q (.ref D) s')
    (hs : ∀ x, foldedSetIterable iter env x = pure x := by intro _; rfl) :
    wpAny (model prog w) A (eval (.ListComp elt [⟨.Name k p8, iter, [], 0⟩] scope p12) env) Q E s := by
  rw [eval_ListComp]
  refine comp_coreC (use := none) hclos hcell hkind hnames (wpAny_mono hit (fun v s₁ hv => ?_) fun _ _ e => e) hs
  obtain ⟨l, vs, rfl, hvn, hL, ⟨h₁, tk₁, rfl, keep₁⟩, helt⟩ := hv
  subst hvn
  replace hL : h₁.IsList l vs.toArray := hL
  refine wpAny_pyIter_list hL fun h₂ tk₂ up₂' hD₂ hn₂ => ?_
  obtain ⟨I, hI⟩ : ∃ I : Nat, I = h₁.objs.size := ⟨_, rfl⟩
  have e1 : (h₁.push { cls := .type "list_iterator", data := .fields #[.ref l, .int 0 0] }).objs.size = I + 1 := by rw [Heap.size_push, hI]
  dsimp only at up₂' hD₂ hn₂ ⊢
  rw [e1] at hD₂ hn₂ ⊢
  rw [← hI]
  have lt1 : ∀ (b : Nat) (o : Obj), h₁.get? b = some o → b < I := fun b o q => hI ▸ Heap.lt_size q
  have up₂ : ∀ b o, h₁.get? b = some o → h₂.get? b = some o := fun b o q => up₂' b o (Heap.get?_push_of_some _ q)
  have hit₂ : h₂.IsListIter I l 0 := ⟨_, up₂' _ _ (hI ▸ Heap.get?_push_size _ rfl), rfl, rfl⟩
  refine ⟨wpAny_pyIter_listiter hit₂ ⟨rfl, rfl⟩, ?_⟩
  have fresh : ∀ (a : Nat), I ≤ a → s.heap.get? a = none := fun a ha => by
    cases q : s.heap.get? a with
    | none => rfl
    | some o => exact absurd (lt1 _ _ (keep₁ _ _ q)) (by omega)
  refine compLoop_any (fun k s' => ∃ j m' items, k = vs.length + 1 - j ∧ j ≤ vs.length ∧ (∀ b o, h₁.get? b = some o → s'.heap.get? b = some o) ∧ s'.heap.IsListIter I l j ∧ s'.heap.Ns (I + 1 + 1) m' ∧
    s'.heap.PlainList (I + 1) items ∧ IntsAre items.toList (((List.range vs.length).take j).map g) ∧ s'.os = s.os ∧ (AllBare s.gens → AllBare s'.gens)) ?_ (vs.length + 1) ⟨0, _, #[], rfl, Nat.zero_le _, up₂, hit₂, hn₂, hD₂, by simpa using IntsAre.nil, rfl, id⟩
  rintro k s' ⟨j, m', items, rfl, hj, keep', hit', hn', hD', hG', hos', hba'⟩
  have hL' : s'.heap.IsList l vs.toArray := by
    obtain ⟨q, hq, r⟩ := hL
    exact ⟨q, keep' _ _ hq, r⟩
  cases hv : vs[j]? with
  | none =>
    have hje : j = vs.length := Nat.le_antisymm hj (by simpa using hv)
    subst hje
    refine wpAny_pyNext_list_end hh hit' hL' (by simp) fun h₃ hx₃ => ?_
    replace hx₃ : Heap.ExtBut I s'.heap h₃ := hx₃
    have hn₃ : h₃.Ns (I + 1 + 1) m' := hn'.at' fun o q => hx₃ _ o (nb (by omega)) q
    rw [List.take_of_length_le (by simp)] at hG'
    refine ⟨rfl, m', hn₃, fun h₄ hs₄ => ?_⟩
    replace hs₄ : Heap.SameBut (I + 1 + 1) h₃ h₄ := hs₄
    refine h (I + 1) _ items ⟨fun b o q => ?_, hos', hba'⟩ (fresh _ (by omega)) ((hD'.at fun o q => hx₃ _ o (nb (by omega)) q).at fun o q => hs₄.extBut _ o (na (by omega)) q) hG'
    have q₁ := keep₁ b o q
    have := lt1 b o q₁
    exact hs₄.extBut b o (na (by omega)) (hx₃ b o (na (by omega)) (keep' b o q₁))
  | some v =>
    have hlt : j < vs.length := (List.getElem?_eq_some_iff.mp hv).1
    refine wpAny_pyNext_list_item hit' hL' (by simpa using hv) fun h₃ hit₃ hs₃ => ?_
    replace hs₃ : Heap.SameBut I s'.heap h₃ := hs₃
    have hn₃ : h₃.Ns (I + 1 + 1) m' := hn'.at' fun o q => hs₃.extBut _ o (nb (by omega)) q
    have ckind : (compEnvC scope cl (I + 1 + 1) env).scope.kind = .function := hkind
    refine wpAny_pure ?_
    refine wpAny_assign_Name (wpAny_storeName_local (relabel_local hx) hn₃ (fun h₆ hn₆ hs₆ => ?_) (plainScope ckind))
    replace hs₆ : Heap.SameBut (I + 1 + 1) h₃ h₆ := hs₆
    have up₆ : ∀ b o, b ≠ I + 1 + 1 → h₃.get? b = some o → h₆.get? b = some o := fun b o hb q => hs₆.extBut b o hb q
    have old₆ : ∀ b o, h₁.get? b = some o → h₆.get? b = some o := fun b o q => up₆ b o (na (by have := lt1 b o q; omega)) (hs₃.extBut b o (na (lt1 b o q)) (keep' b o q))
    refine wpAny_tests_nil ?_
    rw [if_pos rfl]
    refine wpAny_mono (helt (I + 1 + 1) j v _ _ _ hv old₆ hn₆ (by simp)) (fun v' s₇ hv' => ?_) fun _ _ q => q
    obtain ⟨⟨t, rfl⟩, x₇⟩ := hv'
    have keep₇ : ∀ b o, h₆.get? b = some o → s₇.heap.get? b = some o := x₇.keep
    have os₇ : s₇.os = s'.os := x₇.os
    have ba₇ : AllBare s'.gens → AllBare s₇.gens := x₇.bare
    have hD₇ : s₇.heap.PlainList (I + 1) items := hD'.at fun o q => keep₇ _ o (up₆ _ o (na (by omega)) (hs₃.extBut _ o (nb (by omega)) q))
    refine wpAny_list_append_plain hD₇ (fun h₈ hD₈ hs₈ => ?_) ?_
    · replace hs₈ : Heap.SameBut (I + 1) s₇.heap h₈ := hs₈
      refine ⟨vs.length + 1 - (j + 1), by omega, j + 1, _, _, rfl, hlt, fun b o q => hs₈.extBut b o (na (by have := lt1 b o q; omega)) (keep₇ b o (old₆ b o q)), ?_, (hn₆.keeps keep₇).sameBut hs₈ (nb (show I + 1 < I + 1 + 1 by omega)), hD₈, ?_, os₇.trans hos', fun q => ba₇ (hba' q)⟩
      · obtain ⟨o, ho, q⟩ := hit₃
        exact ⟨o, hs₈.extBut _ o (na (by omega)) (keep₇ _ _ (up₆ _ o (na (by omega)) ho)), q⟩
      · rw [map_take_snoc g hlt, Array.toList_push]
        exact hG'.append (.cons _ _ .nil)
    · have h2 := hG'.length
      rw [List.length_map, List.length_take, List.length_range] at h2
      have h3 : items.toList.length = items.size := by simp
      have := sizeLine_eq; omega
end
end Mine
namespace Mine
open PySem

def lawStmt (i : Nat) : Stmt := nthS (defBody (stmtAt atLaw)) i
def strConst : Expr → Str
  | .Constant (.str x) _ _ => x
  | _ => Str.ofString ""
/-- the five dresses, as the law's own row has them -/
def dresses : List Str := match lawStmt 2 with
  | .Assign _ (.ListComp (.Subscript (.List es _) _ _) _ _ _) _ => es.map strConst
  | _ => []
def dtok : Nat → List Tk
  | 1 => [.esc 41]
  | 2 => [.esc 34]
  | 3 => [.quo [40]]
  | 4 => [.esc 40]
  | _ => []
theorem dress_tok : dresses.length = 5 ∧ ∀ i, i < 5 → dresses.getD i (Str.ofString "") = strOf (dtok i) := by decide +kernel

def sizeAt (ad : List Int) (k : Nat) : Int := (itemAt [3, 1, 3, 0] (k : Int) + itemAt ad (k : Int)).fmod 5 - 2
def sizesOf (ad : List Int) : List Int := (List.range 4).map (sizeAt ad)
def dressIx (ad : List Int) (k : Nat) : Int := ((itemAt ad (k : Int)).fdiv 5).fmod 5
def dressAt (ad : List Int) (k : Nat) : Str := dresses.getD (dressIx ad k).toNat (Str.ofString "")
def dressOf (ad : List Int) : List Str := (List.range 4).map (dressAt ad)
def pieceAt (ad : List Int) (k : Nat) : Str := dressAt ad k ++ repS 41 (sizeAt ad k) ++ repS 40 (-sizeAt ad k)
def piecesOf (ad : List Int) : List Str := (List.range 4).map (pieceAt ad)

theorem sizeAt_small (ad : List Int) (k : Nat) : -2 ≤ sizeAt ad k ∧ sizeAt ad k ≤ 2 := by
  have h1 := Int.fmod_nonneg_of_pos (itemAt [3, 1, 3, 0] (k : Int) + itemAt ad (k : Int)) (show (0 : Int) < 5 by decide)
  have h2 := Int.fmod_lt_of_pos (itemAt [3, 1, 3, 0] (k : Int) + itemAt ad (k : Int)) (show (0 : Int) < 5 by decide)
  unfold sizeAt
  omega
theorem dress_small : ∀ y ∈ dresses, y.length ≤ 4 := by decide +kernel
theorem dressAt_small (ad : List Int) (k : Nat) : (dressAt ad k).length ≤ 4 := by
  unfold dressAt
  rw [List.getD_eq_getElem?_getD]
  cases q : dresses[(dressIx ad k).toNat]? with
  | none => decide
  | some y => exact dress_small y (List.mem_of_getElem? q)
theorem map_range_get {α : Type} (g : Nat → α) (d : α) {n j : Nat} (h : j < n) : ((List.range n).map g).getD j d = g j := by
  rw [List.getD_eq_getElem?_getD, List.getElem?_map, List.getElem?_range h]
  rfl
theorem itemAt_nat (ns : List Int) (j : Nat) : itemAt ns (j : Int) = ns.getD j 0 := by
  unfold itemAt
  rw [if_neg (by omega)]
  simp

section
variable {prog : Program} {w : World} {A : Around} {E : Value → Shared → Prop} {s : Shared}

set_option maxHeartbeats 1000000 in
theorem sizes_stmt {env : Env} {L cA cZ D : Addr} {v₀ : Option Value} {base : Heap} {ad : List Int} {Q : Flow → Shared → Prop} {mg mb : Str → Option Value} (e : EnvFor env (stmtAt atLaw) L) (hh : A.handled = none) (hg : base.Ns mainGlobals mg) (hg1 : mg "range" = none) (hbl : base.Ns builtinsNs mb) (hbl1 : mb "range" = some (.type "range")) (hb : ∀ b o, base.get? b = some o → s.heap.get? b = some o)
    (hc : env.cells.lookup (Str.ofString "adds") = some cA) (hcl : s.heap.IsCell cA (some (.ref D))) (hD : IntsIn s.heap D ad) (len : ad.length = 4) (hcz : env.cells.lookup (Str.ofString "sizes") = some cZ) (hclz : s.heap.IsCell cZ v₀)
    (h : ∀ Z h' tk, Z ≠ cZ → IntsIn h' Z (sizesOf ad) → h'.IsCell cZ (some (.ref Z)) → Up cZ s.heap h' → Q .next { s with heap := h', toks := tk }) :
    wpAny (model prog w) A (exec (lawStmt 1) env) Q E s := by
  have hk : env.scope.kind = .function := e.kind rfl
  have kn : ∀ {n : Str} {q : NameKind}, (defScope (stmtAt atLaw)).names.lookup n = some q → env.kindOf n = some q := fun {n q} hq => by
    show env.scope.names.lookup n = _
    rw [e.scope]; exact hq
  refine cell_comp_range (cnt := 4) (k := "k") (base := base) (cl := [(Str.ofString "adds", cA)]) (F := fun j v => ∃ t, v = Value.int (sizeAt ad j) t) hh hk (kn (by decide)) (kn (by decide)) hcz hclz (e.builtins ▸ hbl) hbl1 (e.globals ▸ hg) hg1 hb (by decide)
    (closureFor_1 rfl hc) (by decide) rfl (by decide) (by decide) ?_ ?_
  · intro C j s₃ m₃ t E' hj keep₃ hn₃ hm₃
    refine wpAny_BinOp (wpAny_BinOp (wpAny_BinOp (ints_display_item (ns := [3, 1, 3, 0]) (i := (j : Int)) (.cons oneC (.cons oneC (.cons oneC (.cons oneC .nil)))) (by decide) (fun h' k' => .name (t := t) rfl (relabel_local (by decide)) (hn₃.keeps k') hm₃) (by omega) (by simp only [List.length_cons, List.length_nil]; omega) fun h₄ tk₄ t₄ keep₄ => ?_)))
    have up : ∀ b o, s.heap.get? b = some o → h₄.get? b = some o := fun b o q => keep₄ b o (keep₃ b o q)
    refine EvI.itemC (n := Str.ofString "adds") (c := cA) (l := D) (ns := ad) (i := (j : Int)) rfl (relabel_free (by decide) hk (kn (by decide))) (by simp [compEnvC]) (hcl.keeps up) (hD.keeps fun o q => up _ o q) (.name (t := t) rfl (relabel_local (by decide)) (hn₃.keeps keep₄) hm₃) (by omega) (by omega) (by omega) (fun _ => by with_unfolding_all rfl) (by decide) _ _ _ rfl fun t₅ tk₅ => ?_
    exact add_int (wpAny_Constant_int (mod_int (by decide) (wpAny_Constant_int (sub_int ⟨⟨_, rfl⟩, _, _, rfl, keep₄⟩))))
  · intro P h' tk ys hP hPc hpl hit hc' u'
    exact h P h' tk hPc (.of_plain hpl (ints_of_items hit)) hc' u'

set_option maxHeartbeats 1000000 in
theorem dress_stmt {env : Env} {L cA cZ D : Addr} {v₀ : Option Value} {base : Heap} {ad : List Int} {Q : Flow → Shared → Prop} {mg mb : Str → Option Value} (e : EnvFor env (stmtAt atLaw) L) (hh : A.handled = none) (hg : base.Ns mainGlobals mg) (hg1 : mg "range" = none) (hbl : base.Ns builtinsNs mb) (hbl1 : mb "range" = some (.type "range")) (hb : ∀ b o, base.get? b = some o → s.heap.get? b = some o)
    (hc : env.cells.lookup (Str.ofString "adds") = some cA) (hcl : s.heap.IsCell cA (some (.ref D))) (hD : IntsIn s.heap D ad) (len : ad.length = 4) (hcz : env.cells.lookup (Str.ofString "dress") = some cZ) (hclz : s.heap.IsCell cZ v₀)
    (h : ∀ Z h' tk, Z ≠ cZ → StrsIn h' Z (dressOf ad) → h'.IsCell cZ (some (.ref Z)) → Up cZ s.heap h' → Q .next { s with heap := h', toks := tk }) :
    wpAny (model prog w) A (exec (lawStmt 2) env) Q E s := by
  have hk : env.scope.kind = .function := e.kind rfl
  have kn : ∀ {n : Str} {q : NameKind}, (defScope (stmtAt atLaw)).names.lookup n = some q → env.kindOf n = some q := fun {n q} hq => by
    show env.scope.names.lookup n = _
    rw [e.scope]; exact hq
  refine cell_comp_range (cnt := 4) (k := "k") (base := base) (cl := [(Str.ofString "adds", cA)]) (F := fun j v => ∃ t, v = Value.str (dressAt ad j) t) hh hk (kn (by decide)) (kn (by decide)) hcz hclz (e.builtins ▸ hbl) hbl1 (e.globals ▸ hg) hg1 hb (by decide)
    (closureFor_1 rfl hc) (by decide) rfl (by decide) (by decide) ?_ ?_
  · intro C j s₃ m₃ t E' hj keep₃ hn₃ hm₃
    have r0 : 0 ≤ dressIx ad j := Int.fmod_nonneg_of_pos _ (show (0 : Int) < 5 by decide)
    have r1 : dressIx ad j < 5 := Int.fmod_lt_of_pos _ (show (0 : Int) < 5 by decide)
    have hix : ((dressIx ad j).toNat : Int) = dressIx ad j := Int.toNat_of_nonneg r0
    refine strs_display_item (xs := dresses) (i := (dressIx ad j).toNat) (by decide) (by decide) (fun h₄ keep₄ => ?_) (by rw [dress_tok.1]; omega) fun h₄ tk₄ t₄ keep₄ => ⟨⟨_, rfl⟩, _, _, rfl, keep₄⟩
    rw [hix]
    have up : ∀ b o, s.heap.get? b = some o → h₄.get? b = some o := fun b o q => keep₄ b o (keep₃ b o q)
    refine .fmod (.fdiv (.itemC (n := Str.ofString "adds") (c := cA) (l := D) (ns := ad) (i := (j : Int)) rfl (relabel_free (by decide) hk (kn (by decide))) (by simp [compEnvC]) (hcl.keeps up) (hD.keeps fun o q => up _ o q) (.name (t := t) rfl (relabel_local (by decide)) (hn₃.keeps keep₄) hm₃) (by omega) (by omega) (by omega) (fun _ => by with_unfolding_all rfl) (by decide)) .const (by decide) (by decide)) .const (by decide)
  · intro P h' tk ys hP hPc hpl hit hc' u'
    exact h P h' tk hPc ⟨ys.toList, by simpa using hpl.isList, strs_of_items hit⟩ hc' u'

theorem zz1 : ¬ (Str.ofString "sizes" = Str.ofString "dress") := by decide
theorem zz2 : ¬ (Str.ofString "dress" = Str.ofString "sizes") := by decide

set_option maxHeartbeats 1000000 in
theorem pieces_stmt {env : Env} {L cS cD cP Z D : Addr} {v₀ : Option Value} {base : Heap} {ad : List Int} {Q : Flow → Shared → Prop} {mg mb : Str → Option Value} (e : EnvFor env (stmtAt atLaw) L) (hh : A.handled = none) (hg : base.Ns mainGlobals mg) (hg1 : mg "range" = none) (hbl : base.Ns builtinsNs mb) (hbl1 : mb "range" = some (.type "range")) (hb : ∀ b o, base.get? b = some o → s.heap.get? b = some o)
    (hcs : env.cells.lookup (Str.ofString "sizes") = some cS) (hcls : s.heap.IsCell cS (some (.ref Z))) (hZ : IntsIn s.heap Z (sizesOf ad))
    (hcd : env.cells.lookup (Str.ofString "dress") = some cD) (hcld : s.heap.IsCell cD (some (.ref D))) (hD : StrsIn s.heap D (dressOf ad)) (hcp : env.cells.lookup (Str.ofString "pieces") = some cP) (hclp : s.heap.IsCell cP v₀)
    (h : ∀ P h' tk, P ≠ cP → StrsIn h' P (piecesOf ad) → h'.IsCell cP (some (.ref P)) → Up cP s.heap h' → Q .next { s with heap := h', toks := tk }) :
    wpAny (model prog w) A (exec (lawStmt 3) env) Q E s := by
  have hk : env.scope.kind = .function := e.kind rfl
  have kn : ∀ {n : Str} {q : NameKind}, (defScope (stmtAt atLaw)).names.lookup n = some q → env.kindOf n = some q := fun {n q} hq => by
    show env.scope.names.lookup n = _
    rw [e.scope]; exact hq
  refine cell_comp_range (cnt := 4) (k := "k") (base := base) (cl := [(Str.ofString "sizes", cS), (Str.ofString "dress", cD)]) (F := fun j v => ∃ t, v = Value.str (pieceAt ad j) t) hh hk (kn (by decide)) (kn (by decide)) hcp hclp (e.builtins ▸ hbl) hbl1 (e.globals ▸ hg) hg1 hb (by decide)
    (closureFor_2 rfl hcd hcs) (by decide) rfl (by decide) (by decide) ?_ ?_
  · intro C j s₃ m₃ t E' hj keep₃ hn₃ hm₃
    have lenZ : (sizesOf ad).length = 4 := by simp [sizesOf]
    have lenD : (dressOf ad).length = 4 := by simp [dressOf]
    have eD : (dressOf ad).getD j (Str.ofString "") = dressAt ad j := map_range_get _ _ hj
    have eZ : itemAt (sizesOf ad) (j : Int) = sizeAt ad j := by rw [itemAt_nat]; exact map_range_get _ _ hj
    have sm := sizeAt_small ad j
    have dm := dressAt_small ad j
    have hev : ∀ (sc : Scope), sc.kind = .function → sc.names.lookup (Str.ofString "sizes") = some .free → sc.names.lookup (Str.ofString "k") = some .local → s₃.heap.Ns (compEnvC sc [(Str.ofString "sizes", cS), (Str.ofString "dress", cD)] C env).locals m₃ →
        ∀ p1 p2 p3, EvI prog w A (compEnvC sc [(Str.ofString "sizes", cS), (Str.ofString "dress", cD)] C env) s₃.heap (.Subscript (.Name "sizes" p1) (.Name "k" p2) p3) (sizeAt ad j) := by
      intro sc w1 w2 w3 w4 p1 p2 p3
      have := EvI.itemC (prog := prog) (w := w) (A := A) (pos := p3) (p := p1) (slice := .Name "k" p2) (n := Str.ofString "sizes") (c := cS) (l := Z) (ns := sizesOf ad) (i := (j : Int)) (h := s₃.heap) (env := compEnvC sc [(Str.ofString "sizes", cS), (Str.ofString "dress", cD)] C env) w1 (relabel_free w2 hk (kn (by decide))) (by simp [compEnvC]) (hcls.keeps keep₃) (hZ.keeps fun o q => keep₃ _ o q) (.name (t := t) w1 (relabel_local w3) w4 hm₃) (by omega) (by omega) (by omega) (fun _ => by with_unfolding_all rfl) (by decide)
      rw [eZ] at this
      exact this
    refine wpAny_BinOp (wpAny_BinOp (Subscript_ (wpAny_Name (wpAny_loadName_cell rfl (relabel_free (by decide) hk (kn (by decide))) (c := cD) (by simp [compEnvC, List.lookup, beqF zz2]) (hcld.keeps keep₃) ?_) (by decide))))
    refine nm rfl (relabel_local (by decide)) hn₃ hm₃ (strs_item (hD.keeps fun o q => keep₃ _ o q) (by omega) (by omega) fun t₂ => ?_) (by decide)
    rw [eD]
    refine wpAny_BinOp (litStr (hev _ rfl (by decide) (by decide) hn₃ _ _ _ _ _ _ rfl fun t₃ tk₃ => rep_str (c := 41) (by decide) (by omega) (by omega) fun t₄ tk₄ => add_str (fun t₅ tk₅ => ?_) ?_))
    rotate_left
    · rw [repS_len]; have := sizeLine_eq; omega
    refine wpAny_BinOp (litStr (wpAny_UnaryOp (hev _ rfl (by decide) (by decide) hn₃ _ _ _ _ _ _ rfl fun t₆ tk₆ => neg_int (rep_str (c := 40) (by decide) (by omega) (by omega) fun t₇ tk₇ => add_str (fun t₈ tk₈ => ⟨⟨t₈, rfl⟩, _, _, rfl, fun _ _ q => q⟩) ?_))))
    rw [Str.length_append, repS_len, repS_len]; have := sizeLine_eq; omega
  · intro P h' tk ys hP hPc hpl hit hc' u'
    exact h P h' tk hPc ⟨ys.toList, by simpa using hpl.isList, strs_of_items hit⟩ hc' u'

theorem whole_stmt {env : Env} {L cS cW Z : Addr} {v₀ : Option Value} {base : Heap} {sz : List Int} {Q : Flow → Shared → Prop} {mg mb : Str → Option Value} (e : EnvFor env (stmtAt atLaw) L) (hh : A.handled = none) (hg : base.Ns mainGlobals mg) (hg2 : mg "sum" = none) (hbl : base.Ns builtinsNs mb) (hbl2 : mb "sum" = some (.builtin "sum")) (hb : ∀ b o, base.get? b = some o → s.heap.get? b = some o)
    (hcs : env.cells.lookup (Str.ofString "sizes") = some cS) (hcls : s.heap.IsCell cS (some (.ref Z))) (hZ : IntsIn s.heap Z sz) (hcw : env.cells.lookup (Str.ofString "whole") = some cW) (hclw : s.heap.IsCell cW v₀)
    (h : ∀ h' t tk, h'.IsCell cW (some (.int sz.sum t)) → Up cW s.heap h' → Q .next { s with heap := h', toks := tk }) :
    wpAny (model prog w) A (exec (lawStmt 4) env) Q E s := by
  have hk : env.scope.kind = .function := e.kind rfl
  have kn : ∀ {n : Str} {q : NameKind}, (defScope (stmtAt atLaw)).names.lookup n = some q → env.kindOf n = some q := fun {n q} hq => by
    show env.scope.names.lookup n = _
    rw [e.scope]; exact hq
  refine wpAny_Assign_Name (Call_Name1 (Calls.Name_function_global hk (kn (by decide)) (Calls.loadGlobal_builtin (e.globals ▸ hg.keeps hb) hg2 (e.builtins ▸ hbl.keeps hb) hbl2 (Calls.callWith_builtin rfl (Calls.evalArgs_plain (Calls.spliced_cons ?_))))))
  refine wpAny_Name (wpAny_loadName_cell hk (kn (by decide)) hcs hcls ?_) (by decide)
  refine Calls.spliced_nil (sum_keep hh hZ fun h₂ tk₂ t₂ keep₂ => ?_)
  refine wpAny_storeName_cell hk (kn (by decide)) hcw (hclw.keeps keep₂) fun h₃ hc₃ hs₃ => ?_
  replace hs₃ : Heap.SameBut cW h₂ h₃ := hs₃
  exact h h₃ _ _ hc₃ fun b o hb' q => hs₃.extBut b o hb' (keep₂ b o q)
end
end Mine
namespace Mine
open PySem

theorem join_len {l : List Str} {b : Nat} (h : ∀ y ∈ l, y.length ≤ b) : (Str.join (Str.ofString "") l).length ≤ b * l.length := by
  have e : (Str.join (Str.ofString "") l).length = (Str.join (Str.ofString "") l).cps.toList.length := by simp [Str.length]
  rw [e, join_empty]
  induction l with
  | nil => simp
  | cons y r ih =>
    have h1 := h y (by simp)
    have h2 := ih (fun z hz => h z (by simp [hz])) (by simp [Str.length])
    rw [List.map_cons, List.flatten_cons, List.length_append, List.length_cons, Nat.mul_succ]
    have h3 : y.cps.toList.length = y.length := by simp [Str.length]
    omega

def pieceOf (ad : List Int) (n : Int) : Str := (piecesOf ad).getD n.toNat (Str.ofString "")
def textOf (ad : List Int) (one : List Int) : Str := Str.join (Str.ofString "") (one.map (pieceOf ad))
def orders4 : List (List Int) := ordersN 4
def numAt (ad : List Int) (j : Nat) : Int := 256 ^ (lackOf (textOf ad (orders4.getD j [])) (sizesOf ad).sum).toNat
/-- the law's number -/
def numberOf (ad : List Int) : Int := ((List.range orders4.length).map (numAt ad)).sum

theorem orders_are : orders4.length = 24 ∧ ∀ one ∈ orders4, one.length = 4 ∧ ∀ n ∈ one, 0 ≤ n ∧ n < 4 := by decide +kernel
theorem piece_small (ad : List Int) (n : Int) : (pieceOf ad n).length ≤ 8 := by
  unfold pieceOf
  rw [List.getD_eq_getElem?_getD]
  cases q : (piecesOf ad)[n.toNat]? with
  | none => decide
  | some y =>
    obtain ⟨k, _, rfl⟩ := List.mem_map.mp (List.mem_of_getElem? q)
    have h1 := dressAt_small ad k
    have h2 := sizeAt_small ad k
    show (pieceAt ad k).length ≤ 8
    unfold pieceAt
    rw [Str.length_append, Str.length_append, repS_len, repS_len]
    omega
theorem whole_small (ad : List Int) : -8 ≤ (sizesOf ad).sum ∧ (sizesOf ad).sum ≤ 8 := by
  have h0 := sizeAt_small ad 0
  have h1 := sizeAt_small ad 1
  have h2 := sizeAt_small ad 2
  have h3 := sizeAt_small ad 3
  have e : (sizesOf ad).sum = sizeAt ad 0 + (sizeAt ad 1 + (sizeAt ad 2 + (sizeAt ad 3 + 0))) := rfl
  omega

structure SumNames (base : Heap) (fK fO : Addr) : Prop where
  glob : ∃ mg, base.Ns mainGlobals mg ∧ mg "sum" = none ∧ mg "_law_lacks" = some (.ref fK) ∧ mg "_law_orders" = some (.ref fO)
  blt : ∃ mb, base.Ns builtinsNs mb ∧ mb "sum" = some (.builtin "sum")

theorem closureFor_number {scope : Scope} {env : Env} {c d : Addr} (hsn : scope.names = [(Str.ofString ".0", .local), (Str.ofString "one", .local), (Str.ofString "_law_lacks", .globalImplicit), (Str.ofString "pieces", .free), (Str.ofString "whole", .free)]) (hc : env.cells.lookup (Str.ofString "pieces") = some c) (hd : env.cells.lookup (Str.ofString "whole") = some d) : closureFor scope env = pure [(Str.ofString "whole", d), (Str.ofString "pieces", c)] := by
  unfold closureFor
  rw [hsn]
  simp only [List.forIn_cons, List.forIn_nil]
  unfold cellOf
  rw [hc, hd]
  rfl
theorem zw1 : ¬ (Str.ofString "pieces" = Str.ofString "whole") := by decide

section
variable {prog : Program} {w : World} {A : Around} {E : Value → Shared → Prop} {s : Shared}

theorem pow_small {a b : Int} {t u : Tok} {Q : Value → Shared → Prop} (h1 : 2 ≤ a) (h2 : 0 ≤ b) (h3 : ((Builtin.Int.intBits a : Nat) : Int) * b ≤ 1000) (hQ : ∀ t tk, Q (.int (a ^ b.toNat) t) { s with toks := tk }) :
    wpAny (model prog w) A (binaryOp .Pow (.int a t) (.int b u)) Q E s := by
  by_cases hb : b = 0
  · subst hb
    rw [show a ^ Int.toNat 0 = 1 from Int.pow_zero a] at hQ
    exact PySem.AutoIntOps.pow_0 (by decide) (by decide) (show Q (.int 1 s.toks) _ from hQ _ _)
  · have q1 : (b == 0) = false := by simpa using hb
    have q2 : (a == 0 || a == 1) = false := by simp; omega
    have q3 : (a == -1) = false := by simp; omega
    refine PySem.AutoIntOps.pow_4 h2 (by rw [q1]; decide) (by rw [q2]; decide) (by rw [q3]; decide) ?_ (show Q (.int (a ^ b.toNat) s.toks) _ from hQ _ _)
    have : Builtin.Int.intTooBig (((Builtin.Int.intBits a : Nat) : Int) * b) = false := by
      unfold Builtin.Int.intTooBig
      have : (1000 : Int) ≤ (bitsLine : Int) := by decide +kernel
      simp only [decide_eq_false_iff_not]
      omega
    rw [this]; decide

set_option maxHeartbeats 2000000 in
theorem number_stmt {env : Env} {L cP cW P : Addr} {base : Heap} {fI fS fC fT fK fO : Addr} {tw : Tok} {ad : List Int} {m : Str → Option Value} {Q : Flow → Shared → Prop} (e : EnvFor env (stmtAt atLaw) L) (hh : A.handled = none) (hroom : A.depth + 4 < recursionLimit)
    (N : Names base fI fS fC) (N2 : TakenNames base fC fT) (N3 : LackNames base fK fT) (N4 : OrdersNames base fO) (N5 : SumNames base fK fO) (hb : ∀ b o, base.get? b = some o → s.heap.get? b = some o)
    (hn : s.heap.Ns L m) (hcp : env.cells.lookup (Str.ofString "pieces") = some cP) (hclp : s.heap.IsCell cP (some (.ref P))) (hP : StrsIn s.heap P (piecesOf ad))
    (hcw : env.cells.lookup (Str.ofString "whole") = some cW) (hclw : s.heap.IsCell cW (some (.int (sizesOf ad).sum tw)))
    (hlk : ∀ one ∈ orders4, 0 ≤ lackOf (textOf ad one) (sizesOf ad).sum ∧ lackOf (textOf ad one) (sizesOf ad).sum ≤ 9)
    (h : ∀ s' t, Up L s.heap s'.heap → s'.os = s.os → (AllBare s.gens → AllBare s'.gens) → s'.heap.Ns L (fun z => if z = Str.ofString "number" then some (.int (numberOf ad) t) else m z) → Q .next s') :
    wpAny (model prog w) A (exec (lawStmt 5) env) Q E s := by
  have hk : env.scope.kind = .function := e.kind rfl
  have kn : ∀ {n : Str} {q : NameKind}, (defScope (stmtAt atLaw)).names.lookup n = some q → env.kindOf n = some q := fun {n q} hq => by
    show env.scope.names.lookup n = _
    rw [e.scope]; exact hq
  obtain ⟨mg, hg, hg2, hg3, hg4⟩ := N5.glob
  obtain ⟨mb, hbl, hbl2⟩ := N5.blt
  have hws := whole_small ad
  obtain ⟨oO, fdO, hO1, hO2, _⟩ := N4.def_.out
  refine wpAny_Assign_Name (Call_Name1 (Calls.Name_function_global hk (kn (by decide)) (Calls.loadGlobal_builtin (e.globals ▸ hg.keeps hb) hg2 (e.builtins ▸ hbl.keeps hb) hbl2 (Calls.callWith_builtin rfl (Calls.evalArgs_plain (Calls.spliced_cons ?_))))))
  refine comp_ext (n := orders4.length) (g := numAt ad) (k := "one") hh (closureFor_number rfl hcp hcw) (by decide) rfl (by decide) (by decide) (by rw [orders_are.1]; decide) ?_ ?_
  · refine Call_Name0 (Calls.Name_function_global hk (kn (by decide)) (Calls.loadGlobal_global (e.globals ▸ hg.keeps hb) hg4 (Calls.callWith_function (o := oO) (fd := fdO) (evalArgs_nil3 ⟨⟨hb _ _ hO1, hO2⟩, ?_⟩))))
    refine call_orders N4 hh (by omega) hb fun O s₁ K hO => ?_
    obtain ⟨h₁, tk₁, rfl, keep₁⟩ := K
    obtain ⟨items, hpl, hX⟩ := hO
    refine ⟨O, items.toList, rfl, paired_length hX, by simpa using hpl.isList, ⟨h₁, tk₁, rfl, keep₁⟩, ?_⟩
    intro C j v s₃ m₃ E' hv keep₃ hn₃ hm₃
    replace keep₃ : ∀ b o, h₁.get? b = some o → s₃.heap.get? b = some o := keep₃
    obtain ⟨one, hone, a, its, rfl, ha, hia⟩ := paired_at hX hv
    replace hone : orders4[j]? = some one := hone
    have hgd : orders4.getD j [] = one := by rw [List.getD_eq_getElem?_getD, hone]; rfl
    have hmem : one ∈ orders4 := List.mem_of_getElem? hone
    obtain ⟨len4, hin⟩ := orders_are.2 one hmem
    have up₃ : ∀ b o, s.heap.get? b = some o → s₃.heap.get? b = some o := fun b o q => keep₃ b o (keep₁ b o q)
    have hb₃ : ∀ b o, base.get? b = some o → s₃.heap.get? b = some o := fun b o q => up₃ b o (hb b o q)
    have htl : (textOf ad one).length ≤ 200 := by
      have := join_len (l := one.map (pieceOf ad)) (b := 8) fun y hy => by
        obtain ⟨n, _, rfl⟩ := List.mem_map.mp hy
        exact piece_small ad n
      rw [List.length_map, len4] at this
      unfold textOf
      omega
    refine wpAny_BinOp (wpAny_Constant_int (callDefN (base := base) rfl (relabel_global (by decide)) (e.globals ▸ hg) hg3 N3.def_ hb₃ ?_))
    refine Call_method1 rfl rfl rfl (litStr ?_)
    refine ⟨"str", "str.join", F.plainAttrs_str, F.slot_str_join, F.type_str_join, typeIs_str _ _ _, (fun _ e => nomatch e), ?_⟩
    refine Calls.callWith_builtin rfl (Calls.evalArgs_plain (Calls.spliced_cons ?_))
    refine comp_listC (ns := one) (F := fun n y => ∃ t, y = Value.str (pieceOf ad n) t) (k := "k") (cl := [(Str.ofString "pieces", cP)]) hh (closureFor_1 rfl (by simp [compEnvC, List.lookup, beqF zw1])) (by decide) rfl (by decide) (by decide) (by omega)
      (nm rfl (relabel_local (by decide)) hn₃ hm₃ ⟨a, rfl, .of_plain (ha.at fun o q => keep₃ _ o q) hia, _, _, rfl, fun _ _ q => q⟩) ?_ ?_
    · intro C' n t s₅ m₅ E'' hn' keep₅ hn₅ hm₅
      obtain ⟨n0, n4⟩ := hin n hn'
      obtain ⟨i, rfl⟩ : ∃ i : Nat, n = (i : Int) := ⟨n.toNat, by omega⟩
      have up₅ : ∀ b o, s.heap.get? b = some o → s₅.heap.get? b = some o := fun b o q => keep₅ b o (up₃ b o q)
      refine Subscript_ (wpAny_Name (wpAny_loadName_cell rfl (relabel_free (by decide) rfl (relabel_free (by decide) hk (kn (by decide)))) (c := cP) (by simp [compEnvC]) (hclp.keeps up₅) ?_) (by decide))
      refine nm rfl (relabel_local (by decide)) hn₅ hm₅ (strs_item (i := i) (hP.keeps fun o q => up₅ _ o q) (by simp [piecesOf]; omega) (by simp [piecesOf]) fun t₂ => ⟨⟨t₂, ?_⟩, _, _, rfl, fun _ _ q => q⟩) (by decide)
      unfold pieceOf
      rw [Int.toNat_natCast]
    · intro D s₅ its₅ K₅ hD₅ hpl₅ hF₅
      obtain ⟨h₅, tk₅, rfl, keep₅⟩ := K₅
      replace keep₅ : ∀ b o, s₃.heap.get? b = some o → h₅.get? b = some o := keep₅
      have hstr := strs_of_paired hF₅
      refine Calls.spliced_nil (join_list (ys := one.map (pieceOf ad)) hpl₅.isList hstr ?_ fun t₆ tk₆ => ?_)
      · have h1 := sum_small 8 (one.map (pieceOf ad)) fun y hy => by
          obtain ⟨n, _, rfl⟩ := List.mem_map.mp hy
          exact piece_small ad n
        rw [List.length_map, len4] at h1
        have h0 : (Str.ofString "").length = 0 := by decide
        rw [h0, Nat.mul_zero, Nat.add_zero]
        omega
      · have ej : Txt.join (Str.ofString "") (one.map (pieceOf ad)) = textOf ad one := PySem.StrLaws.glued_eq_join _ _
        rw [ej]
        have up₅ : ∀ b o, s.heap.get? b = some o → h₅.get? b = some o := fun b o q => keep₅ b o (up₃ b o q)
        have hb₅ : ∀ b o, base.get? b = some o → h₅.get? b = some o := fun b o q => up₅ b o (hb b o q)
        refine spliced_more (wpAny_Name (wpAny_loadName_cell rfl (relabel_free (by decide) hk (kn (by decide))) (c := cW) (by simp [compEnvC, List.lookup]) (hclw.keeps up₅) ?_) (by decide))
        refine Calls.spliced_nil ⟨hb₅, ?_⟩
        obtain ⟨lk0, lk9⟩ := hlk one hmem
        refine call_lacks N N2 N3 hh hroom hb₅ htl (by omega) (by omega) fun t₇ s₇ x₇ => pow_small (by decide) lk0 ?_ fun t₈ tk₈ => ⟨⟨t₈, ?_⟩, ?_⟩
        · have : ((Builtin.Int.intBits 256 : Nat) : Int) = 9 := by decide +kernel
          rw [this]; omega
        · unfold numAt
          rw [hgd]
        · exact ⟨fun b o q => x₇.keep b o (keep₅ b o q), x₇.os, x₇.bare⟩
  · intro D s₁ items x₁ hD hpl hi
    refine Calls.spliced_nil (sum_keep hh ⟨_, hpl.isList, hi⟩ fun h₂ tk₂ t₂ keep₂ => ?_)
    replace keep₂ : ∀ b o, s₁.heap.get? b = some o → h₂.get? b = some o := keep₂
    have up₂ : ∀ b o, s.heap.get? b = some o → h₂.get? b = some o := fun b o q => keep₂ b o (x₁.keep b o q)
    rw [← e.locals] at hn
    refine wpAny_storeName_local (kn (by decide)) (hn.keeps up₂) (fun h₃ hn₃ hs₃ => ?_) (plainScope hk)
    rw [e.locals] at hn₃ hs₃
    exact h _ t₂ ((Up.of_keep up₂).trans (.of_same hs₃)) x₁.os x₁.bare hn₃
end
end Mine
namespace Mine
open PySem

theorem ints_exist : ∀ ns : List Int, IntsAre (ns.map fun n => Value.int n 0) ns
  | [] => .nil
  | n :: r => .cons n 0 (ints_exist r)
theorem ints_only : ∀ {l ns : List Int}, IntsAre (l.map fun n => Value.int n 0) ns → ns = l
  | [], _, .nil => rfl
  | n :: l, _, h => by
    cases h with
    | cons _ _ r => rw [ints_only r]
theorem pick_from (ns : List Int) (a : Nat) : pickNums ns (some (a : Int)) none none = ns.drop a := by
  have h := (ints_exist ns).pick (some (a : Int)) none none
  rw [slicePick_from' _ a] at h
  refine ints_only ?_
  simpa using h

def two (c : Int) : List Int := [c.fdiv 16, c.fmod 16]
def backOf (ws : List Int) : List Int := pickNums ws none none (some (-1))
def figsOf (sz : List Int) : List Int := (backOf (worthsOf sz)).flatMap two
def dropZ (l : List Int) : List Int := l.dropWhile (· == 0)
def dueOf (sz : List Int) : List Int := (dropZ (figsOf sz)).map fun f => 65 + f

theorem tupleit_not_seq {h : Heap} {I T b : Addr} {i : Nat} {o : Obj} {its : Array Value} {k : Nat} (x : h.IsTupleIter I T i) (hb : b ∈ [I]) (e : h.get? b = some o) (hd : o.data = .seq its k) : False := by
  rw [List.mem_singleton.mp hb] at e
  obtain ⟨o', ho', r⟩ := x
  rw [e] at ho'
  cases ho'
  have := r.2
  rw [hd] at this
  cases this

structure FigNames (base : Heap) (fW : Addr) : Prop where
  glob : ∃ mg, base.Ns mainGlobals mg ∧ mg "divmod" = none ∧ mg "bytes" = none ∧ mg "_law_worths_of_seatings" = some (.ref fW)
  blt : ∃ mb, base.Ns builtinsNs mb ∧ mb "divmod" = some (.builtin "divmod") ∧ mb "bytes" = some (.type "bytes")

theorem zf1 : ¬ (Str.ofString "count" = Str.ofString "figure") := by decide
theorem worths_len (sz : List Int) : (worthsOf sz).length = 9 := by
  unfold worthsOf
  rw [tally_len]
  rfl

section
variable {prog : Program} {w : World} {A : Around} {E : Value → Shared → Prop} {s : Shared}

set_option maxHeartbeats 2000000 in
theorem figures_stmt {env : Env} {L cZ Z fW : Addr} {base : Heap} {sz : List Int} {m : Str → Option Value} {Q : Flow → Shared → Prop} (e : EnvFor env (stmtAt atLaw) L) (hh : A.handled = none) (hroom : A.depth < recursionLimit)
    (N : WorthNames base fW) (N2 : FigNames base fW) (hb : ∀ b o, base.get? b = some o → s.heap.get? b = some o)
    (hn : s.heap.Ns L m) (hcz : env.cells.lookup (Str.ofString "sizes") = some cZ) (hclz : s.heap.IsCell cZ (some (.ref Z))) (hZ : IntsIn s.heap Z sz) (ok : WorthOk sz)
    (h : ∀ F h' tk, Up L s.heap h' → IntsIn h' F (figsOf sz) → h'.Ns L (fun z => if z = Str.ofString "figures" then some (.ref F) else m z) → Q .next { s with heap := h', toks := tk }) :
    wpAny (model prog w) A (exec (lawStmt 6) env) Q E s := by
  have hk : env.scope.kind = .function := e.kind rfl
  have kn : ∀ {n : Str} {q : NameKind}, (defScope (stmtAt atLaw)).names.lookup n = some q → env.kindOf n = some q := fun {n q} hq => by
    show env.scope.names.lookup n = _
    rw [e.scope]; exact hq
  obtain ⟨mg, hg, hg1, hg2, hg3⟩ := N2.glob
  obtain ⟨mb, hbl, hbl1, hbl2⟩ := N2.blt
  rw [← e.locals] at hn
  have hbl_len : (backOf (worthsOf sz)).length ≤ 9 := by
    have := length_pickNums_le (ints_exist (worthsOf sz)) none none (some (-1))
    rw [worths_len] at this
    exact this
  refine assign_two_walk (s := s) (n1 := "count") (n2 := "figure") (nv := (backOf (worthsOf sz)).length) (P1 := fun j v => ∃ t, v = Value.int ((backOf (worthsOf sz)).getD j 0) t) (cl := []) (nn := fun _ => 2)
    (GG := fun D j its h => IntsAre its (((backOf (worthsOf sz)).take j).flatMap two))
    (G := fun D j i its h => IntsAre its (((backOf (worthsOf sz)).take j).flatMap two ++ (two ((backOf (worthsOf sz)).getD j 0)).take i))
    (kn (by decide)) hk hn rfl rfl hh (closureFor_none (by decide)) (by decide) rfl (by decide) (by decide) (by decide) (by decide) ?_ (fun D h => .nil) (fun D j its h h' x k => x) (fun D j i its h h' x k => x) ?_ ?_ ?_ ?_ ?_
  · -- the worths from behind
    refine Subscript_ (callDef1 (base := base) hk (kn (by decide)) (e.globals ▸ hg) hg3 N.def_ hb (wpAny_Name (wpAny_loadName_cell hk (kn (by decide)) hcz hclz ⟨hb, ?_⟩) (by decide)))
    refine call_worths N hh hroom hb hZ ok fun T s₁ K hT => ?_
    obtain ⟨h₁, tk₁, rfl, keep₁⟩ := K
    refine wpAny_Slice (wpAny_evalPart_none (wpAny_evalPart_none (wpAny_evalPart_some (wpAny_UnaryOp (wpAny_Constant_int (neg_int ?_))))))
    refine kba_turn (value' := .Name (Str.ofString "_") ⟨0, 0, 0, 0⟩) (fun _ => rfl) ?_
    refine slice_ints (s := { s with heap := h₁, toks := tk₁ + 1 + 1 }) hT (by rw [worths_len]; decide) .none .none (IsPart.int _ _) (by decide) fun l' h' hl' keep' hfr' => ?_
    obtain ⟨vs, hL, hvs⟩ := hl'
    refine ⟨l', vs, rfl, hvs.length, fun j v hv => ?_, hL, h', _, rfl, fun b o q => keep' b o (keep₁ b o q)⟩
    have hlt : j < (backOf (worthsOf sz)).length := by
      have := (List.getElem?_eq_some_iff.mp hv).1
      have e2 := hvs.length
      show j < (pickNums (worthsOf sz) none none (some (-1))).length
      omega
    obtain ⟨t, ht⟩ := hvs.get j _ (List.getElem?_eq_getElem hlt)
    rw [hv] at ht
    cases ht
    exact ⟨t, by rw [List.getD_eq_getElem?_getD, List.getElem?_eq_getElem hlt]; rfl⟩
  · intro D j i its h x
    have e1 := x.length
    rw [List.length_append, List.length_take] at e1
    have h1 := flat_le two 2 ((backOf (worthsOf sz)).take j) fun c _ => by simp [two]
    have h2 : ((backOf (worthsOf sz)).take j).length ≤ (backOf (worthsOf sz)).length := by rw [List.length_take]; omega
    have h3 : (two ((backOf (worthsOf sz)).getD j 0)).length = 2 := rfl
    omega
  · intro D j its h hj x
    simpa using x
  · intro D j its h hj x
    have hc : (backOf (worthsOf sz))[j]? = some (backOf (worthsOf sz))[j] := List.getElem?_eq_getElem hj
    have hgd : (backOf (worthsOf sz)).getD j 0 = (backOf (worthsOf sz))[j] := by rw [List.getD_eq_getElem?_getD, hc]; rfl
    rw [flat_take hc]
    have e3 : (two ((backOf (worthsOf sz)).getD j 0)).take 2 = two (backOf (worthsOf sz))[j] := by rw [hgd]; rfl
    rw [e3] at x
    exact x
  · rintro C j v s' m' hj ⟨t, rfl⟩ keep' hn' hm'
    have hb' : ∀ b o, base.get? b = some o → s'.heap.get? b = some o := fun b o q => keep' b o (hb b o q)
    obtain ⟨c, hc⟩ : ∃ c, c = (backOf (worthsOf sz)).getD j 0 := ⟨_, rfl⟩
    rw [← hc] at hm' ⊢
    refine Call_Name2 (Calls.Name_function_global rfl (relabel_global (by decide)) (Calls.loadGlobal_builtin (e.globals ▸ hg.keeps hb') hg1 (e.builtins ▸ hbl.keeps hb') hbl1
      (Calls.callWith_builtin rfl (Calls.evalArgs_plain (Calls.spliced_cons (nm rfl (relabel_local (by decide)) hn' hm' (Calls.spliced_cons (wpAny_Constant_int (Calls.spliced_nil (divmod_int (by decide) ?_)))))))) ))
    dsimp only
    obtain ⟨tq, etq⟩ : ∃ tq : Tok, tq = s'.toks + 1 := ⟨_, rfl⟩
    rw [← etq]
    obtain ⟨T, eT⟩ : ∃ T : Addr, T = s'.heap.objs.size := ⟨_, rfl⟩
    obtain ⟨H1, eH⟩ : ∃ H, H = s'.heap.push { cls := .type "tuple", data := .seq #[.int (c.fdiv 16) tq, .int (c.fmod 16) (tq + 1)] } := ⟨_, rfl⟩
    have hT1 : H1.IsTuple T #[.int (c.fdiv 16) tq, .int (c.fmod 16) (tq + 1)] := eH ▸ eT ▸ push_tuple
    have k1 : ∀ b o, s'.heap.get? b = some o → H1.get? b = some o := fun b o q => eH ▸ Heap.get?_push_of_some _ q
    rw [← eH, ← eT]
    refine wpAny_pyIter_tuple hT1 ?_
    dsimp only
    obtain ⟨I, eI⟩ : ∃ I : Addr, I = H1.objs.size := ⟨_, rfl⟩
    obtain ⟨H2, eH2⟩ : ∃ H, H = H1.push { cls := .type "tuple_iterator", data := .fields #[.ref T, .int 0 0] } := ⟨_, rfl⟩
    have k2 : ∀ b o, H1.get? b = some o → H2.get? b = some o := fun b o q => eH2 ▸ Heap.get?_push_of_some _ q
    have hit : H2.IsTupleIter I T 0 := eH2 ▸ eI ▸ ⟨_, Heap.get?_push_size _ rfl, rfl, rfl⟩
    have hTlt : T < H1.objs.size := by obtain ⟨o, ho, _⟩ := hT1; exact Heap.lt_size ho
    have hTI : T ≠ I := eI ▸ Nat.ne_of_lt hTlt
    rw [← eH2, ← eI]
    refine ⟨I, [I, T], [I], _, _, rfl, Walks.tuple hh I T hTI #[.int (c.fdiv 16) tq, .int (c.fmod 16) (tq + 1)], ⟨hit, let ⟨o, ho, r⟩ := hT1; ⟨o, k2 _ _ ho, r⟩⟩, fun b hb2 => ?_, fun i h b o its k st hb2 q hd => tupleit_not_seq st.1 hb2 q hd, ⟨H2, _, rfl, fun b o q => k2 b o (k1 b o q)⟩, ?_⟩
    · have hI0 : s'.heap.get? I = none := none_above k1 (eI ▸ Nat.le_refl _)
      have hT0 : s'.heap.get? T = none := eT ▸ getAbove _
      have hIlt : I < H2.objs.size := by obtain ⟨o, ho, _⟩ := hit; exact Heap.lt_size ho
      have hTlt2 : T < H2.objs.size := by obtain ⟨o, ho, _⟩ := hT1; exact Heap.lt_size (k2 _ _ ho)
      simp only [List.mem_cons, List.not_mem_nil, or_false] at hb2
      rcases hb2 with rfl | rfl
      · exact ⟨hI0, hIlt⟩
      · exact ⟨hT0, hTlt2⟩
    · intro D s₅ m₅ i v₂ its hi hv₂ keep₅ hn₅ a1 a2 hD hG
      refine nm rfl (relabel_local (by decide)) hn₅ a2 ⟨⟨_, _, rfl, fun _ _ q => q⟩, ?_⟩
      have hi2 : i = 0 ∨ i = 1 := by omega
      rcases hi2 with rfl | rfl
      · have ev : v₂ = .int (c.fdiv 16) tq := by simpa using hv₂.symm
        subst ev
        have := hG.append (.cons (c.fdiv 16) tq .nil)
        simpa [two] using this
      · have ev : v₂ = .int (c.fmod 16) (tq + 1) := by simpa using hv₂.symm
        subst ev
        have := hG.append (.cons (c.fmod 16) (tq + 1) .nil)
        simpa [two] using this
  · intro D h' tk its u' hD₀ hpl hG hn'
    rw [e.locals] at hn' u'
    refine h D h' tk u' (.of_plain hpl ?_) hn'
    have hG : IntsAre its.toList (((backOf (worthsOf sz)).take (backOf (worthsOf sz)).length).flatMap two) := hG
    rw [List.take_length] at hG
    exact hG
end
end Mine
namespace Mine
open PySem

theorem dropZ_cons {x : Int} {r : List Int} : dropZ (x :: r) = if (x == 0) = true then dropZ r else x :: r := by
  unfold dropZ
  rw [List.dropWhile_cons]

theorem ints_of_add : ∀ {vs : List Value} {ns : List Int}, Paired (fun n y => ∃ t, y = Value.int (65 + n) t) ns vs → IntsAre vs (ns.map fun f => 65 + f)
  | _, _, .nil => .nil
  | _, _, .cons ⟨t, e⟩ r => by
    subst e
    exact .cons _ t (ints_of_add r)

section
variable {prog : Program} {w : World} {A : Around} {E : Value → Shared → Prop} {s : Shared}

set_option maxHeartbeats 1000000 in
theorem strip_stmt {env : Env} {L F : Addr} {figs : List Int} {m : Str → Option Value} {Q : Flow → Shared → Prop} (e : EnvFor env (stmtAt atLaw) L)
    (hn : s.heap.Ns L m) (hm : m "figures" = some (.ref F)) (hF : IntsIn s.heap F figs) (hz : figs.length ≤ 100) (hne : dropZ figs ≠ [])
    (h : ∀ F' h' tk m', Up L s.heap h' → IntsIn h' F' (dropZ figs) → h'.Ns L m' → m' "figures" = some (.ref F') → (∀ n, ¬ n = Str.ofString "figures" → m' n = m n) → Q .next { s with heap := h', toks := tk }) :
    wpAny (model prog w) A (exec (lawStmt 7) env) Q E s := by
  have hk : env.scope.kind = .function := e.kind rfl
  have kn : ∀ {n : Str} {q : NameKind}, (defScope (stmtAt atLaw)).names.lookup n = some q → env.kindOf n = some q := fun {n q} hq => by
    show env.scope.names.lookup n = _
    rw [e.scope]; exact hq
  have heL := e.locals
  refine wpAny_While (codeAny_whileLoop (fun k s' => ∃ h' tk m' F' rest, s' = { s with heap := h', toks := tk } ∧ Up L s.heap h' ∧ IntsIn h' F' rest ∧ h'.Ns L m' ∧ m' "figures" = some (.ref F') ∧ (∀ n, ¬ n = Str.ofString "figures" → m' n = m n) ∧
    dropZ rest = dropZ figs ∧ rest.length ≤ k ∧ rest.length ≤ 100) ?_ figs.length ⟨s.heap, s.toks, m, F, figs, rfl, .refl, hF, hn, hm, fun _ _ => rfl, rfl, Nat.le_refl _, hz⟩)
  rintro k s' ⟨h', tk, m', F', rest, rfl, u', hF', hn', hm', ho', hd', hl', hz'⟩
  cases rest with
  | nil => exact absurd hd'.symm (by simpa [dropZ] using hne)
  | cons x r =>
    have e0 : itemAt (x :: r) 0 = x := rfl
    have hit : EvI prog w A env h' (match lawStmt 7 with | .While (.Compare l _ _ _) _ _ _ => l | _ => default) (itemAt (x :: r) 0) := EvI.item hk (kn (by decide)) (heL ▸ hn') hm' hF' .const (by rw [List.length_cons]; omega) (by rw [List.length_cons]; omega) (by omega)
    refine is_eq (s := { s with heap := h', toks := tk }) (hit.as e0) .const fun tk₁ => ?_
    by_cases hx : (x == 0) = true
    · rw [hx, if_pos rfl]
      refine wpAny_execs_cons (wpAny_Assign_Name (Subscript_ (nm hk (kn (by decide)) (heL ▸ hn') hm' (wpAny_Slice (wpAny_evalPart_some (wpAny_Constant_int (wpAny_evalPart_none (wpAny_evalPart_none ?_))))))))
      refine slice_ints (s := { s with heap := h', toks := tk₁ + 1 }) hF' (by omega) (IsPart.int _ _) .none .none (by simp) fun l₂ h₂ hl₂ keep₂ hfr₂ => ?_
      replace keep₂ : ∀ b o, h'.get? b = some o → h₂.get? b = some o := keep₂
      have ep : pickNums (x :: r) (some 1) none none = r := by
        have := pick_from (x :: r) 1
        simpa using this
      rw [ep] at hl₂
      refine wpAny_storeName_local (kn (by decide)) (heL ▸ hn'.keeps keep₂) (fun h₃ hn₃ hs₃ => wpAny_execs_nil ?_) (plainScope hk)
      rw [heL] at hn₃ hs₃
      replace hs₃ : Heap.SameBut L h₂ h₃ := hs₃
      rw [dropZ_cons, if_pos hx] at hd'
      rw [List.length_cons] at hl' hz'
      refine ⟨r.length, by omega, h₃, _, _, l₂, r, rfl, u'.trans ((Up.of_keep keep₂).trans (.of_same hs₃)), hl₂.up (.of_same hs₃) (hl₂.ne (hn'.keeps keep₂)), hn₃, by simp, fun n hne' => ?_, hd', Nat.le_refl _, by omega⟩
      rw [if_neg hne']; exact ho' n hne'
    · rw [Bool.eq_false_iff.mpr hx, if_neg Bool.false_ne_true]
      rw [dropZ_cons, if_neg hx] at hd'
      refine wpAny_execs_nil ?_
      exact h F' h' _ m' u' (hd' ▸ hF') hn' hm' ho'

set_option maxHeartbeats 1000000 in
theorem due_stmt {env : Env} {L F cU fW : Addr} {v₀ : Option Value} {base : Heap} {figs : List Int} {m : Str → Option Value} {Q : Flow → Shared → Prop} (e : EnvFor env (stmtAt atLaw) L) (hh : A.handled = none) (N2 : FigNames base fW) (hb : ∀ b o, base.get? b = some o → s.heap.get? b = some o)
    (hn : s.heap.Ns L m) (hm : m "figures" = some (.ref F)) (hF : IntsIn s.heap F figs) (hz : figs.length ≤ 100) (hr : ∀ n ∈ figs.map fun f => 65 + f, 0 ≤ n ∧ n < 256) (hcu : env.cells.lookup (Str.ofString "due") = some cU) (hclu : s.heap.IsCell cU v₀)
    (h : ∀ h' t tk, h'.IsCell cU (some (.bytes (byteArr (figs.map fun f => 65 + f)) t)) → Up cU s.heap h' → Q .next { s with heap := h', toks := tk }) :
    wpAny (model prog w) A (exec (lawStmt 8) env) Q E s := by
  have hk : env.scope.kind = .function := e.kind rfl
  have kn : ∀ {n : Str} {q : NameKind}, (defScope (stmtAt atLaw)).names.lookup n = some q → env.kindOf n = some q := fun {n q} hq => by
    show env.scope.names.lookup n = _
    rw [e.scope]; exact hq
  have heL := e.locals
  obtain ⟨mg, hg, hg1, hg2, hg3⟩ := N2.glob
  obtain ⟨mb, hbl, hbl1, hbl2⟩ := N2.blt
  refine wpAny_Assign_Name (Call_Name1 (Calls.Name_function_global hk (kn (by decide)) (Calls.loadGlobal_builtin (e.globals ▸ hg.keeps hb) hg2 (e.builtins ▸ hbl.keeps hb) hbl2 (PyProof.Rows.callWith_type rfl (Calls.evalArgs_plain (Calls.spliced_cons ?_))))))
  refine comp_listC (ns := figs) (F := fun n y => ∃ t, y = Value.int (65 + n) t) (k := "figure") (cl := []) hh (closureFor_none (by decide)) (by decide) rfl (by decide) (by decide) (by omega)
    (nm hk (kn (by decide)) (heL ▸ hn) hm ⟨F, rfl, hF, _, _, rfl, fun _ _ q => q⟩) ?_ ?_
  · intro C n t s₃ m₃ E' _ keep₃ hn₃ hm₃
    exact EvI.add .const (.name rfl (relabel_local (by decide)) hn₃ hm₃) _ _ _ rfl fun t₄ tk₄ => ⟨⟨t₄, rfl⟩, _, _, rfl, fun _ _ q => q⟩
  · intro D s₁ items K hD hpl hP
    obtain ⟨h₁, tk₁, rfl, keep₁⟩ := K
    replace keep₁ : ∀ b o, s.heap.get? b = some o → h₁.get? b = some o := keep₁
    have hi := ints_of_add hP
    have hlen := hi.length
    rw [List.length_map] at hlen
    refine Calls.spliced_nil (call_bytes_ints (vs := items.toList) (by simpa using hpl.isList) hi hr ?_ hh fun h₂ t₂ tk₂ keep₂ => ?_)
    · rw [hlen]; have := sizeLine_eq; omega
    replace keep₂ : ∀ b o, h₁.get? b = some o → h₂.get? b = some o := keep₂
    refine wpAny_storeName_cell hk (kn (by decide)) hcu ((hclu.keeps keep₁).keeps keep₂) fun h₃ hc₃ hs₃ => ?_
    replace hs₃ : Heap.SameBut cU h₂ h₃ := hs₃
    exact h h₃ t₂ _ hc₃ fun b o hb' q => hs₃.extBut b o hb' (keep₂ b o (keep₁ b o q))

structure EndNames (base : Heap) (fA : Addr) : Prop where
  glob : ∃ mg, base.Ns mainGlobals mg ∧ mg "Int2AP" = some (.ref fA) ∧ mg "isinstance" = none ∧ mg "bytes" = none
  blt : ∃ mb, base.Ns builtinsNs mb ∧ mb "isinstance" = some (.builtin "isinstance") ∧ mb "bytes" = some (.type "bytes")

theorem closureFor_end {scope : Scope} {env : Env} {c : Addr} (hsn : scope.names = [(Str.ofString ".0", .local), (Str.ofString "word", .local), (Str.ofString "isinstance", .globalImplicit), (Str.ofString "bytes", .globalImplicit), (Str.ofString "due", .free)]) (hc : env.cells.lookup (Str.ofString "due") = some c) : closureFor scope env = pure [(Str.ofString "due", c)] := by
  unfold closureFor
  rw [hsn]
  simp only [List.forIn_cons, List.forIn_nil]
  unfold cellOf
  rw [hc]
  rfl

set_option maxHeartbeats 2000000 in
/-- return [word for word in [Int2AP(number), Int2AP(-number)] if not isinstance(word, bytes) or word != due] == [] -/
theorem end_stmt {env : Env} {L cU fA : Addr} {base : Heap} {num : Int} {d : Array UInt8} {tn td : Tok} {m : Str → Option Value} {Q : Flow → Shared → Prop} (e : EnvFor env (stmtAt atLaw) L) (hh : A.handled = none) (hroom : A.depth + 1 < recursionLimit) (hu : A.units < cLine)
    (NI : IntNames base fA) (N : EndNames base fA) (hb : ∀ b o, base.get? b = some o → s.heap.get? b = some o) (hn : s.heap.Ns L m) (hm : m "number" = some (.int num tn)) (hcu : env.cells.lookup (Str.ofString "due") = some cU) (hclu : s.heap.IsCell cU (some (.bytes d td)))
    (hap : (ap num.natAbs).toArray = d) (hsz : num.natAbs < 16 ^ 64)
    (h : ∀ s', Ext s s' → Q (.ret (.bool true)) s') :
    wpAny (model prog w) A (exec (lawStmt 9) env) Q E s := by
  have hk : env.scope.kind = .function := e.kind rfl
  have kn : ∀ {n : Str} {q : NameKind}, (defScope (stmtAt atLaw)).names.lookup n = some q → env.kindOf n = some q := fun {n q} hq => by
    show env.scope.names.lookup n = _
    rw [e.scope]; exact hq
  have heL := e.locals
  obtain ⟨mg, hg, hg1, hg2, hg3⟩ := N.glob
  obtain ⟨mb, hbl, hbl2, hbl3⟩ := N.blt
  rw [← heL] at hn
  subst hap
  refine wpAny_Return_some (wpAny_Compare1 ?_)
  refine wpAny_ListComp_free (fun _ => false) (fun _ _ => True) (closureFor_end rfl hcu) (by decide) rfl (by decide) (by decide) (wpAny_List_spliced ?_)
  refine spliced_more (callDef1 hk (kn (by decide)) (e.globals ▸ hg) hg1 NI.def_ hb (nm hk (kn (by decide)) hn hm ⟨hb, call_int NI hb hh hroom hsz fun t1 s₁ x₁ => ?_⟩))
  have hb₁ : ∀ b o, base.get? b = some o → s₁.heap.get? b = some o := fun b o q => x₁.keep b o (hb b o q)
  have hn₁ := hn.keeps x₁.keep
  refine spliced_more (callDef1 hk (kn (by decide)) (e.globals ▸ hg) hg1 NI.def_ hb₁ (wpAny_UnaryOp (nm hk (kn (by decide)) hn₁ hm (neg_int ⟨hb₁, call_int NI hb₁ hh hroom (by rw [Int.natAbs_neg]; exact hsz) fun t2 s₂ x₂ => ?_⟩))))
  rw [Int.natAbs_neg]
  have keep₂ : ∀ b o, s.heap.get? b = some o → s₂.heap.get? b = some o := fun b o q => x₂.keep b o (x₁.keep b o q)
  have hos₂ : s₂.os = s.os := x₂.os.trans x₁.os
  have hbare₂ : AllBare s.gens → AllBare s₂.gens := fun q => x₂.bare (x₁.bare q)
  refine Calls.spliced_nil ⟨by show 2 ≤ sizeLine; decide, ?_⟩
  obtain ⟨vs, hvs⟩ : ∃ vs : List Value, vs = [.bytes (ap num.natAbs).toArray t1, .bytes (ap num.natAbs).toArray t2] := ⟨_, rfl⟩
  have hall : ∀ (j : Nat) (v : Value), vs[j]? = some v → ∃ t, v = Value.bytes (ap num.natAbs).toArray t := by
    intro j v hv
    rw [hvs] at hv
    match j with
    | 0 => exact ⟨t1, by simpa using hv.symm⟩
    | 1 => exact ⟨t2, by simpa using hv.symm⟩
    | j + 2 => simp at hv
  show wpAny _ _ (pyIter (.ref (s₂.heap.objs.size))) _ _ { s₂ with heap := s₂.heap.push { cls := .type "list", data := .seq ([.bytes (ap num.natAbs).toArray t1, .bytes (ap num.natAbs).toArray t2] : List Value).toArray } }
  rw [← hvs]
  obtain ⟨l, el⟩ : ∃ l : Addr, l = s₂.heap.objs.size := ⟨_, rfl⟩
  obtain ⟨H, eH⟩ : ∃ H, H = s₂.heap.push { cls := .type "list", data := .seq vs.toArray } := ⟨_, rfl⟩
  have hL : H.IsList l vs.toArray := eH ▸ el ▸ ⟨_, Heap.get?_push_size _ rfl, rfl, _, rfl⟩
  have kH : ∀ b o, s₂.heap.get? b = some o → H.get? b = some o := fun b o q => eH ▸ Heap.get?_push_of_some _ q
  rw [← eH, ← el]
  have hll : l < H.objs.size := by obtain ⟨o, ho, _⟩ := hL; exact Heap.lt_size ho
  refine wpAny_pyIter_list hL ?_
  refine ⟨_, _, _, _, _, _, rfl, Walks.list (A := A) hh _ l (Nat.ne_of_lt hll) vs.toArray, by rw [hvs]; show 2 ≤ sizeLine; decide, ⟨⟨_, Heap.get?_push_size _ rfl, rfl, rfl⟩, (by obtain ⟨o, ho, r⟩ := hL; exact ⟨o, Heap.get?_push_of_some _ ho, r⟩)⟩, ?_, ?_, ?_⟩
  · intro b hb'
    rw [Heap.size_push]
    simp only [List.mem_cons, List.not_mem_nil, or_false] at hb'
    rcases hb' with rfl | rfl
    · exact Nat.lt_succ_self _
    · exact Nat.lt_succ_of_lt hll
  · refine ⟨?_, fun _ _ _ _ _ _ _ _ hf => by cases hf⟩
    rintro C i v s₃ m₃ E' hC hP hn₃ hm₃ keep₃ -
    obtain ⟨t, rfl⟩ := hall i v (by simpa using hP)
    have old : ∀ b o, s.heap.get? b = some o → s₃.heap.get? b = some o := fun b o q => by
      have q₁ := kH b o (keep₂ b o q)
      refine keep₃ b o (fun hb => ?_) (Heap.get?_push_of_some _ q₁)
      have e := List.mem_singleton.mp hb
      exact absurd (Heap.lt_size q₁) (by rw [e]; exact Nat.lt_irrefl _)
    have hb₃ : ∀ b o, base.get? b = some o → s₃.heap.get? b = some o := fun b o q => old b o (hb b o q)
    refine wpAny_tests_one (isTrue_or (isTrue_not (isTrue_plain (Call_Name2 ?_))))
    refine Calls.Name_function_global rfl (relabel_global (by decide)) (Calls.loadGlobal_builtin (e.globals ▸ hg.keeps hb₃) hg2 (e.builtins ▸ hbl.keeps hb₃) hbl2 ?_)
    refine Calls.callWith_builtin rfl (Calls.evalArgs_plain (Calls.spliced_cons ?_))
    refine nm rfl (relabel_local (by decide)) hn₃ hm₃ (Calls.spliced_cons ?_)
    refine Calls.Name_function_global rfl (relabel_global (by decide)) (Calls.loadGlobal_builtin (e.globals ▸ hg.keeps hb₃) hg3 (e.builtins ▸ hbl.keeps hb₃) hbl3 ?_)
    refine Calls.spliced_nil (isi_bytes (wpAny_truthy_bool ?_))
    show if false = true then _ else _
    rw [if_neg Bool.false_ne_true]
    refine isTrue_or (wpAny_isTrue_Compare1 (nm rfl (relabel_local (by decide)) hn₃ hm₃ (wpAny_Name (wpAny_loadName_cell rfl (relabel_free (by decide) hk (kn (by decide))) (c := cU) (by simp [compEnvC]) (hclu.keeps old) ?_) (by decide))))
    refine ne_bytes (wpAny_truthy_bool ?_)
    have hne : ((ap num.natAbs).toArray.toList != (ap num.natAbs).toArray.toList) = false := by simp
    rw [hne, if_neg Bool.false_ne_true]
    refine isTrue_or_nil ?_
    exact ⟨rfl, keeps_refl _⟩
  · intro D h' tk ys vs' hD hyl hypl hlen hvs' hF hk'
    have hy0 : ys.toList = [] := by
      rw [List.filter_eq_nil_iff.mpr (fun _ _ => by decide)] at hF
      cases hy : ys.toList with
      | nil => rfl
      | cons a r => rw [hy] at hF; cases hF
    have old : ∀ b o, s.heap.get? b = some o → h'.get? b = some o := fun b o q => by
      have q₁ := kH b o (keep₂ b o q)
      refine hk' b o (fun hb => ?_) (Heap.get?_push_of_some _ q₁)
      have e := List.mem_singleton.mp hb
      exact absurd (Heap.lt_size q₁) (by rw [e]; exact Nat.lt_irrefl _)
    refine wpAny_List_spliced (Calls.spliced_nil ⟨Nat.zero_le _, ?_⟩)
    refine eq_ints (ns := []) (ms := []) (.of_plain (hypl.at fun o q => Heap.get?_push_of_some _ q) (by rw [hy0]; exact .nil)) (IntsIn.new .nil) hu ?_
    exact h _ ⟨fun b o q => Heap.get?_push_of_some _ (old b o q), hos₂, hbare₂⟩
end
end Mine
namespace Mine
open PySem

structure Facts (ad : List Int) : Prop where
  worth : WorthOk (sizesOf ad)
  lack : ∀ one ∈ orders4, 0 ≤ lackOf (textOf ad one) (sizesOf ad).sum ∧ lackOf (textOf ad one) (sizesOf ad).sum ≤ 9
  ends : dropZ (figsOf (sizesOf ad)) ≠ []
  rng : ∀ n ∈ dueOf (sizesOf ad), 0 ≤ n ∧ n < 256
  word : (ap (numberOf ad).natAbs).toArray = byteArr (dueOf (sizesOf ad))
  size : (numberOf ad).natAbs < 16 ^ 64

structure TopNames (base : Heap) (fL fK fO fW : Addr) : Prop where
  def_ : FnIs base (stmtAt atLaw) fL
  glob : ∃ mg, base.Ns mainGlobals mg ∧ mg "range" = none ∧ mg "sum" = none
  blt : ∃ mb, base.Ns builtinsNs mb ∧ mb "range" = some (.type "range") ∧ mb "sum" = some (.builtin "sum")

theorem old_up {h₀ h h' : Heap} {x : Addr} (fx : h₀.get? x = none) (old : ∀ b o, h₀.get? b = some o → h.get? b = some o) (u : Up x h h') : ∀ b o, h₀.get? b = some o → h'.get? b = some o :=
  fun b o q => u b o (fun z => by rw [z, fx] at q; cases q) (old b o q)
theorem ints_ne_cell {h : Heap} {l c : Addr} {ns : List Int} {v : Option Value} (x : IntsIn h l ns) (y : h.IsCell c v) : l ≠ c := by
  obtain ⟨_, ⟨o, ho, _, _, hd⟩, _⟩ := x
  exact cell_not_seq y ho hd
theorem strs_ne_cell {h : Heap} {l c : Addr} {xs : List Str} {v : Option Value} (x : StrsIn h l xs) (y : h.IsCell c v) : l ≠ c := by
  obtain ⟨_, ⟨o, ho, _, _, hd⟩, _⟩ := x
  exact cell_not_seq y ho hd
theorem ns_up {h h' : Heap} {L c : Addr} {m : Str → Option Value} (hn : h.Ns L m) (u : Up c h h') (hc : L ≠ c) : h'.Ns L m := hn.at' fun o q => u L o hc q
theorem figs_len (sz : List Int) : (figsOf sz).length ≤ 100 := by
  unfold figsOf
  have h1 := flat_le two 2 (backOf (worthsOf sz)) fun c _ => by simp [two]
  have h2 : (backOf (worthsOf sz)).length ≤ 9 := by
    have := length_pickNums_le (ints_exist (worthsOf sz)) none none (some (-1))
    rw [worths_len] at this
    exact this
  omega
theorem zt1 : ¬ (Str.ofString "number" = Str.ofString "figures") := by decide

section
variable {prog : Program} {w : World} {A : Around} {E : Value → Shared → Prop} {s : Shared}

set_option maxHeartbeats 4000000 in
theorem call_law {base : Heap} {fI fS fC fT fA fL fK fO fW l : Addr} {ns : List Int} {Q : Value → Shared → Prop} (HF : ∀ ad : List Int, ad.length = 4 → Facts ad)
    (N : Names base fI fS fC) (N2 : TakenNames base fC fT) (N3 : LackNames base fK fT) (N4 : OrdersNames base fO) (N5 : SumNames base fK fO) (NW : WorthNames base fW) (NF : FigNames base fW) (NI : IntNames base fA) (NE : EndNames base fA) (NT : TopNames base fL fK fO fW)
    (hh : A.handled = none) (hroom : A.depth + 6 < recursionLimit) (hu : A.units + 6 < cLine)
    (hb : ∀ b o, base.get? b = some o → s.heap.get? b = some o) (hl : IntsIn s.heap l ns) (hz : ns.length ≤ 1000) (h : ∀ s', Ext s s' → Q (.bool true) s') :
    wpAny (model prog w) A (call (.ref fL) [.ref l]) Q E s := by
  refine enterCells (cs := fun L => cellsFrom L (defScope (stmtAt atLaw)).names []) (binds := [("script", .ref l)]) (by omega) NT.def_ N.lim hb ?_ (fun _ => rfl) ?_ rfl rfl rfl fun env h₁ tk₁ e1 e2 e3 e4 e5 e6 hcells hapart hn hk₁ => ?_
  · rintro ⟨name, qualname, params, body, scope, globals, closure, defaults, kwdefaults, doc, pyModule, anns, code, closureTuple, builtins⟩ h1 h2 h3
    dsimp only at h1 h2 h3
    subst h1 h2 h3
    rfl
  · intro L y hy
    rcases List.mem_cons.mp hy with rfl | hy
    · exact .inr ⟨rfl, rfl⟩
    cases hy
  have e : EnvFor env (stmtAt atLaw) s.heap.objs.size := ⟨e1, e2, e3, e4, e5⟩
  have hk : env.scope.kind = .function := e.kind rfl
  have kn : ∀ {n : Str} {q : NameKind}, (defScope (stmtAt atLaw)).names.lookup n = some q → env.kindOf n = some q := fun {n q} hq => by
    show env.scope.names.lookup n = _
    rw [e.scope]; exact hq
  have hh' : (A.deeper env).handled = none := hh
  have hroom' : (A.deeper env).depth + 5 < recursionLimit := by show A.depth + 1 + 5 < _; omega
  have hu' : (A.deeper env).units < cLine := by show A.units + 3 < _; omega
  obtain ⟨L, hL⟩ : ∃ L, L = s.heap.objs.size := ⟨_, rfl⟩
  have hLs : s.heap.get? L = none := hL ▸ getAbove _
  have look : ∀ (n : Str) (c : Addr), (cellsFrom (s.heap.objs.size + 1) (defScope (stmtAt atLaw)).names []).lookup n = some c → ∃ c', c' = c ∧ env.cells.lookup n = some c' ∧ c' ≠ L ∧ s.heap.get? c' = none ∧ ∃ v, h₁.IsCell c' v := fun n c hc => by
    have lc : env.cells.lookup n = some c := by rw [e6]; exact hc
    obtain ⟨q1, q2, q3⟩ := hcells _ _ lc
    exact ⟨c, rfl, lc, by rw [hL]; exact q1, q2, _, q3⟩
  have cS := hcells (Str.ofString "script") (s.heap.objs.size + 1) (by rw [e6]; rfl)
  obtain ⟨c0, ec0, l0, n0, f0, _⟩ := look (Str.ofString "script") (s.heap.objs.size + 1) rfl
  obtain ⟨c1, _, l1, n1, f1, v1, k1⟩ := look (Str.ofString "adds") (s.heap.objs.size + 1 + 1) rfl
  obtain ⟨c2, _, l2, n2, f2, v2, k2⟩ := look (Str.ofString "sizes") (s.heap.objs.size + 1 + 1 + 1) rfl
  obtain ⟨c3, _, l3, n3, f3, v3, k3⟩ := look (Str.ofString "dress") (s.heap.objs.size + 1 + 1 + 1 + 1) rfl
  obtain ⟨c4, _, l4, n4, f4, v4, k4⟩ := look (Str.ofString "pieces") (s.heap.objs.size + 1 + 1 + 1 + 1 + 1) rfl
  obtain ⟨c5, _, l5, n5, f5, v5, k5⟩ := look (Str.ofString "whole") (s.heap.objs.size + 1 + 1 + 1 + 1 + 1 + 1) rfl
  obtain ⟨c6, _, l6, n6, f6, v6, k6⟩ := look (Str.ofString "due") (s.heap.objs.size + 1 + 1 + 1 + 1 + 1 + 1 + 1) rfl
  have kS : h₁.IsCell c0 (some (.ref l)) := by rw [ec0]; exact cS.2.2
  clear cS look ec0
  have a12 := hapart _ _ _ _ l1 l2 (by decide)
  have a13 := hapart _ _ _ _ l1 l3 (by decide)
  have a23 := hapart _ _ _ _ l2 l3 (by decide)
  have a24 := hapart _ _ _ _ l2 l4 (by decide)
  have a25 := hapart _ _ _ _ l2 l5 (by decide)
  have a34 := hapart _ _ _ _ l3 l4 (by decide)
  have a31 := Ne.symm a13
  have a41 := hapart _ _ _ _ l4 l1 (by decide)
  have a42 := Ne.symm a24
  have a43 := Ne.symm a34
  have a45 := hapart _ _ _ _ l4 l5 (by decide)
  have a51 := hapart _ _ _ _ l5 l1 (by decide)
  have a52 := Ne.symm a25
  have a53 := hapart _ _ _ _ l5 l3 (by decide)
  have a54 := Ne.symm a45
  have a61 := hapart _ _ _ _ l6 l1 (by decide)
  have a62 := hapart _ _ _ _ l6 l2 (by decide)
  have a63 := hapart _ _ _ _ l6 l3 (by decide)
  have a64 := hapart _ _ _ _ l6 l4 (by decide)
  have a65 := hapart _ _ _ _ l6 l5 (by decide)
  rw [← hL] at e hn
  have heL := e.locals
  have hLb : base.get? L = none := by
    cases q : base.get? L with
    | none => rfl
    | some o => rw [hb _ _ q] at hLs; cases hLs
  obtain ⟨mg, hg, hg1, hg2⟩ := NT.glob
  obtain ⟨mb, hbl, hbl1, hbl2⟩ := NT.blt
  obtain ⟨M₁, _, hn₁⟩ := forget hn
  -- adds
  refine wpAny_execs_cons (adds_cell (cnt := 4) (c := c0) (cy := c1) (l := l) (ns := ns) (base := base) hh' hk (kn (by decide)) l0 (kn (by decide)) l1 (kn (by decide)) rfl rfl (by decide) (by decide) (by decide) (by decide) (by decide) (e.builtins ▸ hbl) hbl1 hbl2 (e.globals ▸ hg) hg1 hg2 (fun b o q => hk₁ b o (hb b o q)) kS k1 (hl.keeps fun o q => hk₁ _ o q) hz (by decide) (by decide) (by decide) (by decide)
    fun D h₂ tk₂ _ hDA hD hcl₂ u₂ => ?_)
  replace u₂ : Up c1 h₁ h₂ := u₂
  obtain ⟨ad, had⟩ : ∃ ad, ad = addsOf ns 4 4 := ⟨_, rfl⟩
  have len : ad.length = 4 := had ▸ addsOf_len _ _ _
  rw [← had] at hD
  have F := HF ad len
  have o₂ := old_up f1 hk₁ u₂
  have hn₂ := ns_up hn₁ u₂ (Ne.symm n1)
  have k2' := cell_up k2 u₂ (Ne.symm a12)
  -- sizes
  refine wpAny_execs_cons (sizes_stmt e hh' hg hg1 hbl hbl1 (fun b o q => o₂ b o (hb b o q)) l1 hcl₂ hD len l2 k2' fun Z h₃ tk₃ _ hZ hclZ u₃ => ?_)
  replace u₃ : Up c2 h₂ h₃ := u₃
  have o₃ := old_up f2 o₂ u₃
  have hn₃ := ns_up hn₂ u₃ (Ne.symm n2)
  have k3' := cell_up (cell_up k3 u₂ a31) u₃ (Ne.symm a23)
  have hD₃ := hD.up u₃ (ints_ne_cell hD k2')
  -- dress
  refine wpAny_execs_cons (dress_stmt e hh' hg hg1 hbl hbl1 (fun b o q => o₃ b o (hb b o q)) l1 (cell_up hcl₂ u₃ a12) hD₃ len l3 k3' fun Dr h₄ tk₄ _ hDr hclD u₄ => ?_)
  replace u₄ : Up c3 h₃ h₄ := u₄
  have o₄ := old_up f3 o₃ u₄
  have hn₄ := ns_up hn₃ u₄ (Ne.symm n3)
  have k4' := cell_up (cell_up (cell_up k4 u₂ a41) u₃ a42) u₄ a43
  have hZ₄ := hZ.up u₄ (ints_ne_cell hZ k3')
  have hclZ₄ := cell_up hclZ u₄ a23
  -- pieces
  refine wpAny_execs_cons (pieces_stmt e hh' hg hg1 hbl hbl1 (fun b o q => o₄ b o (hb b o q)) l2 hclZ₄ hZ₄ l3 hclD hDr l4 k4' fun P h₅ tk₅ _ hP hclP u₅ => ?_)
  replace u₅ : Up c4 h₄ h₅ := u₅
  have o₅ := old_up f4 o₄ u₅
  have hn₅ := ns_up hn₄ u₅ (Ne.symm n4)
  have k5' := cell_up (cell_up (cell_up (cell_up k5 u₂ a51) u₃ a52) u₄ a53) u₅ a54
  have hZ₅ := hZ₄.up u₅ (ints_ne_cell hZ₄ k4')
  have hclZ₅ := cell_up hclZ₄ u₅ a24
  -- whole
  refine wpAny_execs_cons (whole_stmt e hh' hg hg2 hbl hbl2 (fun b o q => o₅ b o (hb b o q)) l2 hclZ₅ hZ₅ l5 k5' fun h₆ tw tk₆ hclW u₆ => ?_)
  replace u₆ : Up c5 h₅ h₆ := u₆
  have o₆ := old_up f5 o₅ u₆
  have hn₆ := ns_up hn₅ u₆ (Ne.symm n5)
  have k6' := cell_up (cell_up (cell_up (cell_up (cell_up k6 u₂ a61) u₃ a62) u₄ a63) u₅ a64) u₆ a65
  have hZ₆ := hZ₅.up u₆ (ints_ne_cell hZ₅ k5')
  have hclZ₆ := cell_up hclZ₅ u₆ a25
  have hP₆ := hP.up u₆ (strs_ne_cell hP k5')
  have hclP₆ := cell_up hclP u₆ a45
  -- number
  refine wpAny_execs_cons (number_stmt e hh' (by omega) N N2 N3 N4 N5 (fun b o q => o₆ b o (hb b o q)) hn₆ l4 hclP₆ hP₆ l5 hclW F.lack fun s₇ tn u₇ os₇ bare₇ hn₇ => ?_)
  replace u₇ : Up L h₆ s₇.heap := u₇
  have o₇ := old_up hLs o₆ u₇
  obtain ⟨M₇, a₇, hn₇⟩ := forget hn₇
  have b₇ : M₇ "number" = some (.int (numberOf ad) tn) := by rw [a₇]; simp
  clear a₇
  have hZ₇ := hZ₆.up u₇ (hZ₆.ne hn₆)
  have hclZ₇ := cell_up hclZ₆ u₇ n2
  have k6₇ := cell_up k6' u₇ n6
  -- figures
  refine wpAny_execs_cons (figures_stmt e hh' (by omega) NW NF (fun b o q => o₇ b o (hb b o q)) hn₇ l2 hclZ₇ hZ₇ F.worth fun Fg h₈ tk₈ u₈ hF₈ hn₈ => ?_)
  replace u₈ : Up L s₇.heap h₈ := u₈
  have o₈ := old_up hLs o₇ u₈
  obtain ⟨M₈, a₈, hn₈⟩ := forget hn₈
  have b₈ : M₈ "number" = some (.int (numberOf ad) tn) := by rw [a₈]; simp [zt1, b₇]
  have c₈ : M₈ "figures" = some (.ref Fg) := by rw [a₈]; simp
  clear a₈
  -- while
  refine wpAny_execs_cons (strip_stmt e hn₈ c₈ hF₈ (figs_len _) F.ends fun Fh h₉ tk₉ M₉ u₉ hF₉ hn₉ c₉ a₉ => ?_)
  replace u₉ : Up L h₈ h₉ := u₉
  have o₉ := old_up hLs o₈ u₉
  have b₉ : M₉ "number" = some (.int (numberOf ad) tn) := (a₉ _ zt1).trans b₈
  have k6₉ := cell_up (cell_up k6₇ u₈ n6) u₉ n6
  -- due
  refine wpAny_execs_cons (due_stmt e hh' NF (fun b o q => o₉ b o (hb b o q)) hn₉ c₉ hF₉ ?_ F.rng l6 k6₉ fun h₀ td tk₀ hclU u₀ => ?_)
  · have h1 := figs_len (sizesOf ad)
    have h2 : (dropZ (figsOf (sizesOf ad))).length ≤ (figsOf (sizesOf ad)).length := by
      unfold dropZ
      exact (List.dropWhile_sublist _).length_le
    omega
  replace u₀ : Up c6 h₉ h₀ := u₀
  have o₀ := old_up f6 o₉ u₀
  have hn₀ := ns_up hn₉ u₀ (Ne.symm n6)
  -- the end
  refine wpAny_execs_cons (end_stmt (s := { s₇ with heap := h₀, toks := tk₀ }) e hh' (by omega) hu' NI NE (fun b o q => o₀ b o (hb b o q)) hn₀ b₉ l6 hclU F.word F.size fun s' x => ?_)
  exact h s' ⟨fun b o q => x.keep b o (o₀ b o q), x.os.trans os₇, fun q => x.bare (bare₇ q)⟩
end
end Mine
namespace Mine
open PySem

/-- what a text of tokens adds to the open brackets, and how far it goes below its start -/
def net : List Tk → Int
  | [] => 0
  | .op :: r => 1 + net r
  | .cl :: r => -1 + net r
  | _ :: r => net r
def low : List Tk → Int
  | [] => 0
  | .op :: r => min 0 (1 + low r)
  | .cl :: r => min 0 (-1 + low r)
  | _ :: r => low r

theorem low_le : ∀ ts : List Tk, low ts ≤ 0 ∧ low ts ≤ net ts
  | [] => ⟨Int.le_refl _, Int.le_refl _⟩
  | t :: r => by
    have ih := low_le r
    cases t with
    | op => simp only [low, net]; omega
    | cl => simp only [low, net]; omega
    | esc c => simpa only [low, net] using ih
    | quo l => simpa only [low, net] using ih
theorem bal_low : ∀ (ts : List Tk) (n : Int), 0 ≤ n → bal ts n = decide (0 ≤ n + low ts ∧ n + net ts = 0)
  | [], n, h => by
    show (n == 0) = _
    simp only [low, net]
    by_cases h0 : n = 0
    · subst h0; rfl
    · have h1 : (n == 0) = false := by simpa using h0
      rw [h1]
      exact (decide_eq_false (by omega)).symm
  | t :: r, n, h => by
    have hl := low_le r
    cases t with
    | op =>
      show bal r (n + 1) = _
      rw [bal_low r (n + 1) (by omega)]
      simp only [low, net]
      exact decide_eq_decide.mpr (by omega)
    | cl =>
      show (if n - 1 < 0 then false else bal r (n - 1)) = _
      simp only [low, net]
      by_cases h1 : n - 1 < 0
      · rw [if_pos h1]
        exact (decide_eq_false (by omega)).symm
      · rw [if_neg h1, bal_low r (n - 1) (by omega)]
        exact decide_eq_decide.mpr (by omega)
    | esc c => exact bal_low r n h
    | quo l => exact bal_low r n h
theorem net_append : ∀ a b : List Tk, net (a ++ b) = net a + net b
  | [], b => by show net b = 0 + net b; omega
  | t :: r, b => by
    have ih := net_append r b
    cases t <;> simp only [List.cons_append, net] <;> omega
theorem low_append : ∀ a b : List Tk, low (a ++ b) = min (low a) (net a + low b)
  | [], b => by
    have := low_le b
    show low b = min 0 (0 + low b)
    omega
  | t :: r, b => by
    have ih := low_append r b
    cases t <;> simp only [List.cons_append, low, net] <;> omega
theorem ops_are : ∀ k : Nat, net (List.replicate k Tk.op) = k ∧ low (List.replicate k Tk.op) = 0
  | 0 => ⟨rfl, rfl⟩
  | k + 1 => by
    have ih := ops_are k
    rw [List.replicate_succ]
    simp only [net, low]
    omega
theorem cls_are : ∀ k : Nat, net (List.replicate k Tk.cl) = -k ∧ low (List.replicate k Tk.cl) = -k
  | 0 => ⟨rfl, rfl⟩
  | k + 1 => by
    have ih := cls_are k
    rw [List.replicate_succ]
    simp only [net, low]
    omega

theorem strOf_ops (n : Int) : repS 40 n = strOf (List.replicate n.toNat Tk.op) := by
  unfold repS strOf cpsOf
  congr 2
  induction n.toNat with
  | zero => rfl
  | succ k ih => rw [List.replicate_succ, List.replicate_succ, List.flatMap_cons, ← ih]; rfl
theorem strOf_cls (n : Int) : repS 41 n = strOf (List.replicate n.toNat Tk.cl) := by
  unfold repS strOf cpsOf
  congr 2
  induction n.toNat with
  | zero => rfl
  | succ k ih => rw [List.replicate_succ, List.replicate_succ, List.flatMap_cons, ← ih]; rfl

/-- a text of tokens lacks what it goes below its start -/
theorem lack_tokens {T : List Tk} (hok : ∀ t ∈ T, t.ok) {tot : Int} (hnet : net T = -tot) (hp : -low T ≤ 9) : lackOf (strOf T) tot = -low T := by
  have hl := low_le T
  have okA : ∀ (a c : Nat), ∀ t ∈ List.replicate a Tk.op ++ T ++ List.replicate c Tk.cl, t.ok := by
    intro a c t ht
    rcases List.mem_append.mp ht with h | h
    · rcases List.mem_append.mp h with h | h
      · rw [List.eq_of_mem_replicate h]; trivial
      · exact hok t h
    · rw [List.eq_of_mem_replicate h]; trivial
  have hA : ∀ a : Int, 0 ≤ a → tot ≤ a → chk (lackA (strOf T) tot a) = decide (0 ≤ a + low T) := by
    intro a h0 ht
    unfold lackA
    rw [strOf_ops, strOf_cls, strOf_append, strOf_append, chk_tokens (okA _ _), bal_low _ _ (Int.le_refl _)]
    have e1 := ops_are a.toNat
    have e2 := cls_are (a - tot).toNat
    simp only [low_append, net_append, e1.1, e1.2, e2.1, e2.2]
    exact decide_eq_decide.mpr (by omega)
  have hB : ∀ a : Int, 0 ≤ a → tot ≤ a → chk (lackB (strOf T) a) = false := by
    intro a h0 ht
    unfold lackB
    have e1 := ops_are (a + 1).toNat
    rw [strOf_ops, strOf_append, chk_tokens (by have := okA (a + 1).toNat 0; simpa using this), bal_low _ _ (Int.le_refl _)]
    rw [low_append, net_append, e1.1, e1.2]
    exact decide_eq_false (by omega)
  have go : ∀ (f : Nat) (a : Int), 0 ≤ a → tot ≤ a → a ≤ -low T → -low T - a ≤ f → lackGo (strOf T) tot f a = -low T := by
    intro f
    induction f with
    | zero => intro a h0 ht h1 h2; show a = _; omega
    | succ f ih =>
      intro a h0 ht h1 h2
      show (if a < 9 ∧ (chk (lackA (strOf T) tot a) = false ∨ chk (lackB (strOf T) a) = true) then lackGo (strOf T) tot f (a + 1) else a) = _
      rw [hA a h0 ht, hB a h0 ht]
      by_cases hc : a = -low T
      · rw [if_neg (by simp; omega)]; exact hc
      · rw [if_pos ⟨by omega, .inl (decide_eq_false (by omega))⟩]
        exact ih (a + 1) (by omega) (by omega) (by omega) (by omega)
  unfold lackOf
  refine go 10 _ ?_ ?_ ?_ ?_ <;> split <;> omega
end Mine
namespace Mine
open PySem

def pieceTk (ad : List Int) (k : Nat) : List Tk := dtok (dressIx ad k).toNat ++ List.replicate (sizeAt ad k).toNat Tk.cl ++ List.replicate (-sizeAt ad k).toNat Tk.op
theorem dress_ix (ad : List Int) (k : Nat) : (dressIx ad k).toNat < 5 := by
  have r0 : 0 ≤ dressIx ad k := Int.fmod_nonneg_of_pos _ (show (0 : Int) < 5 by decide)
  have r1 : dressIx ad k < 5 := Int.fmod_lt_of_pos _ (show (0 : Int) < 5 by decide)
  omega
theorem dtok_ok : ∀ i, i < 5 → (∀ t ∈ dtok i, t.ok) ∧ net (dtok i) = 0 ∧ low (dtok i) = 0 := by
  intro i hi
  have : i = 0 ∨ i = 1 ∨ i = 2 ∨ i = 3 ∨ i = 4 := by omega
  rcases this with rfl | rfl | rfl | rfl | rfl <;> simp [dtok, Tk.ok, net, low]
theorem piece_tokens (ad : List Int) (k : Nat) : pieceAt ad k = strOf (pieceTk ad k) := by
  unfold pieceAt pieceTk dressAt
  rw [dress_tok.2 _ (dress_ix ad k), strOf_cls, strOf_ops, strOf_append, strOf_append]
theorem pieceTk_ok (ad : List Int) (k : Nat) : ∀ t ∈ pieceTk ad k, t.ok := by
  intro t ht
  rcases List.mem_append.mp ht with h | h
  · rcases List.mem_append.mp h with h | h
    · exact (dtok_ok _ (dress_ix ad k)).1 t h
    · rw [List.eq_of_mem_replicate h]; trivial
  · rw [List.eq_of_mem_replicate h]; trivial
theorem pieceTk_low (ad : List Int) (k : Nat) : net (pieceTk ad k) = -sizeAt ad k ∧ low (pieceTk ad k) = -upN (sizeAt ad k) := by
  have h := dtok_ok _ (dress_ix ad k)
  have e1 := cls_are (sizeAt ad k).toNat
  have e2 := ops_are (-sizeAt ad k).toNat
  unfold pieceTk upN
  simp only [net_append, low_append, h.2.1, h.2.2, e1.1, e1.2, e2.1, e2.2]
  split <;> omega

def lowN : List Int → Int
  | [] => 0
  | s :: r => min (-upN s) (-s + lowN r)
theorem flat_low (ad : List Int) : ∀ one : List Int, low (one.map fun n => pieceTk ad n.toNat).flatten = lowN (one.map fun n => sizeAt ad n.toNat) ∧ net (one.map fun n => pieceTk ad n.toNat).flatten = -(one.map fun n => sizeAt ad n.toNat).sum
  | [] => ⟨rfl, rfl⟩
  | n :: r => by
    have ih := flat_low ad r
    have hp := pieceTk_low ad n.toNat
    simp only [List.map_cons, List.flatten_cons, List.sum_cons, low_append, net_append, lowN]
    rw [ih.1, ih.2, hp.1, hp.2]
    exact ⟨rfl, by omega⟩
theorem text_tokens (ad : List Int) {one : List Int} (h : ∀ n ∈ one, 0 ≤ n ∧ n < 4) : textOf ad one = strOf (one.map fun n => pieceTk ad n.toNat).flatten := by
  unfold textOf
  rw [← join_tokens, List.map_map]
  congr 1
  refine List.map_congr_left fun n hn => ?_
  obtain ⟨h0, h4⟩ := h n hn
  show pieceOf ad n = strOf (pieceTk ad n.toNat)
  rw [← piece_tokens]
  exact map_range_get _ _ (by omega)

def sizeN (sz : List Int) (n : Int) : Int := sz.getD n.toNat 0
def lackS (sz one : List Int) : Int := -lowN (one.map (sizeN sz))
theorem sizes_at (ad : List Int) {one : List Int} (h : ∀ n ∈ one, 0 ≤ n ∧ n < 4) : (one.map fun n => sizeAt ad n.toNat) = one.map (sizeN (sizesOf ad)) := by
  refine List.map_congr_left fun n hn => ?_
  obtain ⟨h0, h4⟩ := h n hn
  exact (map_range_get (sizeAt ad) 0 (by omega)).symm
theorem lack_eq (ad : List Int) {one : List Int} (h : ∀ n ∈ one, 0 ≤ n ∧ n < 4) (hsum : (one.map (sizeN (sizesOf ad))).sum = (sizesOf ad).sum) (hp : lackS (sizesOf ad) one ≤ 9) :
    lackOf (textOf ad one) (sizesOf ad).sum = lackS (sizesOf ad) one := by
  have hf := flat_low ad one
  rw [sizes_at ad h] at hf
  rw [text_tokens ad h]
  unfold lackS at hp ⊢
  rw [← hf.1] at hp ⊢
  refine lack_tokens (fun t ht => ?_) (by rw [hf.2, hsum]) hp
  obtain ⟨x, hx, htx⟩ := List.mem_flatten.mp ht
  obtain ⟨n, _, rfl⟩ := List.mem_map.mp hx
  exact pieceTk_ok ad _ t htx

/-- the twenty-four orders, written out -/
def ordersL : List (List Int) := [[3, 2, 1, 0], [2, 3, 1, 0], [2, 1, 3, 0], [2, 1, 0, 3], [3, 1, 2, 0], [1, 3, 2, 0], [1, 2, 3, 0], [1, 2, 0, 3],
  [3, 1, 0, 2], [1, 3, 0, 2], [1, 0, 3, 2], [1, 0, 2, 3], [3, 2, 0, 1], [2, 3, 0, 1], [2, 0, 3, 1], [2, 0, 1, 3],
  [3, 0, 2, 1], [0, 3, 2, 1], [0, 2, 3, 1], [0, 2, 1, 3], [3, 0, 1, 2], [0, 3, 1, 2], [0, 1, 3, 2], [0, 1, 2, 3]]
theorem orders_eq : orders4 = ordersL := by decide +kernel

def powN : Nat → Int
  | 0 => 1
  | k + 1 => powN k * 256
theorem powN_eq : ∀ k : Nat, powN k = 256 ^ k
  | 0 => rfl
  | k + 1 => by rw [Int.pow_succ, ← powN_eq k]; rfl
def numS (sz : List Int) : Int := (ordersL.map fun one => powN (lackS sz one).toNat).sum

theorem number_eq (ad : List Int) (hall : ∀ one ∈ ordersL, (one.map (sizeN (sizesOf ad))).sum = (sizesOf ad).sum ∧ lackS (sizesOf ad) one ≤ 9) : numberOf ad = numS (sizesOf ad) := by
  unfold numberOf numS
  have e : (List.range orders4.length).map (numAt ad) = orders4.map fun one => 256 ^ (lackOf (textOf ad one) (sizesOf ad).sum).toNat :=
    range_get (fun one => (256 : Int) ^ (lackOf (textOf ad one) (sizesOf ad).sum).toNat) [] orders4
  rw [e]
  have e2 : (orders4.map fun one => (256 : Int) ^ (lackOf (textOf ad one) (sizesOf ad).sum).toNat) = ordersL.map fun one => powN (lackS (sizesOf ad) one).toNat := by
    rw [orders_eq]
    refine List.map_congr_left fun one ho => ?_
    have hin := (orders_are.2 one (by rw [orders_eq]; exact ho)).2
    rw [powN_eq, lack_eq ad hin (hall one ho).1 (hall one ho).2]
  rw [e2]

def seatB (st : Seat) : Bool := decide (st.1.length ≤ 100) && decide (0 ≤ st.2 ∧ st.2 ≤ 1000)
theorem seat_ok {st : Seat} (h : seatB st = true) : SeatOk st := by
  unfold seatB at h
  simp only [Bool.and_eq_true, decide_eq_true_eq] at h
  refine ⟨h.1, fun k _ => .of_left ?_⟩
  have := small_item (ns := [st.2]) (fun n hn => by rw [List.mem_singleton.mp hn]; omega) 0
  exact this


def asVal (i : Nat) : Value := .int (i : Int) 0
theorem pick_values (l : List Value) (lo hi st : Option Int) : pickOf l lo hi st = (slicePick l.toArray lo hi st).toList := by
  simp [slicePick, pickOf]
theorem asVal_inj {l l' : List Nat} (h : l.map asVal = l'.map asVal) : l = l' := by
  refine (List.map_inj_right fun a b h => ?_).mp h
  unfold asVal at h
  cases h
  rfl
theorem pick_by {α : Type} (xs : List α) (d : α) (lo hi st : Option Int) {js : List Nat} (h : pickOf (List.range xs.length) lo hi st = js) : pickOf xs lo hi st = js.map fun j => xs.getD j d := by
  have e := range_get (fun x : α => x) d xs
  rw [List.map_id'] at e
  have e2 : pickOf xs lo hi st = pickOf ((List.range xs.length).map fun j => xs.getD j d) lo hi st := by rw [e]
  rw [e2, pickOf_map, h]
theorem pickOf_take {α : Type} (xs : List α) (d : α) (k : Nat) : pickOf xs none (some (k : Int)) none = xs.take k := by
  have h : pickOf (List.range xs.length) none (some (k : Int)) none = (List.range xs.length).take k := asVal_inj (by rw [← pickOf_map, pick_values, slicePick_upto', List.map_take])
  rw [pick_by xs d _ _ _ h, List.map_take, range_get (fun x : α => x) d xs, List.map_id']
theorem pickOf_drop {α : Type} (xs : List α) (d : α) (k : Nat) : pickOf xs (some (k : Int)) none none = xs.drop k := by
  have h : pickOf (List.range xs.length) (some (k : Int)) none none = (List.range xs.length).drop k := asVal_inj (by rw [← pickOf_map, pick_values, slicePick_from', List.map_drop])
  rw [pick_by xs d _ _ _ h, List.map_drop, range_get (fun x : α => x) d xs, List.map_id']

/-- a seating's growth, by cuts -/
def growF (size ways : Int) : List Tab → List Tab → List Seat
  | _, [] => []
  | pre, t :: r => (pre ++ (t.1 + size, t.2 + 1) :: r, ways * t.2) :: growF size ways (pre ++ [t]) r
def stepF (size : Int) (st : Seat) : List Seat := (st.1 ++ [(size, 1)], st.2) :: growF size st.2 [] st.1
theorem growF_eq (size : Int) (st : Seat) : ∀ (r pre : List Tab), st.1 = pre ++ r → growF size st.2 pre r = ((List.range r.length).map fun j => seatAt size st (pre.length + j))
  | [], pre, _ => rfl
  | t :: r, pre, h => by
    have ih := growF_eq size st r (pre ++ [t]) (by rw [h]; simp)
    have et : tabAt st pre.length = t := by
      unfold tabAt
      rw [h, List.getD_eq_getElem?_getD, List.getElem?_append_right (Nat.le_refl _), Nat.sub_self]
      rfl
    have e1 : pickOf st.1 none (some (pre.length : Int)) none = pre := by rw [pickOf_take st.1 (0, 0), h, List.take_left]
    have e2 : pickOf st.1 (some ((pre.length : Int) + 1)) none none = r := by
      have : ((pre.length : Int) + 1) = ((pre.length + 1 : Nat) : Int) := by omega
      rw [this, pickOf_drop st.1 (0, 0), h]
      have : pre ++ t :: r = (pre ++ [t]) ++ r := by simp
      rw [this, List.drop_append_of_le_length (by simp), List.drop_of_length_le (by simp)]
      rfl
    have e3 : seatAt size st (pre.length + 0) = (pre ++ (t.1 + size, t.2 + 1) :: r, st.2 * t.2) := by
      unfold seatAt
      rw [Nat.add_zero, et, e1, e2, List.append_assoc, List.singleton_append]
    have e4 : ((fun j => seatAt size st (pre.length + j)) ∘ Nat.succ) = fun j => seatAt size st ((pre ++ [t]).length + j) := by
      funext j
      simp only [Function.comp, List.length_append, List.length_singleton]
      congr 1
      omega
    rw [List.length_cons, List.range_succ_eq_map, List.map_cons, List.map_map, e4, e3, ← ih]
    simp only [growF]
theorem stepF_eq (size : Int) (st : Seat) : seatStep size st = stepF size st := by
  unfold seatStep stepF seatAlone
  rw [growF_eq size st st.1 [] rfl]
  simp
def seatsF (sz : List Int) : List Seat := sz.foldl (fun ss size => ss.flatMap (stepF size)) [([], 1)]
theorem seatsF_eq (sz : List Int) : seatsOf sz = seatsF sz := by
  unfold seatsOf seatsF
  congr 1
  funext ss size
  congr 1
  funext st
  exact stepF_eq size st

/-- the stages of the seatings, each held against its bounds -/
def stagesB : List Int → List Seat → Bool
  | [], ss => ss.all seatB && decide (ss.length ≤ 5000)
  | s :: r, ss => ss.all seatB && decide (ss.length ≤ 5000) && stagesB r (ss.flatMap (stepF s))
theorem stages_ok : ∀ (r : List Int) (ss : List Seat), stagesB r ss = true → ∀ j, j ≤ r.length → (∀ st ∈ (r.take j).foldl (fun ss size => ss.flatMap (stepF size)) ss, SeatOk st) ∧ ((r.take j).foldl (fun ss size => ss.flatMap (stepF size)) ss).length ≤ 5000
  | [], ss, h, j, hj => by
    unfold stagesB at h
    simp only [Bool.and_eq_true, decide_eq_true_eq, List.all_eq_true] at h
    rw [List.take_nil]
    exact ⟨fun st hst => seat_ok (h.1 st hst), h.2⟩
  | s :: r, ss, h, 0, hj => by
    unfold stagesB at h
    simp only [Bool.and_eq_true, decide_eq_true_eq, List.all_eq_true] at h
    exact ⟨fun st hst => seat_ok (h.1.1 st hst), h.1.2⟩
  | s :: r, ss, h, j + 1, hj => by
    unfold stagesB at h
    rw [Bool.and_eq_true] at h
    rw [List.take_succ_cons, List.foldl_cons]
    exact stages_ok r _ h.2 j (by simpa using hj)

def tallyF (ss : List Seat) : List Int := ss.foldl tallyStep zero9
def backF (ws : List Int) : List Int := ws.reverse
def dueF (ws : List Int) : List Int := (dropZ (ws.reverse.flatMap two)).map fun f => 65 + f
theorem back_nine {ws : List Int} (h : ws.length = 9) : backOf ws = ws.reverse := by
  have e : sliceRange (sliceBounds none none (some (-1)) 9).1 (sliceBounds none none (some (-1)) 9).2.1 (sliceBounds none none (some (-1)) 9).2.2 = [8, 7, 6, 5, 4, 3, 2, 1, 0] := by decide +kernel
  unfold backOf pickNums
  rw [h, e]
  match ws, h with
  | [a, b, c, d, e, f, g, h, i], _ => rfl
theorem due_eq (sz : List Int) : dueOf sz = dueF (tallyF (seatsF sz)) := by
  unfold dueOf figsOf dueF
  rw [back_nine (worths_len sz)]
  unfold worthsOf tallyF
  rw [seatsF_eq]

def restB (due : List Int) (num : Int) : Bool := !due.isEmpty && (due.all fun n => decide (0 ≤ n ∧ n < 256)) && (ap num.natAbs).toArray == byteArr due && decide (num.natAbs < 16 ^ 64)
def caseB (sz : List Int) : Bool :=
  stagesB sz [([], 1)] && ((seatsF sz).all fun st => decide (0 ≤ worthIx st ∧ worthIx st < 9)) &&
  (ordersL.all fun one => (one.map (sizeN sz)).sum == sz.sum && decide (0 ≤ lackS sz one ∧ lackS sz one ≤ 9)) && restB (dueF (tallyF (seatsF sz))) (numS sz)
end Mine
namespace Mine
open PySem
def five : List Int := [-2, -1, 0, 1, 2]
theorem cqm2m2 : ∀ c ∈ five, ∀ d ∈ five, caseB [-2, -2, c, d] = true := by decide +kernel
theorem cqm2m1 : ∀ c ∈ five, ∀ d ∈ five, caseB [-2, -1, c, d] = true := by decide +kernel
theorem cqm2p0 : ∀ c ∈ five, ∀ d ∈ five, caseB [-2, 0, c, d] = true := by decide +kernel
theorem cqm2p1 : ∀ c ∈ five, ∀ d ∈ five, caseB [-2, 1, c, d] = true := by decide +kernel
theorem cqm2p2 : ∀ c ∈ five, ∀ d ∈ five, caseB [-2, 2, c, d] = true := by decide +kernel
theorem cqm1m2 : ∀ c ∈ five, ∀ d ∈ five, caseB [-1, -2, c, d] = true := by decide +kernel
theorem cqm1m1 : ∀ c ∈ five, ∀ d ∈ five, caseB [-1, -1, c, d] = true := by decide +kernel
theorem cqm1p0 : ∀ c ∈ five, ∀ d ∈ five, caseB [-1, 0, c, d] = true := by decide +kernel
theorem cqm1p1 : ∀ c ∈ five, ∀ d ∈ five, caseB [-1, 1, c, d] = true := by decide +kernel
theorem cqm1p2 : ∀ c ∈ five, ∀ d ∈ five, caseB [-1, 2, c, d] = true := by decide +kernel
theorem cqp0m2 : ∀ c ∈ five, ∀ d ∈ five, caseB [0, -2, c, d] = true := by decide +kernel
theorem cqp0m1 : ∀ c ∈ five, ∀ d ∈ five, caseB [0, -1, c, d] = true := by decide +kernel
theorem cqp0p0 : ∀ c ∈ five, ∀ d ∈ five, caseB [0, 0, c, d] = true := by decide +kernel
theorem cqp0p1 : ∀ c ∈ five, ∀ d ∈ five, caseB [0, 1, c, d] = true := by decide +kernel
theorem cqp0p2 : ∀ c ∈ five, ∀ d ∈ five, caseB [0, 2, c, d] = true := by decide +kernel
theorem cqp1m2 : ∀ c ∈ five, ∀ d ∈ five, caseB [1, -2, c, d] = true := by decide +kernel
theorem cqp1m1 : ∀ c ∈ five, ∀ d ∈ five, caseB [1, -1, c, d] = true := by decide +kernel
theorem cqp1p0 : ∀ c ∈ five, ∀ d ∈ five, caseB [1, 0, c, d] = true := by decide +kernel
theorem cqp1p1 : ∀ c ∈ five, ∀ d ∈ five, caseB [1, 1, c, d] = true := by decide +kernel
theorem cqp1p2 : ∀ c ∈ five, ∀ d ∈ five, caseB [1, 2, c, d] = true := by decide +kernel
theorem cqp2m2 : ∀ c ∈ five, ∀ d ∈ five, caseB [2, -2, c, d] = true := by decide +kernel
theorem cqp2m1 : ∀ c ∈ five, ∀ d ∈ five, caseB [2, -1, c, d] = true := by decide +kernel
theorem cqp2p0 : ∀ c ∈ five, ∀ d ∈ five, caseB [2, 0, c, d] = true := by decide +kernel
theorem cqp2p1 : ∀ c ∈ five, ∀ d ∈ five, caseB [2, 1, c, d] = true := by decide +kernel
theorem cqp2p2 : ∀ c ∈ five, ∀ d ∈ five, caseB [2, 2, c, d] = true := by decide +kernel
theorem cq_all {a b c d : Int} (ha : a ∈ five) (hb : b ∈ five) (hc : c ∈ five) (hd : d ∈ five) : caseB [a, b, c, d] = true := by
  have ha' : a ∈ ([-2, -1, 0, 1, 2] : List Int) := ha
  have hb' : b ∈ ([-2, -1, 0, 1, 2] : List Int) := hb
  simp only [List.mem_cons, List.not_mem_nil, or_false] at ha' hb'
  rcases ha' with rfl | rfl | rfl | rfl | rfl <;> rcases hb' with rfl | rfl | rfl | rfl | rfl
  · exact cqm2m2 c hc d hd
  · exact cqm2m1 c hc d hd
  · exact cqm2p0 c hc d hd
  · exact cqm2p1 c hc d hd
  · exact cqm2p2 c hc d hd
  · exact cqm1m2 c hc d hd
  · exact cqm1m1 c hc d hd
  · exact cqm1p0 c hc d hd
  · exact cqm1p1 c hc d hd
  · exact cqm1p2 c hc d hd
  · exact cqp0m2 c hc d hd
  · exact cqp0m1 c hc d hd
  · exact cqp0p0 c hc d hd
  · exact cqp0p1 c hc d hd
  · exact cqp0p2 c hc d hd
  · exact cqp1m2 c hc d hd
  · exact cqp1m1 c hc d hd
  · exact cqp1p0 c hc d hd
  · exact cqp1p1 c hc d hd
  · exact cqp1p2 c hc d hd
  · exact cqp2m2 c hc d hd
  · exact cqp2m1 c hc d hd
  · exact cqp2p0 c hc d hd
  · exact cqp2p1 c hc d hd
  · exact cqp2p2 c hc d hd

theorem sizeAt_five (ad : List Int) (k : Nat) : sizeAt ad k ∈ five := by
  have h := sizeAt_small ad k
  have h3 : sizeAt ad k = -2 ∨ sizeAt ad k = -1 ∨ sizeAt ad k = 0 ∨ sizeAt ad k = 1 ∨ sizeAt ad k = 2 := by omega
  show sizeAt ad k ∈ ([-2, -1, 0, 1, 2] : List Int)
  simpa using h3

theorem facts_all (ad : List Int) (_ : ad.length = 4) : Facts ad := by
  have key : caseB (sizesOf ad) = true := cq_all (sizeAt_five ad 0) (sizeAt_five ad 1) (sizeAt_five ad 2) (sizeAt_five ad 3)
  have lenZ : (sizesOf ad).length = 4 := by simp [sizesOf]
  unfold caseB at key
  rw [Bool.and_eq_true, Bool.and_eq_true, Bool.and_eq_true] at key
  obtain ⟨⟨⟨k1, k2⟩, k3⟩, k4⟩ := key
  simp only [List.all_eq_true, decide_eq_true_eq, Bool.and_eq_true, beq_iff_eq] at k2 k3
  have hall : ∀ one ∈ ordersL, (one.map (sizeN (sizesOf ad))).sum = (sizesOf ad).sum ∧ lackS (sizesOf ad) one ≤ 9 := fun one ho => ⟨(k3 one ho).1, (k3 one ho).2.2⟩
  have hnum := number_eq ad hall
  have hdue := due_eq (sizesOf ad)
  unfold restB at k4
  rw [← hdue, ← hnum] at k4
  simp only [List.all_eq_true, decide_eq_true_eq, Bool.and_eq_true, beq_iff_eq] at k4
  obtain ⟨⟨⟨q1, q2⟩, q3⟩, q4⟩ := k4
  refine ⟨⟨by omega, fun j hj => ?_, fun st hst => ?_⟩, fun one ho => ?_, ?_, q2, q3, q4⟩
  · rw [seatsF_eq]
    exact stages_ok (sizesOf ad) [([], 1)] k1 j hj
  · rw [seatsF_eq] at hst
    exact k2 st hst
  · rw [orders_eq] at ho
    rw [lack_eq ad (orders_are.2 one (by rw [orders_eq]; exact ho)).2 (hall one ho).1 (hall one ho).2]
    exact (k3 one ho).2
  · intro h0
    have : (dueOf (sizesOf ad)).isEmpty = true := by
      unfold dueOf
      rw [h0]
      rfl
    rw [this] at q1
    cases q1
end Mine
namespace Mine
open PySem

theorem fn_of {p : Program} {loose : List Str} {mean : ExcName → Option Value} {mg mb : Str → Option Value} {h : Heap} (T : Top p loose mean mg mb h) (st : Stmt) (n : Str)
    (hd : ∃ d ∈ recsOf p, d.name = n ∧ d.params = defArgs st ∧ d.body = defBody st ∧ d.scope = defScope st) : ∃ a, mg n = some (.ref a) ∧ FnIs h st a := by
  obtain ⟨d, hm, h1, h2, h3, h4⟩ := hd
  obtain ⟨a, o, pm, code, doc, q1, q2, q3, q4⟩ := T.fn d hm
  exact ⟨a, h1 ▸ q1, ⟨o, _, q2, q3, h4, congrArg _ h3, h2, rfl, rfl, rfl, rfl, rfl, q4⟩⟩

theorem rec0 : ∃ d ∈ recsOf hd2.view_39, d.name = Str.ofString "_iter_escaped_chars" ∧ d.params = defArgs (stmtAt atIter) ∧ d.body = defBody (stmtAt atIter) ∧ d.scope = defScope (stmtAt atIter) := ⟨_, List.mem_of_getElem? (i := 0) rfl, rfl, rfl, rfl, rfl⟩
theorem rec1 : ∃ d ∈ recsOf hd2.view_39, d.name = Str.ofString "_strip_quoted_realnames" ∧ d.params = defArgs (stmtAt atStrip) ∧ d.body = defBody (stmtAt atStrip) ∧ d.scope = defScope (stmtAt atStrip) := ⟨_, List.mem_of_getElem? (i := 1) rfl, rfl, rfl, rfl, rfl⟩
theorem rec2 : ∃ d ∈ recsOf hd2.view_39, d.name = Str.ofString "_check_parenthesis" ∧ d.params = defArgs (stmtAt atCheck) ∧ d.body = defBody (stmtAt atCheck) ∧ d.scope = defScope (stmtAt atCheck) := ⟨_, List.mem_of_getElem? (i := 2) rfl, rfl, rfl, rfl, rfl⟩
theorem rec3 : ∃ d ∈ recsOf hd2.view_39, d.name = Str.ofString "Int2AP" ∧ d.params = defArgs (stmtAt atInt) ∧ d.body = defBody (stmtAt atInt) ∧ d.scope = defScope (stmtAt atInt) := ⟨_, List.mem_of_getElem? (i := 3) rfl, rfl, rfl, rfl, rfl⟩
theorem rec4 : ∃ d ∈ recsOf hd2.view_39, d.name = Str.ofString "_law_taken" ∧ d.params = defArgs (stmtAt atTaken) ∧ d.body = defBody (stmtAt atTaken) ∧ d.scope = defScope (stmtAt atTaken) := ⟨_, List.mem_of_getElem? (i := 4) rfl, rfl, rfl, rfl, rfl⟩
theorem rec5 : ∃ d ∈ recsOf hd2.view_39, d.name = Str.ofString "_law_lacks" ∧ d.params = defArgs (stmtAt atLacks) ∧ d.body = defBody (stmtAt atLacks) ∧ d.scope = defScope (stmtAt atLacks) := ⟨_, List.mem_of_getElem? (i := 5) rfl, rfl, rfl, rfl, rfl⟩
theorem rec6 : ∃ d ∈ recsOf hd2.view_39, d.name = Str.ofString "_law_orders" ∧ d.params = defArgs (stmtAt atOrders) ∧ d.body = defBody (stmtAt atOrders) ∧ d.scope = defScope (stmtAt atOrders) := ⟨_, List.mem_of_getElem? (i := 6) rfl, rfl, rfl, rfl, rfl⟩
theorem rec7 : ∃ d ∈ recsOf hd2.view_39, d.name = Str.ofString "_law_worths_of_seatings" ∧ d.params = defArgs (stmtAt atWorths) ∧ d.body = defBody (stmtAt atWorths) ∧ d.scope = defScope (stmtAt atWorths) := ⟨_, List.mem_of_getElem? (i := 7) rfl, rfl, rfl, rfl, rfl⟩
theorem rec8 : ∃ d ∈ recsOf hd2.view_39, d.name = Str.ofString "law" ∧ d.params = defArgs (stmtAt atLaw) ∧ d.body = defBody (stmtAt atLaw) ∧ d.scope = defScope (stmtAt atLaw) := ⟨_, List.mem_of_getElem? (i := 8) rfl, rfl, rfl, rfl, rfl⟩
theorem freeW : ∀ x ∈ ([Str.ofString "enumerate", Str.ofString "len", Str.ofString "int", Str.ofString "abs", Str.ofString "divmod", Str.ofString "isinstance", Str.ofString "bool", Str.ofString "sum", Str.ofString "bytes", Str.ofString "range", Str.ofString "max"] : List Str),
    x ∉ startupNames ∧ x ∉ looseW hd2.view_39 [] ∧ x ∉ (recsOf hd2.view_39).map (·.name) ∧ x ∉ (litsOf hd2.view_39).map (·.1) ∧ x ∉ (clssOf hd2.view_39 (looseW hd2.view_39 [])).map (·.name) := by decide +kernel
theorem boots : bootBuiltins "enumerate" = some (.type "enumerate") ∧ bootBuiltins "len" = some (.builtin "len") ∧ bootBuiltins "int" = some (.type "int") ∧ bootBuiltins "abs" = some (.builtin "abs") ∧ bootBuiltins "divmod" = some (.builtin "divmod") ∧ bootBuiltins "isinstance" = some (.builtin "isinstance") ∧ bootBuiltins "bool" = some (.type "bool") ∧ bootBuiltins "sum" = some (.builtin "sum") ∧ bootBuiltins "bytes" = some (.type "bytes") ∧ bootBuiltins "range" = some (.type "range") ∧ bootBuiltins "max" = some (.builtin "max") := by decide +kernel

theorem all_names {loose : List Str} {mean : ExcName → Option Value} {mg mb : Str → Option Value} {h : Heap} (hl : loose = looseW hd2.view_39 []) (T : Top hd2.view_39 loose mean mg mb h) :
    ∃ fI fS fC fT fA fL fK fO fW, Names h fI fS fC ∧ TakenNames h fC fT ∧ LackNames h fK fT ∧ OrdersNames h fO ∧ SumNames h fK fO ∧ WorthNames h fW ∧ FigNames h fW ∧ IntNames h fA ∧ EndNames h fA ∧ TopNames h fL fK fO fW ∧ mg (Str.ofString "law") = some (.ref fL) := by
  subst hl
  have fr : ∀ x ∈ ([Str.ofString "enumerate", Str.ofString "len", Str.ofString "int", Str.ofString "abs", Str.ofString "divmod", Str.ofString "isinstance", Str.ofString "bool", Str.ofString "sum", Str.ofString "bytes", Str.ofString "range", Str.ofString "max"] : List Str), mg x = none := fun x hx =>
    T.free x (freeW x hx).1 (freeW x hx).2.1 (freeW x hx).2.2.1 (freeW x hx).2.2.2.1 (freeW x hx).2.2.2.2
  have bb : ∀ x : Str, x ≠ "__name__" → mb x = bootBuiltins x := T.builtins
  obtain ⟨b1, b2, b3, b4, b5, b6, b7, b8, b9, b10, b11⟩ := boots
  obtain ⟨fI, eI, FI⟩ := fn_of T _ _ rec0
  obtain ⟨fS, eS, FS⟩ := fn_of T _ _ rec1
  obtain ⟨fC, eC, FC⟩ := fn_of T _ _ rec2
  obtain ⟨fA, eA, FA⟩ := fn_of T _ _ rec3
  obtain ⟨fT, eT, FT⟩ := fn_of T _ _ rec4
  obtain ⟨fK, eK, FK⟩ := fn_of T _ _ rec5
  obtain ⟨fO, eO, FO⟩ := fn_of T _ _ rec6
  obtain ⟨fW, eW, FW⟩ := fn_of T _ _ rec7
  obtain ⟨fL, eL, FL⟩ := fn_of T _ _ rec8
  exact ⟨fI, fS, fC, fT, fA, fL, fK, fO, fW, ⟨FI, FS, FC, T.nolimit, ⟨mg, T.g, fr _ (by simp), fr _ (by simp), eI, eS⟩, ⟨mb, T.b, (bb _ (by decide)).trans b1, (bb _ (by decide)).trans b2⟩⟩,
    ⟨FT, ⟨mg, T.g, fr _ (by simp), fr _ (by simp), eC⟩, ⟨mb, T.b, (bb _ (by decide)).trans b6, (bb _ (by decide)).trans b7⟩⟩,
    ⟨FK, ⟨mg, T.g, fr _ (by simp), eT⟩, ⟨mb, T.b, (bb _ (by decide)).trans b11⟩⟩,
    ⟨FO, T.nolimit, ⟨mg, T.g, fr _ (by simp), fr _ (by simp)⟩, ⟨mb, T.b, (bb _ (by decide)).trans b10, (bb _ (by decide)).trans b2⟩⟩,
    ⟨⟨mg, T.g, fr _ (by simp), eK, eO⟩, ⟨mb, T.b, (bb _ (by decide)).trans b8⟩⟩,
    ⟨FW, T.nolimit, ⟨mg, T.g, fr _ (by simp), fr _ (by simp), fr _ (by simp), fr _ (by simp)⟩, ⟨mb, T.b, (bb _ (by decide)).trans b10, (bb _ (by decide)).trans b2, (bb _ (by decide)).trans b8, (bb _ (by decide)).trans b11⟩⟩,
    ⟨⟨mg, T.g, fr _ (by simp), fr _ (by simp), eW⟩, ⟨mb, T.b, (bb _ (by decide)).trans b5, (bb _ (by decide)).trans b9⟩⟩,
    ⟨FA, T.nolimit, ⟨mg, T.g, fr _ (by simp), fr _ (by simp), fr _ (by simp)⟩, ⟨mb, T.b, (bb _ (by decide)).trans b3, (bb _ (by decide)).trans b4, (bb _ (by decide)).trans b5⟩⟩,
    ⟨⟨mg, T.g, eA, fr _ (by simp), fr _ (by simp)⟩, ⟨mb, T.b, (bb _ (by decide)).trans b6, (bb _ (by decide)).trans b9⟩⟩,
    ⟨FL, ⟨mg, T.g, fr _ (by simp), fr _ (by simp)⟩, ⟨mb, T.b, (bb _ (by decide)).trans b10, (bb _ (by decide)).trans b8⟩⟩, eL⟩
end Mine
set_option maxHeartbeats 4000000 in
theorem PySem.Challenge.cw_wn0022_03_holds : PySem.Challenge.rw_wn0022_03.Holds := by
  refine Mine.hd2 ?_
  intro w s₀ s₁ mg mb G Y fa o pm cd doc dV kV ho hd hcd hD hmg hg args vals as hpre hlay hrd hwl hlo
  refine Ground.open G ?_
  intro T B D TE TW
  obtain ⟨fI, fS, fC, fT, fA, fL, fK, fO, fW, N1, N2, N3, N4, N5, N6, N7, N8, N9, N10, eL⟩ := Mine.all_names rfl T
  have efa : fa = fL := by
    have := hmg.symm.trans eL
    cases this
    rfl
  subst efa
  clear hd hcd hD ho hmg Y B D TE TW
  wrow_args hpre hlay hrd hwl hlo
  refine wpAny_mono (Mine.call_law (base := s₁.heap) Mine.facts_all N1 N2 N3 N4 N5 N6 N7 N8 N9 N10 rfl (by decide) (by decide) (fun _ _ q => q) ⟨_, by assumption, by assumption⟩ (by omega) (Q := fun v s' => v = .bool true ∧ Mine.Ext s₁ s') (E := fun _ _ => False) fun s' x => ⟨rfl, x⟩) (fun v s' q => ?_) fun _ _ q => q.elim
  obtain ⟨rfl, x⟩ := q
  refine ⟨.inl ⟨.bool true, .bool true, [], rfl, fun _ => rfl, .bool true, ?_, unshared_nil⟩, OldK.of_keep x.keep, x.os, x.bare (.of_eq hg)⟩
  first | rfl | kernel_rfl | exact postW_of rfl
