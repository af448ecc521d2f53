import PyProof.Rows.All
import Wide.All
import OpenK.AllK
import Wide.FinOn
import PySem.Challenge.RW_wn0022_01
open PySem PySem.W PyProof.Rows
set_option Elab.async false
namespace Mine
set_option maxRecDepth 100000 in
set_option maxHeartbeats 8000000 in
open_top hd2 for PySem.Challenge.rw_wn0022_01
end Mine
set_option maxRecDepth 100000
namespace Mine
open PySem
/-- where the defs stand among the rows of this statement's text -/
def stmtAt (i : Nat) : Stmt := PySem.Challenge.pw_wn0022_01.main.body.getD i (.Pass default)
def atIter : Nat := 1
def atStrip : Nat := 2
def atCheck : Nat := 3
def atInt : Nat := 5
def defBody : Stmt → List Stmt
  | .FunctionDef _ _ b _ _ _ _ _ _ _ => b
  | _ => []
def defArgs : Stmt → Arguments
  | .FunctionDef _ a _ _ _ _ _ _ _ _ => a
  | _ => default
def defScope : Stmt → Scope
  | .FunctionDef _ _ _ _ _ _ sc _ _ _ => sc
  | _ => default
def forBody : Stmt → List Stmt
  | .For _ _ b _ _ => b
  | _ => []
def forTgt : Stmt → Expr
  | .For t _ _ _ _ => t
  | _ => .Constant .none 0 default
def nthS (l : List Stmt) (i : Nat) : Stmt := l.getD i (.Pass default)
end Mine
namespace Mine
open PySem

/-- the pairs that the escape scan hands out: reading from place i on, b = a backslash stands open -/
def escGo : List Nat → Nat → Bool → List (Nat × Str)
  | [], i, true => [(i - 1, ⟨#[92]⟩)]
  | [], _, false => []
  | c :: r, i, true => (i, ⟨#[92, c]⟩) :: escGo r (i + 1) false
  | c :: r, i, false => if c = 92 then escGo r (i + 1) true else (i, ⟨#[c]⟩) :: escGo r (i + 1) false

/-- the generator's doings since s₀: what is older than its frame stands as it stood (and its own object, laid right behind that frame) -/
def Since (C : Addr) (s₀ s : Shared) : Prop :=
  ∃ h' tk, s = { s₀ with heap := h', toks := tk } ∧ ∀ b o, b ≠ C → b < C + 2 → s₀.heap.get? b = some o → h'.get? b = some o
theorem Since.refl (C : Addr) (s : Shared) : Since C s s := ⟨s.heap, s.toks, rfl, fun _ _ _ _ e => e⟩
theorem Since.step {C : Addr} {s₀ s : Shared} (x : Since C s₀ s) {h' : Heap} {tk : Nat} (hk : ∀ b o, b ≠ C → b < C + 2 → s.heap.get? b = some o → h'.get? b = some o) :
    Since C s₀ { s with heap := h', toks := tk } := by
  obtain ⟨h₁, tk₁, rfl, hk₁⟩ := x
  exact ⟨h', tk, rfl, fun b o hC h2 e => hk b o hC h2 (hk₁ b o hC h2 e)⟩

/-- what the reader may do between two turns: it leaves alone what is not older than the generator's frame, and the base -/
def Agree (C : Addr) (base : Heap) (s s' : Shared) : Prop :=
  (∀ b o, C ≤ b → s.heap.get? b = some o → s'.heap.get? b = some o) ∧ ∀ b o, base.get? b = some o → s'.heap.get? b = some o

def TupAt (h : Heap) (T : Addr) (p : Nat × Str) : Prop := ∃ t u, h.IsTuple T #[.int p.1 t, .str p.2 u]

def escProto (C : Addr) (base : Heap) (toks : List (Nat × Str)) : Protocol := fun m s₀ v s kap =>
  ∃ T p, toks[toks.length - 1 - m]? = some p ∧ v = .ref T ∧ TupAt s.heap T p ∧ C ≤ T ∧ Since C s₀ s ∧
    ∀ s'', Agree C base s s'' → kap (.send .none) s''

def escEnd (C : Addr) : GenEnd := fun n s₀ r s₁ => r = .ok (.ret .none) ∧ n = 0 ∧ Since C s₀ s₁

section
variable {M : Model} {A : Around} {R : GenEnd} {Y : Protocol} {n : Nat} {s₀ : Shared} {c : Code} {fs : List Frame} {s : Shared} {env : Env}
  {K : Flow → Sem Fin} {H : Value → Sem Fin} {gd : Bool → Bool} {lv : List Value → List Value}

theorem seg_If {test : Expr} {body orelse : List Stmt} {pos : Pos}
    (h : wpAny M (A.over c fs) (isTrue test env (eval test env)) (fun b s' => if b = true then Seg M A R Y n s₀ c ((execs body env).wrap K H gd lv) fs s' else Seg M A R Y n s₀ c ((execs orelse env).wrap K H gd lv) fs s')
      (fun x s' => Seg M A R Y n s₀ c (H x) fs s') s) : Seg M A R Y n s₀ c ((exec (.If test body orelse pos) env).wrap K H gd lv) fs s := by
  rw [exec_If]
  refine seg_bind_wrap (wpAny_standAt (seg_bind_wrap (wpAny_mono h (fun b s' hb => ?_) fun _ _ x => x)))
  cases b with
  | true => simpa using hb
  | false => simpa using hb

/-- a plain statement -/
theorem seg_plain {st : Stmt} (h : wpAny M (A.over c fs) (exec st env) (fun f s' => Seg M A R Y n s₀ c (K f) fs s') (fun x s' => Seg M A R Y n s₀ c (H x) fs s') s) :
    Seg M A R Y n s₀ c ((exec st env).wrap K H gd lv) fs s := seg_wrap h

theorem seg_For {target iter : Expr} {body orelse : List Stmt} {pos : Pos}
    (h : wpAny M (A.over c fs) (eval iter env) (fun x s₁ => wpAny M (A.over c fs) (pyIter x) (fun it s₂ =>
        ∀ p, Seg M A R Y n s₀ (.forLoop target it body orelse env) (M.den (.forLoop target it body orelse env))
          (.ret (fun r => ((match r with | .ok f => (.pure f : Sem Flow) | .error e => .raise e).onRaise fun (x : Value) => do
            if (← field x 1) == Value.none then unsupported "frame.own-activation:exception-without-traceback"
            setFlight x env.frame).wrap K H gd lv) none (gd false) (lv []) c p [] :: fs) s₂)
        (fun x s' => Seg M A R Y n s₀ c (H x) fs s') s₁) (fun x s' => Seg M A R Y n s₀ c (H x) fs s') s)
    (hs : ∀ x, foldedSetIterable iter env x = pure x := by intro _; rfl) :
    Seg M A R Y n s₀ c ((exec (.For target iter body orelse pos) env).wrap K H gd lv) fs s := by
  rw [exec_For]
  refine seg_bind_wrap (wpAny_standAt (seg_bind_wrap (wpAny_mono h (fun x s₁ h₁ => ?_) fun _ _ e => e)))
  refine seg_bind_wrap (wpAny_of_eq (hs x) ?_)
  refine seg_bind_wrap (wpAny_standAt (seg_bind_wrap (wpAny_holding (wpAny_mono h₁ (fun it s₂ h₂ => ?_) fun _ _ e => e))))
  exact seg_call h₂
end

end Mine
namespace Mine
open PySem

def escFor : Stmt := nthS (defBody (stmtAt atIter)) 2

section
variable {prog : Program} {w : World} {A : Around} {E : Value → Shared → Prop} {s : Shared} {cenv : Env} {m : Str → Option Value}

theorem nm {x : Str} {pos : Pos} {v : Value} {Q : Value → Shared → Prop} (hk : cenv.scope.kind = .function) (hl : cenv.kindOf x = some .local) (hn : s.heap.Ns cenv.locals m) (hv : m x = some v) (h : Q v s)
    (hd : (x == ("__debug__" : Str)) = false := by decide) : wpAny (model prog w) A (eval (.Name x pos) cenv) Q E s :=
  wpAny_Name (wpAny_loadName_local hk hl hn hv h) hd

theorem nmTrue {x : Str} {pos : Pos} {b : Bool} {Q : Bool → Shared → Prop} (hk : cenv.scope.kind = .function) (hl : cenv.kindOf x = some .local) (hn : s.heap.Ns cenv.locals m) (hv : m x = some (.bool b)) (h : Q b s)
    (hd : (x == ("__debug__" : Str)) = false := by decide) : wpAny (model prog w) A (isTrue (.Name x pos) cenv (eval (.Name x pos) cenv)) Q E s :=
  isTrue_plain (nm hk hl hn hv (wpAny_truthy_bool h) hd)

theorem plainScope (hk : cenv.scope.kind = .function) : (cenv.scope.kind == .class || (cenv.scope.kind == .module && cenv.locals != cenv.globals)) = false := by rw [hk]; rfl

theorem setBool {x : Str} {p q r : Pos} {b : Bool} {Q : Flow → Shared → Prop} (hk : cenv.scope.kind = .function) (hl : cenv.kindOf x = some .local) (hn : s.heap.Ns cenv.locals m)
    (h : ∀ h', h'.Ns cenv.locals (fun y => if y = x then some (.bool b) else m y) → Heap.SameBut cenv.locals s.heap h' → Q .next { s with heap := h', toks := s.toks + 1 }) :
    wpAny (model prog w) A (exec (.Assign [.Name x p] (.Constant (.bool b) 0 q) r) cenv) Q E s :=
  wpAny_Assign_Name (show wpAny _ _ (pure (Value.bool b)) _ _ s from wpAny_pure (wpAny_storeName_local hl hn (fun h' hn' hs' => h h' hn' hs') (plainScope hk)))

/-- the pair that is handed out, laid down as a tuple -/
theorem pairOf {e1 e2 : Expr} {k : Nat} {pos : Pos} {Q : Value → Shared → Prop}
    (h : wpAny (model prog w) A (eval e1 cenv) (fun v1 s1 => wpAny (model prog w) A (eval e2 cenv) (fun v2 s2 =>
      Q (.ref s2.heap.objs.size) { s2 with heap := s2.heap.push { cls := .type "tuple", data := .seq #[v1, v2] } }) E s1) E s)
    (h1 : starEach [e1, e2] cenv = [(false, eval e1 cenv), (false, eval e2 cenv)] := by rfl) :
    wpAny (model prog w) A (eval (.Tuple [e1, e2] k pos) cenv) Q E s := by
  refine wpAny_Tuple_spliced ?_
  rw [h1]
  refine Calls.spliced_cons (wpAny_mono h (fun v1 s1 hh => ?_) fun _ _ e => e)
  refine Calls.spliced_cons (wpAny_mono hh (fun v2 s2 hh2 => ?_) fun _ _ e => e)
  exact Calls.spliced_nil ⟨by show 2 ≤ sizeLine; decide, hh2⟩

theorem litStr {x : Str} {k : Nat} {pos : Pos} {Q : Value → Shared → Prop} (h : Q (.str x s.toks) { s with toks := s.toks + 1 }) :
    wpAny (model prog w) A (eval (.Constant (.str x) k pos) cenv) Q E s := Calls.Constant_str h
end

theorem tupNew {h : Heap} {i : Nat} {t u : Tok} {x : Str} :
    TupAt (h.push { cls := .type "tuple", data := .seq #[.int i t, .str x u] }) h.objs.size (i, x) :=
  ⟨t, u, _, Heap.get?_push_size _ rfl, rfl, _, rfl⟩

theorem getAbove (h : Heap) : h.get? h.objs.size = none := by
  cases e : h.get? h.objs.size with
  | none => rfl
  | some o => exact absurd (Heap.lt_size e) (Nat.lt_irrefl _)

section
variable {prog : Program} {w : World} {A : Around}

abbrev EnumPt (x : Str) : Nat → Array Value → Prop := fun i vals => ∃ t v, (∃ c u, x.cps[i]? = some c ∧ v = .str ⟨#[c]⟩ u) ∧ vals = #[.int i t, v]

theorem n1 : ¬ (Str.ofString "escape" = Str.ofString "ch") := by decide
theorem n2 : ¬ (Str.ofString "escape" = Str.ofString "pos") := by decide
theorem n3 : ¬ (Str.ofString "pos" = Str.ofString "ch") := by decide
theorem n4 : ¬ (Str.ofString "pos" = Str.ofString "escape") := by decide
theorem n5 : ¬ (Str.ofString "ch" = Str.ofString "escape") := by decide
theorem n6 : ¬ (Str.ofString "ch" = Str.ofString "pos") := by decide

theorem atPlace {toks pre rest : List (Nat × Str)} {p : Nat × Str} (h : toks = pre ++ p :: rest) : toks[toks.length - 1 - rest.length]? = some p := by
  subst h
  have : (pre ++ p :: rest).length - 1 - rest.length = pre.length := by simp
  rw [this]; simp

theorem oneSign {c d : Nat} {x : Str} (h : x = ⟨#[d]⟩) : ((⟨#[c]⟩ : Str) == x) = decide (c = d) := by
  subst h
  by_cases e : c = d
  · subst e; simp
  · have : ¬ ((⟨#[c]⟩ : Str) = ⟨#[d]⟩) := fun h => e (by simpa using h)
    simp [e, this]

structure EscKinds (cenv : Env) : Prop where
  kind : cenv.scope.kind = .function
  co : cenv.scope.isCoroutine = false
  pos : cenv.kindOf "pos" = some .local
  ch : cenv.kindOf "ch" = some .local
  escape : cenv.kindOf "escape" = some .local
  inter : interactive cenv = false

theorem seg_escLoop {e : Addr} {fp wr : List Addr} {St : Nat → Heap → Prop} {Mid : Nat → Addr → Heap → Prop} {x : Str} {cenv : Env} {base : Heap} {toks : List (Nat × Str)} {fs : List Frame}
    (W : ∀ A' : Around, A'.handled = none → WalksT prog w A' e fp wr x.cps.size (EnumPt x) St Mid) (hfp : ∀ b ∈ fp, cenv.locals + 1 < b)
    (k : EscKinds cenv) (hfs : splitAtGen fs = none) (hfg : fs.any Frame.guarded = false) (hA : ∀ c, (A.over c fs).handled = none)
    (hend : ∀ (b : Bool) (pre : List (Nat × Str)) (s₀ s : Shared) (m : Str → Option Value) (tk : Tok) (c : Code), s.heap.Ns cenv.locals m → m "escape" = some (.bool b) → m "pos" = some (.int (x.cps.size - 1 : Nat) tk) → Since cenv.locals s₀ s →
      toks = pre ++ escGo [] x.cps.size b → Seg (model prog w) A (escEnd cenv.locals) (escProto cenv.locals base toks) (escGo [] x.cps.size b).length s₀ c (.pure (.done .next)) fs s) :
    ∀ (r : List Nat) (i : Nat) (b : Bool) (pre : List (Nat × Str)) (s₀ s : Shared) (m : Str → Option Value) (tk : Tok), x.cps.toList.drop i = r → i ≤ x.cps.size → toks = pre ++ escGo r i b →
      St i s.heap → s.heap.Ns cenv.locals m → m "escape" = some (.bool b) → m "pos" = some (.int (i - 1 : Nat) tk) → Since cenv.locals s₀ s →
      Seg (model prog w) A (escEnd cenv.locals) (escProto cenv.locals base toks) (escGo r i b).length s₀
        (.forLoop (forTgt escFor) (.ref e) (forBody escFor) [] cenv)
        ((model prog w).den (.forLoop (forTgt escFor) (.ref e) (forBody escFor) [] cenv)) fs s := by
  have hwr : ∀ b ∈ wr, cenv.locals + 1 < b := fun b hb => hfp b ((W (A.over (.block [] cenv) fs) (hA _)).sub b hb)
  have hCw : cenv.locals ∉ wr := fun h => Nat.lt_irrefl _ (Nat.lt_of_succ_lt (hwr _ h))
  have hlow : ∀ b, b < cenv.locals + 2 → b ∉ wr := fun b hb h => Nat.lt_irrefl _ (Nat.lt_of_lt_of_le hb (hwr b h))
  have hfp' : ∀ b ∈ fp, cenv.locals < b := fun b hb => Nat.lt_of_succ_lt (hfp b hb)
  intro r
  induction r with
  | nil =>
    intro i b pre s₀ s m tk hr hi htoks hst hn hesc hpos hsince
    have hin : i = x.cps.size := by
      have := congrArg List.length hr
      simp at this; omega
    subst hin
    show Seg _ A _ _ _ s₀ _ ((forTurn _ (.ref e) _ [] cenv).onRaise _) fs s
    simp only [forTurn]
    rw [Sem.onRaise_eq_wrap]
    refine seg_bind_wrap (wpAny_standAt ?_)
    refine seg_bind_wrap (wpAny_onRaise ((W _ (hA _)).done s _ _ hst fun h' tk' hk' => ?_))
    refine seg_again rfl ?_
    exact hend b pre s₀ _ m tk _ (hn.at' fun o x => hk' _ o hCw x) hesc hpos (hsince.step fun b' o _ hb e => hk' b' o (hlow b' hb) e) htoks
  | cons c r ih =>
    intro i b pre s₀ s m tk hr hi htoks hst hn hesc hpos hsince
    have hlt : i < x.cps.size := by
      have := congrArg List.length hr
      simp at this; omega
    have hc : x.cps[i]? = some c := by
      have h1 := congrArg (·[0]?) hr
      simpa using h1
    have hr' : x.cps.toList.drop (i + 1) = r := by
      have h1 := congrArg List.tail hr
      simpa using h1
    show Seg _ A _ _ _ s₀ _ ((forTurn _ (.ref e) _ [] cenv).onRaise _) fs s
    simp only [forTurn]
    rw [Sem.onRaise_eq_wrap]
    refine seg_bind_wrap (wpAny_standAt ?_)
    refine seg_bind_wrap (wpAny_onRaise ((W _ (hA _)).item i s _ _ hlt hst fun T vals h₁ tk₁ hPt hT hTt hMid hk₁ => ?_))
    obtain ⟨tp, v, ⟨c', u, hc', rfl⟩, rfl⟩ := hPt
    rw [hc] at hc'; cases hc'
    refine seg_bind_wrap ((W _ (hA _)).go _ _ _ i T _ _ _ hMid fun h₂ hst₂ hk₂ => ?_)
    have hTw : T ∉ wr := (W _ (hA (.block [] cenv))).apart i T _ hMid
    have ht₂ : h₂.IsTuple T #[.int i tp, .str ⟨#[c]⟩ u] := by
      obtain ⟨o, ho, r⟩ := hTt
      exact ⟨o, hk₂ T o hTw ho, r⟩
    refine seg_bind_wrap (wpAny_assign_Tuple (hA _) ht₂ rfl rfl fun h₃ hx₃ => ?_)
    replace hx₃ : Heap.ExtBut h₂.objs.size h₂ h₃ := hx₃
    have up₃ : ∀ b o, b ∉ wr → s.heap.get? b = some o → h₃.get? b = some o := fun b o hb e => by
      have e2 := hk₂ b o hb (hk₁ b o hb e)
      exact hx₃ b o (Nat.ne_of_lt (Heap.lt_size e2)) e2
    have hn₃ : h₃.Ns cenv.locals m := hn.at' fun o e => up₃ _ o hCw e
    show wpAny _ _ (do holding [.str ⟨#[c]⟩ u] (assign (.Name "pos" _) cenv (.int i tp)); do holding [] (assign (.Name "ch" _) cenv (.str ⟨#[c]⟩ u)); pure ()) _ _ _
    refine wpAny_bind (wpAny_holding (wpAny_assign_Name (wpAny_storeName_local k.pos hn₃ (fun h₄ hn₄ hs₄ => ?_) (plainScope k.kind))))
    replace hs₄ : Heap.SameBut cenv.locals h₃ h₄ := hs₄
    refine wpAny_bind (wpAny_holding (wpAny_assign_Name (wpAny_storeName_local k.ch hn₄ (fun h₅ hn₅ hs₅ => wpAny_pure ?_) (plainScope k.kind))))
    replace hs₅ : Heap.SameBut cenv.locals h₄ h₅ := hs₅
    have up₅ : ∀ b o, b ≠ cenv.locals → h₂.get? b = some o → h₅.get? b = some o := fun b o hb e =>
      hs₅.extBut b o hb (hs₄.extBut b o hb (hx₃ b o (Nat.ne_of_lt (Heap.lt_size e)) e))
    have hst₅ : St (i + 1) h₅ := (W _ (hA (.block [] cenv))).frame _ _ _ hst₂ fun b hb o e => up₅ b o (Nat.ne_of_gt (hfp' b hb)) e
    have hsince₅ : ∀ {tk'}, Since cenv.locals s₀ { s with heap := h₅, toks := tk' } := hsince.step fun b o hne hb e => up₅ b o hne (hk₂ b o (hlow b hb) (hk₁ b o (hlow b hb) e))
    rw [Sem.bind_eq_wrap', Sem.wrap_wrap]
    refine seg_execs_cons (seg_If (nmTrue k.kind k.escape hn₅ (b := b) (by simp [n1, n2, hesc]) ?_))
    have hposT : (fun y => if y = Str.ofString "ch" then some (.str ⟨#[c]⟩ u) else if y = Str.ofString "pos" then some (.int i tp) else m y) (Str.ofString "pos") = some (Value.int ((i + 1 - 1 : Nat) : Int) tp) := by
      simp [n3]
    cases b with
    | true =>
      rw [if_pos rfl]
      have e1 : escGo (c :: r) i true = (i, ⟨#[92, c]⟩) :: escGo r (i + 1) false := rfl
      rw [e1] at htoks ⊢
      rw [List.length_cons]
      refine seg_execs_cons (seg_Expr_Yield hfs rfl hfg (pairOf (nm k.kind k.pos hn₅ (v := .int i tp) (by simp [n3]) (wpAny_BinOp (litStr (nm k.kind k.ch (m := fun y => if y = Str.ofString "ch" then some (.str ⟨#[c]⟩ u) else if y = Str.ofString "pos" then some (.int i tp) else m y) hn₅ (v := .str ⟨#[c]⟩ u) (by simp)
        (add_str (fun t' tk' => ?_) (by show 1 + 1 ≤ sizeLine; decide))))))) k.co k.inter)
      intro kap hkap
      refine ⟨_, (i, ⟨#[92, c]⟩), atPlace htoks, rfl, tupNew, Nat.le_of_lt hn₅.lt, hsince.step fun b o hne hb e => Heap.get?_push_of_some _ (up₅ b o hne (hk₂ b o (hlow b hb) (hk₁ b o (hlow b hb) e))), fun s'' hag => hkap _ _ ?_⟩
      have hn₆ := hn₅.at' (h' := s''.heap) fun o e => hag.1 _ o (Nat.le_refl _) (Heap.get?_push_of_some _ e)
      have hst₆ : St (i + 1) s''.heap := (W _ (hA (.block [] cenv))).frame _ _ _ hst₅ fun b hb o e => hag.1 b o (Nat.le_of_lt (hfp' b hb)) (Heap.get?_push_of_some _ e)
      refine seg_execs_cons (seg_plain (setBool k.kind k.escape hn₆ fun h₇ hn₇ hs₇ => seg_execs_nil (seg_again rfl ?_)))
      replace hs₇ : Heap.SameBut cenv.locals s''.heap h₇ := hs₇
      refine ih (i + 1) false (pre ++ [(i, ⟨#[92, c]⟩)]) s'' _ _ tp hr' hlt (by rw [htoks]; simp) ((W _ (hA (.block [] cenv))).frame _ _ _ hst₆ fun b hb o e => hs₇.extBut b o (Nat.ne_of_gt (hfp' b hb)) e) hn₇ (by simp) (by simp [n3, n4]) ((Since.refl _ s'').step fun b o hne hb e => hs₇.extBut b o hne e)
    | false =>
      rw [if_neg Bool.false_ne_true]
      refine seg_execs_cons (seg_If (wpAny_isTrue_Compare1 (nm k.kind k.ch hn₅ (v := .str ⟨#[c]⟩ u) (by simp) (litStr (eq_str (wpAny_truthy_bool ?_))))))
      have e0 : ((⟨#[c]⟩ : Str) == Str.ofString "\\") = decide (c = 92) := oneSign (by decide)
      rw [e0]
      by_cases h92 : c = 92
      · rw [if_pos (by simp [h92])]
        have e1 : escGo (c :: r) i false = escGo r (i + 1) true := by show (if c = 92 then _ else _) = _; rw [if_pos h92]
        rw [e1] at htoks ⊢
        refine seg_execs_cons (seg_plain (setBool k.kind k.escape hn₅ fun h₇ hn₇ hs₇ => seg_execs_nil (seg_execs_nil (seg_execs_nil (seg_again rfl ?_)))))
        replace hs₇ : Heap.SameBut cenv.locals h₅ h₇ := hs₇
        refine ih (i + 1) true pre s₀ _ _ tp hr' hlt htoks ((W _ (hA (.block [] cenv))).frame _ _ _ hst₅ fun b hb o e => hs₇.extBut b o (Nat.ne_of_gt (hfp' b hb)) e) hn₇ (by simp) (by simp [n3, n4]) (hsince.step fun b o hne hb e => hs₇.extBut b o hne (up₅ b o hne (hk₂ b o (hlow b hb) (hk₁ b o (hlow b hb) e))))
      · rw [if_neg (by simp [h92])]
        have e1 : escGo (c :: r) i false = (i, ⟨#[c]⟩) :: escGo r (i + 1) false := by show (if c = 92 then _ else _) = _; rw [if_neg h92]
        rw [e1] at htoks ⊢
        rw [List.length_cons]
        refine seg_execs_cons (seg_Expr_Yield hfs rfl hfg (pairOf (nm k.kind k.pos hn₅ (v := .int i tp) (by simp [n3]) (nm k.kind k.ch hn₅ (v := .str ⟨#[c]⟩ u) (by simp) ?_))) k.co k.inter)
        intro kap hkap
        refine ⟨_, (i, ⟨#[c]⟩), atPlace htoks, rfl, tupNew, Nat.le_of_lt hn₅.lt, hsince.step fun b o hne hb e => Heap.get?_push_of_some _ (up₅ b o hne (hk₂ b o (hlow b hb) (hk₁ b o (hlow b hb) e))), fun s'' hag => hkap _ _ ?_⟩
        have hn₆ := hn₅.at' (h' := s''.heap) fun o e => hag.1 _ o (Nat.le_refl _) (Heap.get?_push_of_some _ e)
        have hst₆ : St (i + 1) s''.heap := (W _ (hA (.block [] cenv))).frame _ _ _ hst₅ fun b hb o e => hag.1 b o (Nat.le_of_lt (hfp' b hb)) (Heap.get?_push_of_some _ e)
        refine seg_execs_nil (seg_execs_nil (seg_execs_nil (seg_again rfl ?_)))
        refine ih (i + 1) false (pre ++ [(i, ⟨#[c]⟩)]) s'' _ _ tp hr' hlt (by rw [htoks]; simp) hst₆ hn₆ (by simp [n1, n2, hesc]) (by simp [n3]) (Since.refl _ s'')
end
end Mine
namespace Mine
open PySem

/-- the pairs of a text -/
def escOf (x : Str) : List (Nat × Str) := escGo x.cps.toList 0 false

structure EnumNames (cenv : Env) (base : Heap) : Prop where
  addr : cenv.kindOf "addr" = some .local
  enum : cenv.kindOf "enumerate" = some .globalImplicit
  glob : ∃ mg, base.Ns cenv.globals mg ∧ mg "enumerate" = none
  blt : ∃ mb, base.Ns cenv.builtins mb ∧ mb "enumerate" = some (.type "enumerate")

section
variable {prog : Program} {w : World} {A : Around}
theorem n7 : ¬ (Str.ofString "addr" = Str.ofString "escape") := by decide
theorem n8 : ¬ (Str.ofString "addr" = Str.ofString "pos") := by decide

theorem seg_esc {x : Str} {t : Tok} {cenv : Env} {base : Heap} {s₀ s : Shared} {m : Str → Option Value} (hh : A.handled = none)
    (k : EscKinds cenv) (e : EnumNames cenv base) (hn : s.heap.Ns cenv.locals m) (hm : m "addr" = some (.str x t)) (hbase : ∀ b o, base.get? b = some o → s.heap.get? b = some o) (hbC : ∀ b o, base.get? b = some o → b < cenv.locals) (hsince : Since cenv.locals s₀ s) (hgen : cenv.locals + 1 < s.heap.objs.size) :
    Seg (model prog w) A (escEnd cenv.locals) (escProto cenv.locals base (escOf x)) (escOf x).length s₀
      (.func (defBody (stmtAt atIter)) cenv)
      ((model prog w).den (.func (defBody (stmtAt atIter)) cenv)) [] s := by
  obtain ⟨mg, hg, hge⟩ := e.glob
  obtain ⟨mb, hb, hbe⟩ := e.blt
  refine seg_func (seg_execs_cons (seg_plain ?_))
  refine wpAny_Assign_Name (wpAny_Constant_int (wpAny_storeName_local k.pos hn (fun h₁ hn₁ hs₁ => ?_) (plainScope k.kind)))
  replace hs₁ : Heap.SameBut cenv.locals s.heap h₁ := hs₁
  refine seg_execs_cons (seg_plain (setBool k.kind k.escape hn₁ fun h₂ hn₂ hs₂ => ?_))
  replace hs₂ : Heap.SameBut cenv.locals h₁ h₂ := hs₂
  have base₂ : ∀ b o, base.get? b = some o → h₂.get? b = some o := fun b o q => hs₂.extBut b o (Nat.ne_of_lt (hbC b o q)) (hs₁.extBut b o (Nat.ne_of_lt (hbC b o q)) (hbase b o q))
  refine seg_execs_cons (seg_For ?_)
  refine Call_Name1 (Calls.Name_function_global k.kind e.enum (Calls.loadGlobal_builtin (hg.keeps base₂) hge (hb.keeps base₂) hbe ?_))
  refine PyProof.Rows.callWith_type rfl (Calls.evalArgs_plain (Calls.spliced_cons (nm k.kind e.addr hn₂ (v := .str x t) (by simp [n7, n8, hm]) (Calls.spliced_nil ?_))))
  refine call_enumerate_str fun h₃ he₃ hit₃ hsz₃ hk₃ => ?_
  replace hk₃ : ∀ b o, h₂.get? b = some o → h₃.get? b = some o := hk₃
  replace hsz₃ : h₃.objs.size = h₂.objs.size + 2 := hsz₃
  replace he₃ : IsEnum h₃ (h₂.objs.size + 1) h₂.objs.size 0 .none := he₃
  replace hit₃ : h₃.IsStrIter h₂.objs.size (strIterType x) x t 0 := hit₃
  refine wpAny_pyIter_enum he₃ fun p => ?_
  have hC₂ : cenv.locals + 1 < h₂.objs.size := by rw [hs₂.1, hs₁.1]; exact hgen
  have hne : h₂.objs.size + 1 ≠ h₂.objs.size := Nat.succ_ne_self _
  obtain ⟨St', hSt', D⟩ : ∃ St' : Nat → Heap → Prop, St' 0 h₃ ∧ ∀ A' : Around, A'.handled = none → Draws prog w A' h₂.objs.size [h₂.objs.size] x.cps.size (fun i v => ∃ c u, x.cps[i]? = some c ∧ v = .str ⟨#[c]⟩ u) St' := by
    unfold strIterType at hit₃
    cases ha : x.cps.all (· < 128) with
    | true => exact ⟨_, by simpa [ha] using hit₃, fun A' hA => Draws.strAscii hA _ x t⟩
    | false => exact ⟨_, by simpa [ha] using hit₃, fun A' hA => Draws.strWide hA _ x t⟩
  refine seg_escLoop (pre := []) (tk := s.toks) (base := base) (toks := escOf x) (x := x)
    (fun A' hA => WalksT.enumerateD (D A'.in1 hA) (h₂.objs.size + 1) hne (by simp) (by simp)) ?_ k rfl rfl (by intro _; exact hh) ?_ x.cps.toList 0 false s₀ _ _ (by simp) (Nat.zero_le _) (by simp [escOf]) ⟨⟨_, he₃⟩, hSt'⟩ (hn₂.keeps hk₃) (by simp) (by simp [n4]) ?_
  · intro b hb
    rcases List.mem_cons.mp hb with rfl | hb
    · exact Nat.lt_succ_of_lt hC₂
    · rw [List.mem_singleton.mp hb]; exact hC₂
  · intro b pre s₁ s₂ m₂ tk c hn₅ hesc hpos hsince₂ htoks
    refine seg_leaf (.ok .next) ?_
    show Seg _ _ _ _ _ _ _ ((execs _ cenv).wrap _ _ _ _) [] _
    refine seg_execs_cons (seg_If (nmTrue k.kind k.escape hn₅ hesc ?_))
    cases b with
    | false =>
      rw [if_neg Bool.false_ne_true]
      exact seg_execs_nil (seg_execs_nil (seg_end (.ok (.ret .none)) ⟨rfl, rfl, hsince₂⟩))
    | true =>
      rw [if_pos rfl]
      have e1 : escGo [] x.cps.size true = [(x.cps.size - 1, ⟨#[92]⟩)] := rfl
      rw [e1] at htoks ⊢
      refine seg_execs_cons (seg_Expr_Yield rfl rfl rfl (pairOf (nm k.kind k.pos hn₅ hpos (litStr ?_))) k.co k.inter)
      intro kap hkap
      refine ⟨_, _, atPlace htoks, rfl, tupNew, Nat.le_of_lt hn₅.lt, hsince₂.step fun b o _ hb e => Heap.get?_push_of_some _ e, fun s'' hag => hkap _ _ ?_⟩
      exact seg_execs_nil (seg_execs_nil (seg_end (.ok (.ret .none)) ⟨rfl, rfl, Since.refl _ _⟩))
  · exact hsince.step fun b o hne hb e => hk₃ b o (hs₂.extBut b o hne (hs₁.extBut b o hne e))
end
end Mine
namespace Mine
open PySem

structure GMoved (C : Addr) (g : Nat) (s s' : Shared) : Prop where
  heap : ∀ b o, b < C → s.heap.get? b = some o → s'.heap.get? b = some o
  gens : GenOnlyQ g s.gens s'.gens
  os : s'.os = s.os

def GenSt (prog : Program) (w : World) (A : Around) (a : Addr) (g : Nat) (C : Addr) (base : Heap) (toks : List (Nat × Str)) (j : Nat) (s : Shared) : Prop :=
  s.heap.IsGen a g ∧ a = C + 1 ∧ ∃ gs, s.gens[g]? = some gs ∧ ∀ s'', Agree C base s s'' →
    gs.Goes (model prog w) A.in1 (escEnd C) (escProto C base toks) (toks.length - j) (.send .none) s''

section
variable {prog : Program} {w : World} {A : Around} {E : Value → Shared → Prop} {s : Shared} {a : Addr} {g : Nat} {C : Addr} {base : Heap} {toks : List (Nat × Str)} {j : Nat}

theorem GenSt.frame {s' : Shared} (st : GenSt prog w A a g C base toks j s) (hag : Agree C base s s') (hg : s'.gens[g]? = s.gens[g]?) : GenSt prog w A a g C base toks j s' := by
  obtain ⟨⟨o, nm, qn, ho, r⟩, hCa, gs, hgs, hgo⟩ := st
  exact ⟨⟨o, nm, qn, hag.1 a o (by rw [hCa]; exact Nat.le_succ _) ho, r⟩, hCa, gs, hg.trans hgs, fun s'' h2 => hgo s'' ⟨fun b o hb e => h2.1 b o hb (hag.1 b o hb e), h2.2⟩⟩

/-- a turn of the generator: by hand, as the library's own two rules for it have no word for what is left suspended -/
theorem next_gen {n : Nat} {gs : GenState} {Q : Option Value → Shared → Prop} (hh : A.handled = none) (hl : s.heap.NoLimit) (hroom : A.depth < recursionLimit)
    (hg : s.heap.IsGen a g) (hgs : s.gens[g]? = some gs)
    (hgo : gs.Goes (model prog w) A.in1 (escEnd C) (escProto C base toks) n (.send .none) (s.setGen g .running))
    (hY : ∀ v s₁ gs', gs'.bare = true → escProto C base toks (n - 1) (s.setGen g .running) v s₁ (fun r' s'' => match n with
        | 0 => False
        | m + 1 => gs'.Goes (model prog w) A.in1 (escEnd C) (escProto C base toks) m r' s'') → Q (some v) (s₁.setGen g gs'))
    (hP : ∀ s₁, n = 0 → Since C (s.setGen g .running) s₁ → ∀ h', (∀ b o, s₁.heap.get? b = some o → h'.get? b = some o) → Q none { s₁.setGen g .finished with heap := h' }) :
    wpAny (model prog w) A (pyNext (.ref a)) Q E s := by
  unfold pyNext
  refine wpAny_bind (wpAny_attempt (wpAny_callSpecial?_slot (name := Str.ofString "__next__") hg.typeIs slot_gen_next
    (wpAny_call_entry slot_gen_next hg.typeIs entry_gen_next ?_ (args_gen_next _))))
  show wpAny _ A.in1 (Builtin.Generator.genWake (.ref a) (.send .none)) _ _ s
  unfold Builtin.Generator.genWake
  refine wpAny_bind (wpAny_holding (wpAny_genNumber hg (wpAny_bind (wpAny_genState hgs ?_))))
  cases gs with
  | running => exact hgo.elim
  | finished => exact hgo.elim
  | _ =>
    refine wpAny_bind (wpAny_roomToWake hl hroom ?_)
    show wpAny _ A.in1 (.resume g (.send .none) [] _) _ _ s
    refine wpAny_resumeQ hgs hgo (fun x s₁ hx => ?_) (fun v s₁ gs' hb hv => ?_)
    · obtain ⟨rfl, hn, hp⟩ := hx
      show wpAny _ A.in1 (newExc (.type "StopIteration") [] >>= _) _ _ _
      refine wpAny_bind ?_
      simp only [newExc, newTuple]
      refine wpAny_bind (wpAny_newObj_type ?_ (by size_fits))
      refine wpAny_bind (m := firstArgMember _ _) (wpAny_of_eq (a := Value.none) (by first | rfl | (simp only [firstArgMember]; rfl)) ?_)
      refine wpAny_newObj_type ?_ (by size_fits)
      simp only [raiseNew]
      refine wpAny_bind (wpAny_bind (wpAny_handled ?_))
      first | rw [show A.in1.handled = none from hh] | rw [hh]
      refine wpAny_throw ?_
      refine wpAny_bind (wpAny_isInstance (T := "StopIteration") (b := true) ⟨_, Heap.get?_push_size _ rfl, rfl⟩ isSubtype_stop ?_)
      exact wpAny_pure (hP s₁ hn hp _ fun b o hb => Heap.get?_push_of_some _ (Heap.get?_push_of_some _ hb))
    · exact wpAny_pure ⟨v, rfl, wpAny_pure (hY v s₁ gs' hb hv)⟩

theorem gen_item {p : Nat × Str} {Q : Option Value → Shared → Prop} (hh : A.handled = none) (hroom : A.depth < recursionLimit) (hl : base.NoLimit) (hb : ∀ b o, base.get? b = some o → s.heap.get? b = some o)
    (hp : toks[j]? = some p) (st : GenSt prog w A a g C base toks j s)
    (h : ∀ T s', TupAt s'.heap T p → C ≤ T → GenSt prog w A a g C base toks (j + 1) s' → GMoved C g s s' → Q (some (.ref T)) s') : wpAny (model prog w) A (pyNext (.ref a)) Q E s := by
  obtain ⟨hg, hCa, gs, hgs, hgo⟩ := st
  have hj : j < toks.length := (List.getElem?_eq_some_iff.mp hp).1
  obtain ⟨m, hm⟩ : ∃ m, toks.length - j = m + 1 := ⟨toks.length - j - 1, by omega⟩
  rw [hm] at hgo
  refine next_gen hh (hl.keeps hb) hroom hg hgs (hgo _ ⟨fun _ _ _ e => e, hb⟩) (fun v s₁ gs' hbr hv => ?_) (fun s₁ hn => absurd hn (Nat.succ_ne_zero m))
  obtain ⟨T, q, hq, rfl, hT, hCT, ⟨h₁, tk₁, rfl, hk₁⟩, hkap⟩ := hv
  have hidx : toks.length - 1 - (m + 1 - 1) = j := by omega
  rw [hidx, hp] at hq
  cases hq
  have haC : a ≠ C := by rw [hCa]; exact Nat.succ_ne_self _
  have ha2 : a < C + 2 := by rw [hCa]; exact Nat.lt_succ_self _
  have e : toks.length - (j + 1) = m := by omega
  refine h T _ hT hCT ⟨let ⟨o, nm, qn, ho, r⟩ := hg; ⟨o, nm, qn, hk₁ a o haC ha2 ho, r⟩, hCa, gs', setGen_self (gs := .running) (setGen_self hgs), fun s'' hag => ?_⟩
    ⟨fun b o hb e => hk₁ b o (Nat.ne_of_lt hb) (Nat.lt_succ_of_lt (Nat.lt_succ_of_lt hb)) e, GenOnlyQ.of ((GenOnly.setGen s g .running).trans (GenOnly.setGen _ g gs')) (setGen_self (gs := .running) (setGen_self hgs)) hbr, rfl⟩
  rw [e]
  exact hkap s'' hag

theorem gen_done {Q : Option Value → Shared → Prop} (hh : A.handled = none) (hroom : A.depth < recursionLimit) (hl : base.NoLimit) (hb : ∀ b o, base.get? b = some o → s.heap.get? b = some o)
    (hbC : ∀ b o, base.get? b = some o → b < C) (st : GenSt prog w A a g C base toks toks.length s) (h : ∀ s', GMoved C g s s' → Q none s') : wpAny (model prog w) A (pyNext (.ref a)) Q E s := by
  obtain ⟨hg, hCa, gs, hgs, hgo⟩ := st
  rw [Nat.sub_self] at hgo
  refine next_gen hh (hl.keeps hb) hroom hg hgs (hgo _ ⟨fun _ _ _ e => e, hb⟩) (fun v s₁ gs' hbr hv => ?_) (fun s₁ hn hp h' hk => ?_)
  · obtain ⟨T, q, hq, rfl, hT, hCT, ⟨h₁, tk₁, rfl, hk₁⟩, hkap⟩ := hv
    exact False.elim (hkap _ ⟨fun _ _ _ e => e, fun b o e => hk₁ b o (Nat.ne_of_lt (hbC b o e)) (Nat.lt_succ_of_lt (Nat.lt_succ_of_lt (hbC b o e))) (hb b o e)⟩)
  · obtain ⟨h₁, tk₁, rfl, hk₁⟩ := hp
    exact h _ ⟨fun b o hb e => hk b o (hk₁ b o (Nat.ne_of_lt hb) (Nat.lt_succ_of_lt (Nat.lt_succ_of_lt hb)) e), GenOnlyQ.of ((GenOnly.setGen s g .running).trans (GenOnly.setGen _ g .finished)) (setGen_self (gs := .running) (setGen_self hgs)) rfl, rfl⟩
end
end Mine
namespace Mine
open PySem

/-- one of the text's own defs stands at an address, as its row says it -/
structure FnIs (h : Heap) (st : Stmt) (a : Addr) : Prop where
  out : ∃ o fd, h.get? a = some o ∧ o.data = .func fd ∧ fd.scope = defScope st ∧ fd.body = .stmts (defBody st) ∧ fd.params = defArgs st ∧ fd.closure = [] ∧
    fd.globals = mainGlobals ∧ fd.builtins = builtinsNs ∧ fd.defaults = .none ∧ fd.kwdefaults = .none ∧ h.CodeRec fd.code fd.qualname

theorem FnIs.keeps {h h' : Heap} {st : Stmt} {a : Addr} (x : FnIs h st a) (hk : ∀ b o, h.get? b = some o → h'.get? b = some o) : FnIs h' st a := by
  obtain ⟨o, fd, h1, h2, h3, h4, h5, h6, h7, h8, h9, h10, h11⟩ := x.out
  exact ⟨o, fd, hk _ _ h1, h2, h3, h4, h5, h6, h7, h8, h9, h10, h11.keeps hk⟩

section
variable {prog : Program} {w : World} {A : Around} {E : Value → Shared → Prop} {s : Shared}

theorem call_esc {fI : Addr} {base : Heap} {x : Str} {t : Tok} {Q : Value → Shared → Prop} (hh : A.handled = none) (hroom : A.depth < recursionLimit) (fn : FnIs base (stmtAt atIter) fI)
    (hl : base.NoLimit) (hb : ∀ b o, base.get? b = some o → s.heap.get? b = some o) (hg : ∃ mg, base.Ns mainGlobals mg ∧ mg "enumerate" = none) (hbl : ∃ mb, base.Ns builtinsNs mb ∧ mb "enumerate" = some (.type "enumerate"))
    (h : ∀ s', (∀ A' : Around, A'.handled = none → GenSt prog w A' (s.heap.objs.size + 1) s.gens.size s.heap.objs.size base (escOf x) 0 s') → (∀ b o, s.heap.get? b = some o → s'.heap.get? b = some o) → s'.os = s.os → (∃ gs, gs.bare = true ∧ s'.gens = s.gens.push gs) →
      Q (.ref (s.heap.objs.size + 1)) s') :
    wpAny (model prog w) A (call (.ref fI) [.str x t]) Q E s := by
  obtain ⟨o, fd, h1, h2, h3, h4, h5, h6, h7, h8, h9, h10, h11⟩ := fn.out
  refine wpAny_call ?_
  refine codeAny_call_generator hroom (hb _ _ h1) h2 (by rw [h3]; rfl) (by rw [h3]; rfl) h4 (h11.keeps hb) ?_
  have hbind : bindArgs fd ⟨[.str x t], []⟩ = pure [((Str.ofString "addr"), Value.str x t)] := by
    obtain ⟨name, qualname, params, body, scope, globals, closure, defaults, kwdefaults, doc, pyModule, anns, code, closureTuple, builtins⟩ := fd
    subst h3 h4 h5 h6 h9 h10
    rfl
  rw [hbind]
  have hcell : ∀ y ∈ fd.scope.names, y.2 ≠ .cell := by rw [h3]; decide
  have hloc : ∀ y ∈ [((Str.ofString "addr"), Value.str x t)], fd.scope.names.lookup y.1 = some .local := by rw [h3]; intro y hy; rw [List.mem_singleton.mp hy]; show (defScope (stmtAt atIter)).names.lookup (Str.ofString "addr") = _; decide
  refine wpAny_pure (wpAny_newFunctionEnv hcell hloc (fun h' hn hs => ?_) (by rw [h3]; rfl))
  have hsz : h'.objs.size = s.heap.objs.size + 1 := by rw [hs.1, Heap.size_push]
  have keep' : ∀ b o, s.heap.get? b = some o → h'.get? b = some o := fun b o e => hs.extBut b o (Nat.ne_of_lt (Heap.lt_size e)) (Heap.get?_push_of_some _ e)
  refine ⟨(hl.keeps hb).keeps keep', ?_⟩
  show Q (.ref h'.objs.size) _
  rw [hsz]
  have hget : ∀ o : Obj, o.isFreed = false → (h'.push o).get? (s.heap.objs.size + 1) = some o := fun o ho => hsz ▸ Heap.get?_push_size h' ho
  refine h _ (fun A' hA => ⟨⟨_, _, _, hget _ rfl, rfl, rfl, rfl⟩, rfl, _, Array.getElem?_push_size .., fun s'' hag => ⟨rfl, ?_⟩⟩) (fun b o e => Heap.get?_push_of_some _ (keep' b o e)) rfl ⟨_, rfl, rfl⟩
  rw [Nat.sub_zero]
  obtain ⟨mg, hg1, hg2⟩ := hg
  obtain ⟨mb, hb1, hb2⟩ := hbl
  have hn₂ := (hn.push { cls := .type "generator", data := .fields #[.int s.gens.size 0, .str fd.name (s.toks + [((Str.ofString "addr"), Value.str x t)].length), .str fd.qualname (s.toks + [((Str.ofString "addr"), Value.str x t)].length + 1)] }).at' (h' := s''.heap) fun o e => hag.1 _ o (Nat.le_refl _) e
  have hgen := hag.1 (s.heap.objs.size + 1) _ (Nat.le_succ _) (hget _ rfl)
  refine seg_esc (cenv := newEnv fd.scope s.heap.objs.size fd.globals fd.closure (fd.qualname ++ ".<locals>.") (some fI) fd.code none fd.builtins) (A := A'.in1) hA ?_ ?_ hn₂ rfl hag.2 (fun b o e => Heap.lt_size (hb b o e)) (Since.refl _ _) (Heap.lt_size hgen)
  · rw [h3]
    exact ⟨rfl, rfl, rfl, rfl, rfl, rfl⟩
  · rw [h3, h7, h8]
    exact ⟨rfl, rfl, ⟨mg, hg1, hg2⟩, ⟨mb, hb1, hb2⟩⟩
end
end Mine
namespace Mine
open PySem

section
variable {prog : Program} {w : World} {A : Around} {E : Value → Shared → Prop} {s : Shared}

theorem letGo_gen {elts : List Expr} {k : Nat} {pos : Pos} {a T : Addr} {g : Nat} {Q : Unit → Shared → Prop} (hg : s.heap.IsGen a g) (hQ : Q () s) :
    wpAny (model prog w) A (letOwnedTupleGo (.Tuple elts k pos) (.ref a) (.ref T)) Q E s := by
  obtain ⟨o, nm, qn, ho, hc, hd, hs⟩ := hg
  unfold letOwnedTupleGo
  refine wpAny_bind (wpAny_load ho ?_)
  rw [hc, hd]
  show wpAny _ A (if (["enumerate", "zip", "dict_itemiterator", "dict_reverseitemiterator", "odict_iterator", "itertools.zip_longest", "itertools.pairwise"].contains "generator" &&
      (#[.int (g : Int) 0, nm, qn] : Array Value)[0]? == some (rawInt T)) = true then _ else _) Q E s
  rw [if_neg (by
    rw [show (["enumerate", "zip", "dict_itemiterator", "dict_reverseitemiterator", "odict_iterator", "itertools.zip_longest", "itertools.pairwise"].contains "generator") = false from by decide, Bool.false_and]
    exact Bool.false_ne_true)]
  exact wpAny_pure hQ

/-- a for over the generator's pairs, by what holds between its turns -/
theorem loop_gen {R : Result → Shared → Prop} {toks : List (Nat × Str)} {a C : Addr} {g : Nat} {base : Heap} {env : Env} {p1 p2 p3 : Pos} {body : List Stmt} {m : Str → Option Value}
    (hh : A.handled = none) (hroom : A.depth < recursionLimit) (hl : base.NoLimit) (hbC : ∀ b o, base.get? b = some o → b < C) (hLC : env.locals < C) (hbL : ∀ b o, base.get? b = some o → b ≠ env.locals)
    (hk : env.scope.kind = .function) (hkp : env.kindOf "pos" = some .local) (hkc : env.kindOf "ch" = some .local)
    (J : Nat → (Str → Option Value) → Heap → Prop) (Z : Value → Heap → Prop)
    (hJ : ∀ j m h h', J j m h → (∀ b o, b < C → b ≠ env.locals → h.get? b = some o → h'.get? b = some o) → J j m h') (hJb : ∀ j m h, J j m h → ∀ b o, base.get? b = some o → h.get? b = some o)
    (step : ∀ j p tp tc m s₁, toks[j]? = some p → J j m s₁.heap → s₁.heap.Ns env.locals (fun y => if y = "ch" then some (.str p.2 tc) else if y = "pos" then some (.int p.1 tp) else m y) →
      wpAny (model prog w) A (execs body env) (fun f s₂ => (∃ h' tk, s₂ = { s₁ with heap := h', toks := tk } ∧ ∀ b o, C ≤ b → s₁.heap.get? b = some o → h'.get? b = some o) ∧
        match f with | .next => ∃ m₂, s₂.heap.Ns env.locals m₂ ∧ J (j + 1) m₂ s₂.heap | .ret v => Z v s₂.heap | _ => False) (notedBy (model prog w) A env fun e s' => R (.error e) s') s₁)
    (hret : ∀ v s', Z v s'.heap → s'.os = s.os → (AllBare s.gens → AllBare s'.gens) → R (.ok (.ret v)) s')
    (hafter : ∀ m' s', s'.heap.Ns env.locals m' → J toks.length m' s'.heap → s'.os = s.os → (AllBare s.gens → AllBare s'.gens) → R (.ok .next) s')
    (st : GenSt prog w A a g C base toks 0 s) (hn : s.heap.Ns env.locals m) (h0 : J 0 m s.heap) :
    codeAny (model prog w) A (.forLoop (.Tuple [.Name "pos" p1, .Name "ch" p2] 0 p3) (.ref a) body [] env) R s := by
  refine codeAny_forLoop_any (fun k s' => ∃ j m', k = toks.length + 1 - j ∧ j ≤ toks.length ∧ GenSt prog w A a g C base toks j s' ∧ s'.heap.Ns env.locals m' ∧ J j m' s'.heap ∧ s'.os = s.os ∧ (AllBare s.gens → AllBare s'.gens)) ?_
    (toks.length + 1) ⟨0, m, rfl, Nat.zero_le _, st, hn, h0, rfl, id⟩
  rintro k s' ⟨j, m', rfl, hj, st', hn', hJ', hos, hbare⟩
  have hb' := hJb _ _ _ hJ'
  cases hv : toks[j]? with
  | none =>
    have hje : j = toks.length := Nat.le_antisymm hj (by simpa using hv)
    subst hje
    refine gen_done hh hroom hl hb' hbC st' fun s₁ mv => wpAny_execs_nil ?_
    exact hafter m' s₁ (hn'.at' fun o e => mv.heap _ o hLC e) (hJ _ _ _ _ hJ' fun b o hb _ e => mv.heap b o hb e) (mv.os.trans hos) fun q => mv.gens.bare (hbare q)
  | some p =>
    have hlt : j < toks.length := (List.getElem?_eq_some_iff.mp hv).1
    refine gen_item hh hroom hl hb' hv st' fun T s₁ hT hCT st₁ mv => ?_
    refine letGo_gen st₁.1 ?_
    obtain ⟨tp, tc, hT⟩ := hT
    refine wpAny_assign_Tuple hh hT rfl rfl fun h₃ hx₃ => ?_
    have hn₁ : s₁.heap.Ns env.locals m' := hn'.at' fun o e => mv.heap _ o hLC e
    have up₃ : ∀ b o, s₁.heap.get? b = some o → h₃.get? b = some o := fun b o e => hx₃ b o (Nat.ne_of_lt (Heap.lt_size e)) e
    have hn₃ : h₃.Ns env.locals m' := hn₁.keeps up₃
    show wpAny _ _ (do holding [.str p.2 tc] (assign (.Name "pos" _) env (.int p.1 tp)); do holding [] (assign (.Name "ch" _) env (.str p.2 tc)); pure ()) _ _ _
    refine wpAny_bind (wpAny_holding (wpAny_assign_Name (wpAny_storeName_local hkp hn₃ (fun h₄ hn₄ hs₄ => ?_) (plainScope hk))))
    replace hs₄ : Heap.SameBut env.locals h₃ h₄ := hs₄
    refine wpAny_bind (wpAny_holding (wpAny_assign_Name (wpAny_storeName_local hkc hn₄ (fun h₅ hn₅ hs₅ => wpAny_pure ?_) (plainScope hk))))
    replace hs₅ : Heap.SameBut env.locals h₄ h₅ := hs₅
    have up₅ : ∀ b o, b ≠ env.locals → s₁.heap.get? b = some o → h₅.get? b = some o := fun b o hb e => hs₅.extBut b o hb (hs₄.extBut b o hb (up₃ b o e))
    have hJ₁ : J j m' s₁.heap := hJ _ _ _ _ hJ' fun b o hb _ e => mv.heap b o hb e
    have hJ₅ : J j m' h₅ := hJ _ _ _ _ hJ₁ fun b o _ hb e => up₅ b o hb e
    have hb₁ := hJb _ _ _ hJ₁
    refine wpAny_mono (step j p tp tc m' _ hv hJ₅ hn₅) (fun f s₂ hf => ?_) fun _ _ e => e
    obtain ⟨⟨h₆, tk₆, rfl, hk₆⟩, hf⟩ := hf
    cases f with
    | next =>
      obtain ⟨m₂, hn₂, hJ₂⟩ := hf
      refine ⟨toks.length + 1 - (j + 1), by omega, j + 1, m₂, rfl, hlt, ?_, hn₂, hJ₂, mv.os.trans hos, fun q => mv.gens.bare (hbare q)⟩
      exact st₁.frame ⟨fun b o hb e => hk₆ b o hb (up₅ b o (Nat.ne_of_gt (Nat.lt_of_lt_of_le hLC hb)) e), hJb _ _ _ hJ₂⟩ rfl
    | brk => exact hf.elim
    | cont => exact hf.elim
    | ret v => exact hret v _ hf (mv.os.trans hos) fun q => mv.gens.bare (hbare q)
end
end Mine
namespace Mine
open PySem

/-- what a call leaves behind: all that stood stands as it stood; the world outside is untouched; what is left of generators asks for no cleaning up -/
structure Ext (s s' : Shared) : Prop where
  keep : ∀ b o, s.heap.get? b = some o → s'.heap.get? b = some o
  os : s'.os = s.os
  bare : AllBare s.gens → AllBare s'.gens
theorem Ext.refl (s : Shared) : Ext s s := ⟨fun _ _ e => e, rfl, id⟩
theorem Ext.trans {s s' s'' : Shared} (x : Ext s s') (y : Ext s' s'') : Ext s s'' := ⟨fun b o e => y.keep b o (x.keep b o e), y.os.trans x.os, fun q => y.bare (x.bare q)⟩
theorem Ext.of_heap {s : Shared} {h' : Heap} {tk : Nat} (hk : ∀ b o, s.heap.get? b = some o → h'.get? b = some o) : Ext s { s with heap := h', toks := tk } := ⟨hk, rfl, id⟩

structure Names (base : Heap) (fI fS fC : Addr) : Prop where
  iter : FnIs base (stmtAt atIter) fI
  strip : FnIs base (stmtAt atStrip) fS
  check : FnIs base (stmtAt atCheck) fC
  lim : base.NoLimit
  glob : ∃ mg, base.Ns mainGlobals mg ∧ mg "enumerate" = none ∧ mg "len" = none ∧ mg "_iter_escaped_chars" = some (.ref fI) ∧ mg "_strip_quoted_realnames" = some (.ref fS)
  blt : ∃ mb, base.Ns builtinsNs mb ∧ mb "enumerate" = some (.type "enumerate") ∧ mb "len" = some (.builtin "len")

section
variable {prog : Program} {w : World} {A : Around} {E : Value → Shared → Prop} {s : Shared}

theorem callDef1 {env : Env} {f : Str} {p pos : Pos} {e : Expr} {a : Addr} {st : Stmt} {base : Heap} {mg : Str → Option Value} {Q : Value → Shared → Prop} (hk : env.scope.kind = .function) (hx : env.kindOf f = some .globalImplicit)
    (hg : base.Ns env.globals mg) (hv : mg f = some (.ref a)) (fn : FnIs base st a) (hb : ∀ b o, base.get? b = some o → s.heap.get? b = some o)
    (h : wpAny (model prog w) A (eval e env) (fun v s₁ => (∀ b o, base.get? b = some o → s₁.heap.get? b = some o) ∧ wpAny (model prog w) A (call (.ref a) [v]) Q E s₁) E s)
    (hs : starEach [e] env = [(false, eval e env)] := by rfl) (hd : (f == ("__debug__" : Str)) = false := by decide) :
    wpAny (model prog w) A (eval (.Call (.Name f p) [e] [] pos) env) Q E s := by
  obtain ⟨o, fd, h1, h2, _⟩ := fn.out
  refine Call_Name1 (Calls.Name_function_global hk hx (Calls.loadGlobal_global (hg.keeps hb) hv ?_) hd) hs
  refine Calls.callWith_function (o := o) (fd := fd) (Calls.evalArgs_plain (Calls.spliced_cons (wpAny_mono h (fun v s₁ h₁ => Calls.spliced_nil ⟨⟨h₁.1 _ _ h1, h2⟩, h₁.2⟩) fun _ _ e => e)))

/-- the def's own frame -/
theorem enterDef {st : Stmt} {f : Addr} {base : Heap} {n : Str} {v : Value} {Q : Value → Shared → Prop} (hroom : A.depth < recursionLimit) (fn : FnIs base st f) (hl : base.NoLimit) (hb : ∀ b o, base.get? b = some o → s.heap.get? b = some o)
    (hbind : ∀ fd : FuncData, fd.params = defArgs st → fd.defaults = .none → fd.kwdefaults = .none → bindArgs fd ⟨[v], []⟩ = pure [(n, v)])
    (hcell : ∀ y ∈ (defScope st).names, y.2 ≠ .cell) (hloc : (defScope st).names.lookup n = some .local) (hco : (defScope st).isCoroutine = false) (hgen : (defScope st).isGenerator = false) (hk : (defScope st).kind = .function)
    (h : ∀ env h₁, env.scope = defScope st → env.locals = s.heap.objs.size → env.globals = mainGlobals → env.builtins = builtinsNs → interactive env = false →
      h₁.Ns s.heap.objs.size (fun y => if y = n then some v else none) → (∀ b o, s.heap.get? b = some o → h₁.get? b = some o) →
      wpAny (model prog w) (A.deeper env) (execs (defBody st) env) (fun fl s' => Q (match fl with | .ret v => v | _ => .none) s') (fun _ _ => False) { s with heap := h₁, toks := s.toks + 1 }) :
    wpAny (model prog w) A (call (.ref f) [v]) Q E s := by
  obtain ⟨o, fd, h1, h2, h3, h4, h5, h6, h7, h8, h9, h10, h11⟩ := fn.out
  refine wpAny_call (codeAny_call_def (binds := [(n, v)]) hroom (hb _ _ h1) h2 (hl.keeps hb) (h11.keeps hb) h4 (BindsTo.of_eq (hbind fd h5 h9 h10)) (by rw [h3]; exact hcell) (by intro y hy; rw [List.mem_singleton.mp hy, h3]; exact hloc)
    (fun h₁ hn hk₁ => ?_) (by rw [h3]; exact hco) (by rw [h3]; exact hgen) (by rw [h3]; exact hk))
  have e : (fun y : Str => ([(n, v)] : List (Str × Value)).reverse.lookup y) = fun y : Str => if y = n then some v else none := by
    funext y
    by_cases hy : y = n
    · subst hy; simp
    · have : (y == n) = false := by simpa using hy
      simp [List.lookup, this, hy]
  rw [e] at hn
  refine wpAny_mono (h (callEnv fd s.heap.objs.size f) h₁ h3 rfl h7 h8 ?_ hn hk₁) (fun fl s' q => q) fun _ _ q => q.elim
  show interactive (callEnv fd s.heap.objs.size f) = false
  unfold interactive callEnv newEnv
  dsimp only
  rw [h3, hk]
  rfl
end
end Mine
namespace Mine
open PySem

/-- one pair's turn of the scan for quoted names: the start, the open quote's place, the pieces so far -/
def stripStep (x : Str) (st : Nat × Option Nat × List Str) (p : Nat × Str) : Nat × Option Nat × List Str :=
  if p.2 = ⟨#[34]⟩ then
    match st.2.1 with
    | none => (st.1, some p.1, st.2.2)
    | some o => (p.1 + 1, none, if st.1 = o then st.2.2 else st.2.2 ++ [Txt.slice x (some (st.1 : Int)) (some (o : Int))])
  else st
def stripFold (x : Str) (l : List (Nat × Str)) : Nat × Option Nat × List Str := l.foldl (stripStep x) (0, none, [])
def stripOf (x : Str) : Str :=
  if 34 ∈ x.cps.toList then
    let r := stripFold x (escOf x)
    Str.join (Str.ofString "") (if r.1 < x.length then r.2.2 ++ [Txt.slice x (some (r.1 : Int)) none] else r.2.2)
  else x

theorem escGo_len : ∀ (r : List Nat) (i : Nat) (b : Bool), (escGo r i b).length ≤ r.length + 1
  | [], _, true => Nat.le_refl _
  | [], _, false => Nat.zero_le _
  | c :: r, i, true => by
    have := escGo_len r (i + 1) false
    show (escGo r (i + 1) false).length + 1 ≤ r.length + 1 + 1
    omega
  | c :: r, i, false => by
    have h1 := escGo_len r (i + 1) true
    have h2 := escGo_len r (i + 1) false
    show (if c = 92 then escGo r (i + 1) true else (i, ⟨#[c]⟩) :: escGo r (i + 1) false).length ≤ r.length + 1 + 1
    split
    · omega
    · simp only [List.length_cons]; omega
theorem escOf_len (x : Str) : (escOf x).length ≤ x.length + 1 := by
  have := escGo_len x.cps.toList 0 false
  simpa [escOf, Str.length] using this

/-- the pieces are few and short -/
theorem strip_small (x : Str) (p : Nat × Str) (st : Nat × Option Nat × List Str) (n : Nat) (h1 : st.2.2.length ≤ n) (h2 : ∀ y ∈ st.2.2, y.length ≤ x.length) :
    (stripStep x st p).2.2.length ≤ n + 1 ∧ ∀ y ∈ (stripStep x st p).2.2, y.length ≤ x.length := by
  unfold stripStep
  split
  · cases hs : st.2.1 with
    | none => exact ⟨by simp only; omega, h2⟩
    | some o =>
      dsimp only
      split
      · exact ⟨by omega, h2⟩
      · refine ⟨by rw [List.length_append, List.length_singleton]; omega, fun y hy => ?_⟩
        rcases List.mem_append.mp hy with hy | hy
        · exact h2 y hy
        · rw [List.mem_singleton.mp hy]; exact PyProof.Txt.length_slice_le x _ _
  · exact ⟨by omega, h2⟩

theorem sum_small (B : Nat) : ∀ (l : List Str), (∀ y ∈ l, y.length ≤ B) → (l.map (·.length)).sum ≤ l.length * B
  | [], _ => by simp
  | y :: r, h => by
    have h1 := sum_small B r fun z hz => h z (List.mem_cons_of_mem _ hz)
    have h2 := h y List.mem_cons_self
    simp only [List.map_cons, List.sum_cons, List.length_cons]
    rw [Nat.succ_mul]
    omega

structure EnvFor (env : Env) (st : Stmt) (L : Addr) : Prop where
  scope : env.scope = defScope st
  locals : env.locals = L
  globals : env.globals = mainGlobals
  builtins : env.builtins = builtinsNs
  inter : interactive env = false
theorem EnvFor.kindOf {env : Env} {st : Stmt} {L : Addr} (e : EnvFor env st L) {n : Str} {k : NameKind} (h : (defScope st).names.lookup n = some k) : env.kindOf n = some k := by
  unfold Env.kindOf; rw [e.scope]; exact h
theorem EnvFor.kind {env : Env} {st : Stmt} {L : Addr} (e : EnvFor env st L) {k : ScopeKind} (h : (defScope st).kind = k) : env.scope.kind = k := by rw [e.scope]; exact h

def optVal (v : Value) : Option Nat → Prop
  | none => v = .none
  | some o => ∃ t, v = .int o t

/-- what stands between two turns of the scan -/
def StripJ (x : Str) (t : Tok) (toks : List (Nat × Str)) (h₀ : Heap) (D : Addr) (j : Nat) (m : Str → Option Value) (h : Heap) : Prop :=
  (∀ b o, h₀.get? b = some o → h.get? b = some o) ∧ m "addr" = some (.str x t) ∧ m "result" = some (.ref D) ∧
  (∃ t1, m "start" = some (.int (stripFold x (toks.take j)).1 t1)) ∧ (∃ v, m "open_pos" = some v ∧ optVal v (stripFold x (toks.take j)).2.1) ∧
  (∃ items, h.PlainList D items ∧ StrsAre items.toList (stripFold x (toks.take j)).2.2) ∧
  (stripFold x (toks.take j)).2.2.length ≤ j ∧ (∀ y ∈ (stripFold x (toks.take j)).2.2, y.length ≤ x.length)

theorem take_succ_fold {x : Str} {toks : List (Nat × Str)} {j : Nat} {p : Nat × Str} (h : toks[j]? = some p) : stripFold x (toks.take (j + 1)) = stripStep x (stripFold x (toks.take j)) p := by
  have : toks.take (j + 1) = toks.take j ++ [p] := by rw [List.take_succ, h]; rfl
  rw [this]
  unfold stripFold
  rw [List.foldl_append]; rfl

def stripFor : Stmt := nthS (defBody (stmtAt atStrip)) 4
theorem m1 : ¬ (Str.ofString "addr" = Str.ofString "ch") := by decide
theorem m2 : ¬ (Str.ofString "addr" = Str.ofString "open_pos") := by decide
theorem m3 : ¬ (Str.ofString "addr" = Str.ofString "start") := by decide
theorem m4 : ¬ (Str.ofString "result" = Str.ofString "ch") := by decide
theorem m5 : ¬ (Str.ofString "result" = Str.ofString "pos") := by decide
theorem m6 : ¬ (Str.ofString "result" = Str.ofString "open_pos") := by decide
theorem m7 : ¬ (Str.ofString "result" = Str.ofString "start") := by decide
theorem m8 : ¬ (Str.ofString "start" = Str.ofString "ch") := by decide
theorem m9 : ¬ (Str.ofString "start" = Str.ofString "pos") := by decide
theorem m10 : ¬ (Str.ofString "start" = Str.ofString "open_pos") := by decide
theorem m11 : ¬ (Str.ofString "open_pos" = Str.ofString "ch") := by decide
theorem m12 : ¬ (Str.ofString "open_pos" = Str.ofString "pos") := by decide
theorem m13 : ¬ (Str.ofString "open_pos" = Str.ofString "start") := by decide
theorem m14 : ¬ (Str.ofString "addr" = Str.ofString "pos") := by decide
theorem m15 : ¬ (Str.ofString "addr" = Str.ofString "result") := by decide
theorem m16 : ¬ (Str.ofString "start" = Str.ofString "result") := by decide
theorem m17 : ¬ (Str.ofString "open_pos" = Str.ofString "result") := by decide

section
variable {prog : Program} {w : World} {A : Around} {E : Value → Shared → Prop}

/-- one turn of the scan -/
theorem strip_turn {env : Env} {L C D : Addr} {x : Str} {t : Tok} {toks : List (Nat × Str)} {h₀ : Heap} (e : EnvFor env (stmtAt atStrip) L) (hx : x.length ≤ 1000) (hT : toks.length ≤ 1001)
    (hDL : D ≠ L) (hD₀ : h₀.get? D = none) (hDC : D < C) (hLC : L < C) (hL₀ : h₀.get? L = none) {j : Nat} {p : Nat × Str} {tp tc : Tok} {m : Str → Option Value} {s₁ : Shared}
    (hp : toks[j]? = some p) (hJ : StripJ x t toks h₀ D j m s₁.heap) (hn : s₁.heap.Ns L (fun y => if y = "ch" then some (.str p.2 tc) else if y = "pos" then some (.int p.1 tp) else m y)) :
    wpAny (model prog w) A (execs (forBody stripFor) env) (fun f s₂ => (∃ h' tk, s₂ = { s₁ with heap := h', toks := tk } ∧ ∀ b o, C ≤ b → s₁.heap.get? b = some o → h'.get? b = some o) ∧
        match f with | .next => ∃ m₂, s₂.heap.Ns L m₂ ∧ StripJ x t toks h₀ D (j + 1) m₂ s₂.heap | .ret v => False | _ => False) E s₁ := by
  have hk : env.scope.kind = .function := e.kind rfl
  have hch : env.kindOf "ch" = some .local := e.kindOf (by decide)
  obtain ⟨hkeep, hma, hmr, ⟨t1, hms⟩, ⟨v, hmo, hov⟩, ⟨items, hpl, hst⟩, hlen, hsm⟩ := hJ
  rw [← e.locals] at hn
  refine wpAny_execs_cons (wpAny_If (wpAny_isTrue_Compare1 (nm hk hch hn (v := .str p.2 tc) (by simp) (litStr (eq_str (wpAny_truthy_bool ?_))))))
  have hq : Str.ofString "\"" = (⟨#[34]⟩ : Str) := by decide
  rw [hq]
  have keepL : ∀ {h h' : Heap}, (∀ b o, h₀.get? b = some o → h.get? b = some o) → Heap.SameBut L h h' → ∀ b o, h₀.get? b = some o → h'.get? b = some o := fun k hs b o q =>
    hs.extBut b o (fun (z : b = L) => by rw [z, hL₀] at q; cases q) (k b o q)
  have hstep := take_succ_fold (x := x) hp
  by_cases h34 : p.2 = ⟨#[34]⟩
  · rw [if_pos (by rw [h34]; exact beq_self_eq_true _)]
    cases hop : (stripFold x (toks.take j)).2.1 with
    | none =>
      rw [hop] at hov
      cases (hov : v = .none)
      have hst' : stripStep x (stripFold x (toks.take j)) p = ((stripFold x (toks.take j)).1, some p.1, (stripFold x (toks.take j)).2.2) := by
        unfold stripStep; rw [if_pos h34, hop]
      refine wpAny_execs_cons (wpAny_If (wpAny_isTrue_Compare1 (nm hk (e.kindOf (by decide)) hn (v := .none) (by simp [m11, m12, hmo]) (wpAny_pure (wpAny_is_plain rfl (wpAny_truthy_bool ?_))))))
      rw [if_pos (by rfl)]
      refine wpAny_execs_cons (wpAny_Assign_Name (nm hk (e.kindOf (by decide)) hn (v := .int p.1 tp) (by simp [n3]) (wpAny_storeName_local (e.kindOf (by decide)) hn (fun h₂ hn₂ hs₂ => wpAny_execs_nil (wpAny_execs_nil (wpAny_execs_nil ?_))) (plainScope hk))))
      rw [e.locals] at hn₂ hs₂
      refine ⟨⟨h₂, _, rfl, fun b o hb q => hs₂.extBut b o (fun z => Nat.lt_irrefl _ (Nat.lt_of_lt_of_le hLC (z ▸ hb))) q⟩, _, hn₂, ?_⟩
      unfold StripJ
      rw [hstep, hst']
      exact ⟨keepL hkeep hs₂, by simp [m1, m2, m14, hma], by simp [m4, m5, m6, hmr], ⟨t1, by simp [m8, m9, m10, hms]⟩, ⟨.int p.1 tp, by simp, tp, rfl⟩, ⟨items, hpl.at fun o q => hs₂.extBut D o hDL q, hst⟩, by simp only; omega, hsm⟩
    | some o =>
      rw [hop] at hov
      obtain ⟨t2, rfl⟩ := hov
      refine wpAny_execs_cons (wpAny_If (wpAny_isTrue_Compare1 (nm hk (e.kindOf (by decide)) hn (v := .int o t2) (by simp [m11, m12, hmo]) (wpAny_pure (wpAny_is_plain rfl (wpAny_truthy_bool ?_))))))
      rw [if_neg (by simp)]
      have hst' : stripStep x (stripFold x (toks.take j)) p = (p.1 + 1, none, if (stripFold x (toks.take j)).1 = o then (stripFold x (toks.take j)).2.2 else (stripFold x (toks.take j)).2.2 ++ [Txt.slice x (some ((stripFold x (toks.take j)).1 : Int)) (some (o : Int))]) := by
        unfold stripStep; rw [if_pos h34, hop]
      have hsmall := strip_small x p (stripFold x (toks.take j)) j hlen hsm
      rw [hst'] at hsmall
      have hjn : j < toks.length := (List.getElem?_eq_some_iff.mp hp).1
      refine wpAny_execs_cons (wpAny_mono (Q := fun f s₂ => f = .next ∧ ∃ h₃ tk₃ items', s₂ = { s₁ with heap := h₃, toks := tk₃ } ∧ (∀ b o, h₀.get? b = some o → h₃.get? b = some o) ∧ (∀ b o, C ≤ b → s₁.heap.get? b = some o → h₃.get? b = some o) ∧
        h₃.Ns env.locals (fun y => if y = "ch" then some (.str p.2 tc) else if y = "pos" then some (.int p.1 tp) else m y) ∧ h₃.PlainList D items' ∧ StrsAre items'.toList (stripStep x (stripFold x (toks.take j)) p).2.2) ?_ (fun f s₂ hf => ?_) fun _ _ q => q)
      · refine wpAny_If (wpAny_isTrue_Compare1 (nm hk (e.kindOf (by decide)) hn (v := .int (stripFold x (toks.take j)).1 t1) (by simp [m8, m9, hms]) (nm hk (e.kindOf (by decide)) hn (v := .int o t2) (by simp [m11, m12, hmo]) (ne_int (wpAny_truthy_bool ?_)))))
        rw [hst']
        by_cases hso : (stripFold x (toks.take j)).1 = o
        · rw [if_neg (by simp [hso]), if_pos hso]
          exact wpAny_execs_nil ⟨rfl, s₁.heap, _, items, rfl, hkeep, fun _ _ _ q => q, hn, hpl, hst⟩
        · rw [if_pos (by simp; omega), if_neg hso]
          refine wpAny_execs_cons (wpAny_Expr ?_ e.inter)
          refine wpAny_Call_append rfl rfl rfl rfl (nm hk (e.kindOf (by decide)) hn (v := .ref D) (by simp [m4, m5, hmr]) ⟨D, items, rfl, ?_, ?_⟩)
          · obtain ⟨n, hn'⟩ := hpl
            exact ⟨_, n, hn', rfl, rfl, rfl⟩
          refine Subscript_ (nm hk (e.kindOf (by decide)) hn (v := .str x t) (by simp [m1, m14, hma]) (wpAny_Slice (nm hk (e.kindOf (by decide)) hn (v := .int (stripFold x (toks.take j)).1 t1) (by simp [m8, m9, hms]) (nm hk (e.kindOf (by decide)) hn (v := .int o t2) (by simp [m11, m12, hmo]) (wpAny_pure ?_)))))
          refine tail_of_ItemOn (SBH.sliceItem_ss (P := fun h => ∀ b o, s₁.heap.get? b = some o → h.get? b = some o) (fun h ob kk b o q => Heap.get?_push_of_some _ (kk b o q)) (fun _ _ q => q) (fun h' t' k' hk' => ?_) (by have := sizeLine_eq; omega))
            (by with_unfolding_all rfl) (by intro _; with_unfolding_all rfl)
          refine wpAny_list_append_plain (hpl.at fun o q => hk' D o q) (fun h₃ hpl₃ hs₃ => ?_) (by
            have h1 := hst.len_eq
            have h2 : items.toList.length = items.size := by simp
            have := sizeLine_eq; omega)
          replace hs₃ : Heap.SameBut D h' h₃ := hs₃
          refine wpAny_execs_nil ⟨rfl, h₃, _, _, rfl, fun b o q => hs₃.extBut b o (fun z => by rw [z, hD₀] at q; cases q) (hk' b o (hkeep b o q)), fun b o hb q => hs₃.extBut b o (fun z => Nat.lt_irrefl _ (Nat.lt_of_lt_of_le hDC (z ▸ hb))) (hk' b o q),
            (hn.at' fun o q => hs₃.extBut _ o (fun z => hDL (z.symm.trans e.locals)) (hk' _ o q)), hpl₃, ?_⟩
          rw [Array.toList_push]
          exact hst.append' (.cons _ _ .nil)
      · obtain ⟨rfl, h₃, tk₃, items', rfl, hk₃, hC₃, hn₃, hpl₃, hst₃⟩ := hf
        refine wpAny_execs_cons (wpAny_Assign_Name (wpAny_BinOp (nm hk (e.kindOf (by decide)) hn₃ (v := .int p.1 tp) (by simp [n3]) (wpAny_Constant_int (add_int (wpAny_storeName_local (e.kindOf (by decide)) hn₃ (fun h₄ hn₄ hs₄ => ?_) (plainScope hk)))))))
        replace hs₄ : Heap.SameBut L h₃ h₄ := e.locals ▸ hs₄
        refine wpAny_execs_cons (wpAny_Assign_Name (wpAny_pure (wpAny_storeName_local (e.kindOf (by decide)) hn₄ (fun h₅ hn₅ hs₅ => wpAny_execs_nil (wpAny_execs_nil (wpAny_execs_nil ?_))) (plainScope hk))))
        replace hs₅ : Heap.SameBut L h₄ h₅ := e.locals ▸ hs₅
        rw [e.locals] at hn₅
        have hC : ∀ b, C ≤ b → b ≠ L := fun b hb z => Nat.lt_irrefl _ (Nat.lt_of_lt_of_le hLC (z ▸ hb))
        refine ⟨⟨h₅, _, rfl, fun b o hb q => hs₅.extBut b o (hC b hb) (hs₄.extBut b o (hC b hb) (hC₃ b o hb q))⟩, _, hn₅, ?_⟩
        unfold StripJ
        rw [hstep]
        rw [hst'] at hst₃ ⊢
        refine ⟨keepL (keepL hk₃ hs₄) hs₅, by simp [m1, m2, m3, m14, hma], by simp [m4, m5, m6, m7, hmr], ⟨_, by simp [m10]; rfl⟩, ⟨.none, by simp, rfl⟩, ⟨items', (hpl₃.at fun o q => hs₄.extBut D o hDL q).at fun o q => hs₅.extBut D o hDL q, hst₃⟩, hsmall.1, hsmall.2⟩
  · rw [if_neg (by simp [h34])]
    have hst' : stripStep x (stripFold x (toks.take j)) p = stripFold x (toks.take j) := by
      unfold stripStep; rw [if_neg h34]
    refine wpAny_execs_nil (wpAny_execs_nil ⟨⟨s₁.heap, _, rfl, fun _ _ _ e => e⟩, _, e.locals ▸ hn, ?_⟩)
    unfold StripJ
    rw [hstep, hst']
    exact ⟨hkeep, by simp [m1, m14, hma], by simp [m4, m5, hmr], ⟨t1, by simp [m8, m9, hms]⟩, ⟨v, by simp [m11, m12, hmo], hov⟩, ⟨items, hpl, hst⟩, by omega, hsm⟩
end
end Mine
namespace Mine
open PySem

section
variable {prog : Program} {w : World} {A : Around} {E : Value → Shared → Prop} {s : Shared}

set_option maxHeartbeats 4000000 in
theorem call_strip {base : Heap} {fI fS fC : Addr} {x : Str} {t : Tok} {Q : Value → Shared → Prop} (N : Names base fI fS fC) (hb : ∀ b o, base.get? b = some o → s.heap.get? b = some o) (hh : A.handled = none) (hroom : A.depth + 1 < recursionLimit)
    (hx : x.length ≤ 1000) (h : ∀ t' s', Ext s s' → Q (.str (stripOf x) t') s') : wpAny (model prog w) A (call (.ref fS) [.str x t]) Q E s := by
  refine enterDef (n := "addr") (Nat.lt_of_succ_lt hroom) N.strip N.lim hb ?_ (by decide) (by decide) rfl rfl rfl fun env h₁ e1 e2 e3 e4 e5 hn hk₁ => ?_
  · rintro ⟨name, qualname, params, body, scope, globals, closure, defaults, kwdefaults, doc, pyModule, anns, code, closureTuple, builtins⟩ h1 h2 h3
    dsimp only at h1 h2 h3
    subst h1 h2 h3
    rfl
  have e : EnvFor env (stmtAt atStrip) s.heap.objs.size := ⟨e1, e2, e3, e4, e5⟩
  have hk : env.scope.kind = .function := e.kind rfl
  have hh' : (A.deeper env).handled = none := hh
  have hroom' : (A.deeper env).depth < recursionLimit := hroom
  have hnL : h₁.Ns env.locals (fun y => if y = "addr" then some (.str x t) else none) := by rw [e2]; exact hn
  have hL₀ : s.heap.get? env.locals = none := by rw [e2]; exact getAbove _
  have hbL : ∀ b o, s.heap.get? b = some o → b ≠ env.locals := fun b o q z => by rw [z, hL₀] at q; cases q
  refine wpAny_execs_cons (wpAny_If (wpAny_isTrue_Compare1 (litStr (nm hk (e.kindOf (by decide)) hnL (v := .str x t) (by simp) (notIn_str (wpAny_truthy_bool ?_))))))
  rw [show Str.ofString "\"" = (⟨#[34]⟩ : Str) from by decide, StrLaws.found_one]
  by_cases h34 : 34 ∈ x.cps.toList
  · rw [if_neg (by simp [h34])]
    have hres : stripOf x = Str.join (Str.ofString "") (if (stripFold x (escOf x)).1 < x.length then (stripFold x (escOf x)).2.2 ++ [Txt.slice x (some ((stripFold x (escOf x)).1 : Int)) none] else (stripFold x (escOf x)).2.2) := by
      unfold stripOf; rw [if_pos h34]
    refine wpAny_execs_nil (wpAny_execs_cons (wpAny_Assign_Name (wpAny_Constant_int (wpAny_storeName_local (e.kindOf (by decide)) hnL (fun h₂ hn₂ hs₂ => ?_) (plainScope hk)))))
    replace hs₂ : Heap.SameBut env.locals h₁ h₂ := hs₂
    refine wpAny_execs_cons (wpAny_Assign_Name (wpAny_pure (wpAny_storeName_local (e.kindOf (by decide)) hn₂ (fun h₃ hn₃ hs₃ => ?_) (plainScope hk))))
    replace hs₃ : Heap.SameBut env.locals h₂ h₃ := hs₃
    refine wpAny_execs_cons (wpAny_Assign_Name (wpAny_List_spliced (Calls.spliced_nil ⟨Nat.zero_le _, wpAny_storeName_local (e.kindOf (by decide)) (hn₃.push _) (fun h₄ hn₄ hs₄ => ?_) (plainScope hk)⟩)))
    replace hs₄ : Heap.SameBut env.locals (h₃.push { cls := .type "list", data := .seq ([] : List Value).toArray }) h₄ := hs₄
    have hD₄ : h₄.PlainList h₃.objs.size #[] := by
      refine ⟨0, hs₄.extBut _ _ (fun z => ?_) (Heap.get?_push_size _ rfl)⟩
      exact Nat.lt_irrefl _ (z ▸ hn₃.lt)
    have up₃ : ∀ b o, s.heap.get? b = some o → h₃.get? b = some o := fun b o q => hs₃.extBut b o (hbL b o q) (hs₂.extBut b o (hbL b o q) (hk₁ b o q))
    have up₄ : ∀ b o, s.heap.get? b = some o → h₄.get? b = some o := fun b o q => hs₄.extBut b o (hbL b o q) (Heap.get?_push_of_some _ (up₃ b o q))
    have hb₄ : ∀ b o, base.get? b = some o → h₄.get? b = some o := fun b o q => up₄ b o (hb b o q)
    have hDL : h₃.objs.size ≠ env.locals := Nat.ne_of_gt hn₃.lt
    have hDC : h₃.objs.size < h₄.objs.size := by rw [hs₄.1, Heap.size_push]; exact Nat.lt_succ_self _
    have hLC : env.locals < h₄.objs.size := hn₄.lt
    have hD₀ : s.heap.get? h₃.objs.size = none := by
      cases q : s.heap.get? h₃.objs.size with
      | none => rfl
      | some o => exact absurd (Heap.lt_size (up₃ _ _ q)) (Nat.lt_irrefl _)
    obtain ⟨mg, hg, hg1, hg2, hg3, hg4⟩ := N.glob
    obtain ⟨mb, hbl, hbl1, hbl2⟩ := N.blt
    refine wpAny_execs_cons (wpAny_For (callDef1 hk (e.kindOf (by decide)) (e3 ▸ hg) hg3 N.iter hb₄ (nm hk (e.kindOf (by decide)) hn₄ (v := .str x t) (by simp [m2, m3, m15]) ⟨hb₄, call_esc hh' hroom' N.iter N.lim hb₄ ⟨mg, hg, hg1⟩ ⟨mb, hbl, hbl1⟩ fun s₅ hgen hk₅ hos₅ hgs₅ => ?_⟩)))
    have st₅ := hgen (A.deeper env) hh'
    refine wpAny_pyIter_gen st₅.1 ?_
    replace hk₅ : ∀ b o, h₄.get? b = some o → s₅.heap.get? b = some o := hk₅
    refine loop_gen hh' hroom' N.lim (fun b o q => Heap.lt_size (hb₄ b o q)) hLC (fun b o q => hbL b o (hb b o q)) hk (e.kindOf (by decide)) (e.kindOf (by decide)) (StripJ x t (escOf x) s.heap h₃.objs.size) (fun _ _ => False)
      ?_ (fun j m h q => fun b o z => q.1 b o (hb b o z)) ?_ (fun _ _ q => q.elim) ?_ st₅ (hn₄.at' fun o q => hk₅ _ o q) ?_
    · rintro j m h h' ⟨q1, q2, q3, q4, q5, ⟨items, q6, q7⟩, q8⟩ hkk
      exact ⟨fun b o z => hkk b o (Heap.lt_size (up₄ b o z)) (hbL b o z) (q1 b o z), q2, q3, q4, q5, ⟨items, q6.at fun o z => hkk _ o hDC hDL z, q7⟩, q8⟩
    · intro j p tp tc m s₁ hp hJ hn₁
      have := strip_turn (E := notedBy (model prog w) (A.deeper env) env fun e s' => cameBackBy (model prog w) (A.deeper env) env (fun _ _ => False) e s') (A := A.deeper env) (prog := prog) (w := w) e hx (Nat.le_trans (escOf_len x) (by omega)) (e2 ▸ hDL) hD₀ hDC (e2 ▸ hLC) (e2 ▸ hL₀) hp hJ (e2 ▸ hn₁)
      rw [← e2] at this
      exact this
    · intro m' s' hn' hJ hos hbare
      obtain ⟨q1, q2, q3, ⟨t1, q4⟩, ⟨v, q5, _⟩, ⟨items, q6, q7⟩, q8, q9⟩ := hJ
      rw [List.take_length] at q4 q7 q8 q9
      have hb' : ∀ b o, base.get? b = some o → s'.heap.get? b = some o := fun b o q => q1 b o (hb b o q)
      have hlen := escOf_len x
      show wpAny _ _ (execs _ env) _ _ _
      refine wpAny_execs_cons (wpAny_mono (Q := fun f s₂ => f = .next ∧ ∃ h₆ tk₆ items', s₂ = { s' with heap := h₆, toks := tk₆ } ∧ (∀ b o, s.heap.get? b = some o → h₆.get? b = some o) ∧ h₆.Ns env.locals m' ∧ h₆.PlainList h₃.objs.size items' ∧
        StrsAre items'.toList (if (stripFold x (escOf x)).1 < x.length then (stripFold x (escOf x)).2.2 ++ [Txt.slice x (some ((stripFold x (escOf x)).1 : Int)) none] else (stripFold x (escOf x)).2.2)) ?_ (fun f s₂ hf => ?_) fun _ _ q => q)
      · refine wpAny_If (wpAny_isTrue_Compare1 (nm hk (e.kindOf (by decide)) hn' q4 (Call_Name1 (Calls.Name_function_global hk (e.kindOf (by decide)) (Calls.loadGlobal_builtin (e3 ▸ hg.keeps hb') hg2 (e4 ▸ hbl.keeps hb') hbl2
          (Calls.callWith_builtin rfl (Calls.evalArgs_plain (Calls.spliced_cons (nm hk (e.kindOf (by decide)) hn' q2 (Calls.spliced_nil (len_str (by omega) (lt_int (wpAny_truthy_bool ?_)))))))))))))
        by_cases hlt : (stripFold x (escOf x)).1 < x.length
        · rw [if_pos (by simp; omega), if_pos hlt]
          refine wpAny_execs_cons (wpAny_Expr ?_ e.inter)
          refine wpAny_Call_append rfl rfl rfl rfl (nm hk (e.kindOf (by decide)) hn' q3 ⟨_, items, rfl, ?_, ?_⟩)
          · obtain ⟨n, hn'⟩ := q6
            exact ⟨_, n, hn', rfl, rfl, rfl⟩
          refine Subscript_ (nm hk (e.kindOf (by decide)) hn' q2 (wpAny_Slice (nm hk (e.kindOf (by decide)) hn' q4 (wpAny_pure (wpAny_pure ?_)))))
          refine tail_of_ItemOn (SBH.sliceItem_sn (P := fun h => ∀ b o, s'.heap.get? b = some o → h.get? b = some o) (fun h ob kk b o q => Heap.get?_push_of_some _ (kk b o q)) (fun _ _ q => q) (fun h' t' k' hk' => ?_) (by have := sizeLine_eq; omega))
            (by with_unfolding_all rfl) (by intro _; with_unfolding_all rfl)
          refine wpAny_list_append_plain (q6.at fun o q => hk' _ o q) (fun h₆ hpl₆ hs₆ => ?_) (by
            have h1 := q7.len_eq
            have h2 : items.toList.length = items.size := by simp
            have := sizeLine_eq; omega)
          replace hs₆ : Heap.SameBut h₃.objs.size h' h₆ := hs₆
          refine wpAny_execs_nil ⟨rfl, h₆, _, _, rfl, fun b o q => hs₆.extBut b o (fun z => by rw [z, hD₀] at q; cases q) (hk' b o (q1 b o q)), (hn'.at' fun o q => hs₆.extBut _ o (Ne.symm hDL) (hk' _ o q)), hpl₆, ?_⟩
          rw [Array.toList_push]
          exact q7.append' (.cons _ _ .nil)
        · rw [if_neg (by simp; omega), if_neg hlt]
          exact wpAny_execs_nil ⟨rfl, s'.heap, _, items, rfl, q1, hn', q6, q7⟩
      · obtain ⟨rfl, h₆, tk₆, items', rfl, q1', hn₆, hpl₆, hst₆⟩ := hf
        refine wpAny_execs_cons (wpAny_Return_some (Call_method1 rfl rfl rfl (litStr ?_)))
        refine ⟨"str", "str.join", F.plainAttrs_str, F.slot_str_join, F.type_str_join, typeIs_str _ _ _, (fun _ e => nomatch e), ?_⟩
        refine Calls.callWith_builtin rfl (Calls.evalArgs_plain (Calls.spliced_cons (nm hk (e.kindOf (by decide)) hn₆ q3 (Calls.spliced_nil ?_))))
        have hys : ∀ y ∈ (if (stripFold x (escOf x)).1 < x.length then (stripFold x (escOf x)).2.2 ++ [Txt.slice x (some ((stripFold x (escOf x)).1 : Int)) none] else (stripFold x (escOf x)).2.2), y.length ≤ 1000 := by
          intro y hy
          split at hy
          · rcases List.mem_append.mp hy with hy | hy
            · exact Nat.le_trans (q9 y hy) hx
            · rw [List.mem_singleton.mp hy]; exact Nat.le_trans (PyProof.Txt.length_slice_le x _ _) hx
          · exact Nat.le_trans (q9 y hy) hx
        have hys2 : (if (stripFold x (escOf x)).1 < x.length then (stripFold x (escOf x)).2.2 ++ [Txt.slice x (some ((stripFold x (escOf x)).1 : Int)) none] else (stripFold x (escOf x)).2.2).length ≤ 1002 := by
          split
          · rw [List.length_append, List.length_singleton]; omega
          · omega
        refine join_list (ys := if (stripFold x (escOf x)).1 < x.length then (stripFold x (escOf x)).2.2 ++ [Txt.slice x (some ((stripFold x (escOf x)).1 : Int)) none] else (stripFold x (escOf x)).2.2) hpl₆.isList hst₆ ?_ fun t' k' => ?_
        · have h1 := sum_small 1000 _ hys
          have h0 : (Str.ofString "").length = 0 := by decide
          rw [h0, Nat.mul_zero, Nat.add_zero]
          exact Nat.le_trans h1 (by omega)
        · have h' := h t' { s' with heap := h₆, toks := k' } ⟨q1', hos.trans hos₅, fun q => hbare (by obtain ⟨gs, hb1, hb2⟩ := hgs₅; rw [hb2]; exact AllBare.push q hb1)⟩
          rw [hres, ← PySem.StrLaws.glued_eq_join] at h'
          exact h'
    · refine ⟨fun b o q => hk₅ b o (up₄ b o q), by simp [m2, m3, m15], by simp, ⟨_, by simp [m10, m16, stripFold]; rfl⟩, ⟨.none, by simp [m17], rfl⟩, ⟨#[], hD₄.at fun o q => hk₅ _ o q, .nil⟩, Nat.zero_le _, fun y hy => nomatch hy⟩
  · rw [if_pos (by simp [h34])]
    refine wpAny_execs_cons (wpAny_Return_some (nm hk (e.kindOf (by decide)) hnL (v := .str x t) (by simp) ?_))
    have : stripOf x = x := by unfold stripOf; rw [if_neg h34]
    have h' := h t { s with heap := h₁, toks := s.toks + 1 + 1 } (Ext.of_heap hk₁)
    rw [this] at h'
    exact h'
end
end Mine
namespace Mine
open PySem

/-- the count of open brackets along the pairs -/
def chkGo : List (Nat × Str) → Int → Bool
  | [], n => n == 0
  | p :: r, n => if p.2 = ⟨#[40]⟩ then chkGo r (n + 1) else if p.2 = ⟨#[41]⟩ then (if n - 1 < 0 then false else chkGo r (n - 1)) else chkGo r n
/-- what the check answers -/
def chk (x : Str) : Bool := chkGo (escOf (stripOf x)) 0

def ChkJ (toks : List (Nat × Str)) (h₀ : Heap) (j : Nat) (m : Str → Option Value) (h : Heap) : Prop :=
  (∀ b o, h₀.get? b = some o → h.get? b = some o) ∧ ∃ n t, m "opens" = some (.int n t) ∧ chkGo (toks.drop j) n = chkGo toks 0
def ChkZ (toks : List (Nat × Str)) (h₀ : Heap) (v : Value) (h : Heap) : Prop := (∀ b o, h₀.get? b = some o → h.get? b = some o) ∧ v = .bool (chkGo toks 0)

def chkFor : Stmt := nthS (defBody (stmtAt atCheck)) 2
theorem k1 : ¬ (Str.ofString "opens" = Str.ofString "ch") := by decide
theorem k2 : ¬ (Str.ofString "opens" = Str.ofString "pos") := by decide
theorem k3 : ¬ (Str.ofString "addr" = Str.ofString "opens") := by decide

section
variable {prog : Program} {w : World} {A : Around} {E : Value → Shared → Prop} {s : Shared}

theorem chk_turn {env : Env} {L C : Addr} {toks : List (Nat × Str)} {h₀ : Heap} (e : EnvFor env (stmtAt atCheck) L) (hLC : L < C) (hL₀ : h₀.get? L = none) {j : Nat} {p : Nat × Str} {tp tc : Tok} {m : Str → Option Value} {s₁ : Shared}
    (hp : toks[j]? = some p) (hJ : ChkJ toks h₀ j m s₁.heap) (hn : s₁.heap.Ns L (fun y => if y = "ch" then some (.str p.2 tc) else if y = "pos" then some (.int p.1 tp) else m y)) :
    wpAny (model prog w) A (execs (forBody chkFor) env) (fun f s₂ => (∃ h' tk, s₂ = { s₁ with heap := h', toks := tk } ∧ ∀ b o, C ≤ b → s₁.heap.get? b = some o → h'.get? b = some o) ∧
        match f with | .next => ∃ m₂, s₂.heap.Ns L m₂ ∧ ChkJ toks h₀ (j + 1) m₂ s₂.heap | .ret v => ChkZ toks h₀ v s₂.heap | _ => False) E s₁ := by
  have hk : env.scope.kind = .function := e.kind rfl
  have hch : env.kindOf "ch" = some .local := e.kindOf (by decide)
  have hop : env.kindOf "opens" = some .local := e.kindOf (by decide)
  obtain ⟨hkeep, n, t, hmo, hgo⟩ := hJ
  have hd : toks.drop j = p :: toks.drop (j + 1) := by
    have hlt : j < toks.length := (List.getElem?_eq_some_iff.mp hp).1
    rw [List.drop_eq_getElem_cons hlt]
    congr 1
    rw [List.getElem?_eq_getElem hlt] at hp
    exact Option.some.inj hp
  rw [hd] at hgo
  have hcons : ∀ r n, chkGo (p :: r) n = if p.2 = ⟨#[40]⟩ then chkGo r (n + 1) else if p.2 = ⟨#[41]⟩ then (if n - 1 < 0 then false else chkGo r (n - 1)) else chkGo r n := fun _ _ => rfl
  rw [hcons] at hgo
  rw [← e.locals] at hn
  have hC : ∀ b, C ≤ b → b ≠ L := fun b hb z => Nat.lt_irrefl _ (Nat.lt_of_lt_of_le hLC (z ▸ hb))
  have keepL : ∀ {h h' : Heap}, (∀ b o, h₀.get? b = some o → h.get? b = some o) → Heap.SameBut L h h' → ∀ b o, h₀.get? b = some o → h'.get? b = some o := fun k hs b o q =>
    hs.extBut b o (fun (z : b = L) => by rw [z, hL₀] at q; cases q) (k b o q)
  refine wpAny_execs_cons (wpAny_If (wpAny_isTrue_Compare1 (nm hk hch hn (v := .str p.2 tc) (by simp) (litStr (eq_str (wpAny_truthy_bool ?_))))))
  rw [show Str.ofString "(" = (⟨#[40]⟩ : Str) from by decide]
  by_cases h40 : p.2 = ⟨#[40]⟩
  · rw [if_pos h40] at hgo
    rw [if_pos (by rw [h40]; exact beq_self_eq_true _)]
    refine wpAny_execs_cons (wpAny_AugAssign_Name (wpAny_loadName_local hk hop hn (v := .int n t) (by simp [k1, k2, hmo]) (wpAny_Constant_int (iadd_int (wpAny_storeName_local hop hn (fun h₂ hn₂ hs₂ => wpAny_execs_nil (wpAny_execs_nil ?_)) (plainScope hk))))))
    rw [e.locals] at hn₂ hs₂
    exact ⟨⟨h₂, _, rfl, fun b o hb q => hs₂.extBut b o (hC b hb) q⟩, _, hn₂, keepL hkeep hs₂, n + 1, _, by simp; rfl, hgo⟩
  · rw [if_neg h40] at hgo
    rw [if_neg (by simp [h40])]
    refine wpAny_execs_cons (wpAny_If (wpAny_isTrue_Compare1 (nm hk hch hn (v := .str p.2 tc) (by simp) (litStr (eq_str (wpAny_truthy_bool ?_))))))
    rw [show Str.ofString ")" = (⟨#[41]⟩ : Str) from by decide]
    by_cases h41 : p.2 = ⟨#[41]⟩
    · rw [if_pos h41] at hgo
      rw [if_pos (by rw [h41]; exact beq_self_eq_true _)]
      refine wpAny_execs_cons (wpAny_AugAssign_Name (wpAny_loadName_local hk hop hn (v := .int n t) (by simp [k1, k2, hmo]) (wpAny_Constant_int (isub_int (wpAny_storeName_local hop hn (fun h₂ hn₂ hs₂ => ?_) (plainScope hk))))))
      replace hs₂ : Heap.SameBut L s₁.heap h₂ := e.locals ▸ hs₂
      refine wpAny_execs_cons (wpAny_If (wpAny_isTrue_Compare1 (nm hk hop hn₂ (v := .int (n - 1) _) (by simp; rfl) (wpAny_Constant_int (lt_int (wpAny_truthy_bool ?_))))))
      rw [e.locals] at hn₂
      by_cases hneg : n - 1 < 0
      · rw [if_pos hneg] at hgo
        rw [if_pos (by simpa using hneg)]
        refine wpAny_execs_cons (wpAny_Return_some (wpAny_pure ?_))
        exact ⟨⟨h₂, _, rfl, fun b o hb q => hs₂.extBut b o (hC b hb) q⟩, keepL hkeep hs₂, by rw [← hgo]⟩
      · rw [if_neg hneg] at hgo
        rw [if_neg (by simpa using hneg)]
        refine wpAny_execs_nil (wpAny_execs_nil (wpAny_execs_nil (wpAny_execs_nil ?_)))
        exact ⟨⟨h₂, _, rfl, fun b o hb q => hs₂.extBut b o (hC b hb) q⟩, _, hn₂, keepL hkeep hs₂, n - 1, _, by simp; rfl, hgo⟩
    · rw [if_neg h41] at hgo
      rw [if_neg (by simp [h41])]
      refine wpAny_execs_nil (wpAny_execs_nil (wpAny_execs_nil ?_))
      exact ⟨⟨s₁.heap, _, rfl, fun _ _ _ q => q⟩, _, e.locals ▸ hn, hkeep, n, t, by simp [k1, k2, hmo], hgo⟩

set_option maxHeartbeats 4000000 in
theorem call_check {base : Heap} {fI fS fC : Addr} {x : Str} {t : Tok} {Q : Value → Shared → Prop} (N : Names base fI fS fC) (hb : ∀ b o, base.get? b = some o → s.heap.get? b = some o) (hh : A.handled = none) (hroom : A.depth + 2 < recursionLimit)
    (hx : x.length ≤ 1000) (h : ∀ s', Ext s s' → Q (.bool (chk x)) s') : wpAny (model prog w) A (call (.ref fC) [.str x t]) Q E s := by
  refine enterDef (n := "addr") (by omega) N.check N.lim hb ?_ (by decide) (by decide) rfl rfl rfl fun env h₁ e1 e2 e3 e4 e5 hn hk₁ => ?_
  · rintro ⟨name, qualname, params, body, scope, globals, closure, defaults, kwdefaults, doc, pyModule, anns, code, closureTuple, builtins⟩ h1 h2 h3
    dsimp only at h1 h2 h3
    subst h1 h2 h3
    rfl
  have e : EnvFor env (stmtAt atCheck) s.heap.objs.size := ⟨e1, e2, e3, e4, e5⟩
  have hk : env.scope.kind = .function := e.kind rfl
  have hh' : (A.deeper env).handled = none := hh
  have hroom' : (A.deeper env).depth + 1 < recursionLimit := hroom
  have hroom'' : (A.deeper env).depth < recursionLimit := Nat.lt_of_succ_lt hroom'
  have hnL : h₁.Ns env.locals (fun y => if y = "addr" then some (.str x t) else none) := by rw [e2]; exact hn
  have hL₀ : s.heap.get? env.locals = none := by rw [e2]; exact getAbove _
  have hbL : ∀ b o, s.heap.get? b = some o → b ≠ env.locals := fun b o q z => by rw [z, hL₀] at q; cases q
  obtain ⟨mg, hg, hg1, hg2, hg3, hg4⟩ := N.glob
  obtain ⟨mb, hbl, hbl1, hbl2⟩ := N.blt
  have hb₁ : ∀ b o, base.get? b = some o → h₁.get? b = some o := fun b o q => hk₁ b o (hb b o q)
  have hop : env.kindOf "opens" = some .local := e.kindOf (by decide)
  refine wpAny_execs_cons (wpAny_Assign_Name (callDef1 hk (e.kindOf (by decide)) (e3 ▸ hg) hg4 N.strip hb₁ (nm hk (e.kindOf (by decide)) hnL (v := .str x t) (by simp) ⟨hb₁, call_strip N hb₁ hh' hroom' hx fun t' s₂ x₂ => ?_⟩)))
  have hn₂ : s₂.heap.Ns env.locals (fun y => if y = "addr" then some (.str x t) else none) := hnL.at' fun o q => x₂.keep _ o q
  have hk₂ : ∀ b o, s.heap.get? b = some o → s₂.heap.get? b = some o := fun b o q => x₂.keep b o (hk₁ b o q)
  have hos₂ : s₂.os = s.os := x₂.os
  have hbare₂ : AllBare s.gens → AllBare s₂.gens := x₂.bare
  refine wpAny_storeName_local (e.kindOf (by decide)) hn₂ (fun h₃ hn₃ hs₃ => ?_) (plainScope hk)
  refine wpAny_execs_cons (wpAny_Assign_Name (wpAny_Constant_int (wpAny_storeName_local hop hn₃ (fun h₄ hn₄ hs₄ => ?_) (plainScope hk))))
  replace hs₄ : Heap.SameBut env.locals h₃ h₄ := hs₄
  have up₄ : ∀ b o, s.heap.get? b = some o → h₄.get? b = some o := fun b o q => hs₄.extBut b o (hbL b o q) (hs₃.extBut b o (hbL b o q) (hk₂ b o q))
  have hb₄ : ∀ b o, base.get? b = some o → h₄.get? b = some o := fun b o q => up₄ b o (hb b o q)
  have hLC : env.locals < h₄.objs.size := hn₄.lt
  refine wpAny_execs_cons (wpAny_For (callDef1 hk (e.kindOf (by decide)) (e3 ▸ hg) hg3 N.iter hb₄ (nm hk (e.kindOf (by decide)) hn₄ (v := .str (stripOf x) t') (by simp [k3]) ⟨hb₄, call_esc hh' hroom'' N.iter N.lim hb₄ ⟨mg, hg, hg1⟩ ⟨mb, hbl, hbl1⟩ fun s₅ hgen hk₅ hos₅ hgs₅ => ?_⟩)))
  have st₅ := hgen (A.deeper env) hh'
  refine wpAny_pyIter_gen st₅.1 ?_
  replace hk₅ : ∀ b o, h₄.get? b = some o → s₅.heap.get? b = some o := hk₅
  have hos : s₅.os = s.os := hos₅.trans hos₂
  have hbare : AllBare s.gens → AllBare s₅.gens := fun q => by
    obtain ⟨gs, hb1, hb2⟩ := hgs₅
    rw [hb2]
    exact AllBare.push (hbare₂ q) hb1
  refine loop_gen hh' hroom'' N.lim (fun b o q => Heap.lt_size (hb₄ b o q)) hLC (fun b o q => hbL b o (hb b o q)) hk (e.kindOf (by decide)) (e.kindOf (by decide)) (ChkJ (escOf (stripOf x)) s.heap) (ChkZ (escOf (stripOf x)) s.heap)
    ?_ (fun j m h q => fun b o z => q.1 b o (hb b o z)) ?_ ?_ ?_ st₅ (hn₄.at' fun o q => hk₅ _ o q) ?_
  · rintro j m h h' ⟨q1, q2⟩ hkk
    exact ⟨fun b o z => hkk b o (Heap.lt_size (up₄ b o z)) (hbL b o z) (q1 b o z), q2⟩
  · intro j p tp tc m s₁ hp hJ hn₁
    have := chk_turn (E := notedBy (model prog w) (A.deeper env) env fun e s' => cameBackBy (model prog w) (A.deeper env) env (fun _ _ => False) e s') (A := A.deeper env) (prog := prog) (w := w) e (e2 ▸ hLC) (e2 ▸ hL₀) hp hJ (e2 ▸ hn₁)
    rw [← e2] at this
    exact this
  · rintro v s' ⟨q1, rfl⟩ q3 q4
    exact h s' ⟨q1, q3.trans hos, fun z => q4 (hbare z)⟩
  · rintro m' s' hn' ⟨q1, n, tn, q2, q3⟩ hos' hbare'
    rw [List.drop_length] at q3
    show wpAny _ _ (execs _ env) _ _ _
    refine wpAny_execs_cons (wpAny_Return_some (wpAny_Compare1 (nm hk hop hn' q2 (wpAny_Constant_int (eq_int ?_)))))
    have h' := h { s' with toks := s'.toks + 1 } ⟨q1, hos'.trans hos, fun z => hbare' (hbare z)⟩
    have : (n == 0) = chk x := q3
    rw [← this] at h'
    exact h'
  · exact ⟨fun b o q => hk₅ b o (up₄ b o q), 0, _, by simp; rfl, rfl⟩
end
end Mine
namespace Mine
open PySem

/-- the figures to the base 16, the last one first to be laid -/
def apF : Nat → Nat → List UInt8 → List UInt8
  | 0, _, acc => acc
  | f + 1, n, acc => if n = 0 then acc else apF f (n / 16) ((65 + n % 16).toUInt8 :: acc)
def ap (n : Nat) : List UInt8 := apF 64 n []

def apAlpha : Array UInt8 := #[65, 66, 67, 68, 69, 70, 71, 72, 73, 74, 75, 76, 77, 78, 79, 80]
theorem ap_letter : ∀ k : Fin 16, KBy.picked apAlpha (some ((k.val : Nat) : Int)) (some ((k.val : Nat) + 1 : Int)) = #[(65 + k.val).toUInt8] := by decide +kernel

structure IntNames (base : Heap) (fA : Addr) : Prop where
  def_ : FnIs base (stmtAt atInt) fA
  lim : base.NoLimit
  glob : ∃ mg, base.Ns mainGlobals mg ∧ mg "int" = none ∧ mg "abs" = none ∧ mg "divmod" = none
  blt : ∃ mb, base.Ns builtinsNs mb ∧ mb "int" = some (.type "int") ∧ mb "abs" = some (.builtin "abs") ∧ mb "divmod" = some (.builtin "divmod")

theorem i1 : ¬ (Str.ofString "num" = Str.ofString "val") := by decide
theorem i2 : ¬ (Str.ofString "num" = Str.ofString "AP") := by decide
theorem i3 : ¬ (Str.ofString "num" = Str.ofString "mod") := by decide
theorem i4 : ¬ (Str.ofString "val" = Str.ofString "AP") := by decide
theorem i5 : ¬ (Str.ofString "val" = Str.ofString "num") := by decide
theorem i6 : ¬ (Str.ofString "val" = Str.ofString "mod") := by decide
theorem i7 : ¬ (Str.ofString "AP" = Str.ofString "val") := by decide
theorem i8 : ¬ (Str.ofString "AP" = Str.ofString "num") := by decide
theorem i9 : ¬ (Str.ofString "AP" = Str.ofString "mod") := by decide
theorem i10 : ¬ (Str.ofString "mod" = Str.ofString "num") := by decide
theorem i11 : ¬ (Str.ofString "mod" = Str.ofString "val") := by decide

def intWhile : Stmt := nthS (defBody (stmtAt atInt)) 3
def whileBody : Stmt → List Stmt
  | .While _ b _ _ => b
  | _ => []

section
variable {prog : Program} {w : World} {A : Around} {E : Value → Shared → Prop} {s : Shared}

theorem litBytes {env : Env} {x : List UInt8} {k : Nat} {pos : Pos} {Q : Value → Shared → Prop} (h : Q (.bytes x.toArray s.toks) { s with toks := s.toks + 1 }) :
    wpAny (model prog w) A (eval (.Constant (.bytes x) k pos) env) Q E s := fun _ _ _ => h

/-- a turn: the last figure is taken off and laid in front -/
theorem int_turn {env : Env} {L : Addr} {h₀ : Heap} (e : EnvFor env (stmtAt atInt) L) (hh : A.handled = none) {mg mb : Str → Option Value} (hg : h₀.Ns mainGlobals mg) (hg3 : mg "divmod" = none) (hbl : h₀.Ns builtinsNs mb) (hbl3 : mb "divmod" = some (.builtin "divmod"))
    {n : Nat} {acc : List UInt8} {t1 t2 t3 : Tok} {m : Str → Option Value} {s₁ : Shared} (hacc : acc.length ≤ 1000)
    (hkeep : ∀ b o, h₀.get? b = some o → s₁.heap.get? b = some o) (hL₀ : h₀.get? L = none) (hn : s₁.heap.Ns L m) (hnum : m "num" = some (.int n t1)) (hval : m "val" = some (.bytes acc.toArray t2)) (hAP : m "AP" = some (.bytes apAlpha t3)) :
    wpAny (model prog w) A (execs (whileBody intWhile) env) (fun f s₂ => f = .next ∧ ∃ h' tk m' t1 t2 t3, s₂ = { s₁ with heap := h', toks := tk } ∧ (∀ b o, h₀.get? b = some o → h'.get? b = some o) ∧ h'.Ns L m' ∧
      m' "num" = some (.int (n / 16 : Nat) t1) ∧ m' "val" = some (.bytes ((65 + n % 16).toUInt8 :: acc).toArray t2) ∧ m' "AP" = some (.bytes apAlpha t3)) E s₁ := by
  have hk : env.scope.kind = .function := e.kind rfl
  rw [← e.locals] at hn
  have keepL : ∀ {h h' : Heap}, (∀ b o, h₀.get? b = some o → h.get? b = some o) → Heap.SameBut env.locals h h' → ∀ b o, h₀.get? b = some o → h'.get? b = some o := fun k hs b o q =>
    hs.extBut b o (fun (z : b = env.locals) => by rw [z, e.locals, hL₀] at q; cases q) (k b o q)
  refine wpAny_execs_cons (Assign_Tuple (Call_Name2 (Calls.Name_function_global hk (e.kindOf (by decide)) (Calls.loadGlobal_builtin (e.globals ▸ hg.keeps hkeep) hg3 (e.builtins ▸ hbl.keeps hkeep) hbl3
    (Calls.callWith_builtin rfl (Calls.evalArgs_plain (Calls.spliced_cons (nm hk (e.kindOf (by decide)) hn hnum (Calls.spliced_cons (wpAny_Constant_int (Calls.spliced_nil (divmod_int (by decide) ?_))))))))))))
  have hd1 : (n : Int).fdiv 16 = ((n / 16 : Nat) : Int) := by
    rw [Int.fdiv_eq_ediv_of_nonneg _ (by decide)]; rfl
  have hd2 : (n : Int).fmod 16 = ((n % 16 : Nat) : Int) := by
    rw [Int.fmod_eq_emod_of_nonneg _ (by decide)]; rfl
  rw [hd1, hd2]
  refine wpAny_assign_Tuple hh ⟨_, Heap.get?_push_size _ rfl, rfl, _, rfl⟩ rfl rfl fun h₂ hx₂ => ?_
  have up₂ : ∀ b o, s₁.heap.get? b = some o → h₂.get? b = some o := fun b o q => by
    have q' := Heap.get?_push_of_some { cls := .type "tuple", data := .seq #[.int ((n / 16 : Nat) : Int) (s₁.toks + 1), .int ((n % 16 : Nat) : Int) (s₁.toks + 1 + 1)] } q
    exact hx₂ b o (Nat.ne_of_lt (Heap.lt_size q')) q'
  have hn₂ : h₂.Ns env.locals m := hn.keeps up₂
  show wpAny _ _ (do holding [.int ((n % 16 : Nat) : Int) _] (assign (.Name "num" _) env (.int ((n / 16 : Nat) : Int) _)); do holding [] (assign (.Name "mod" _) env (.int ((n % 16 : Nat) : Int) _)); pure ()) _ _ _
  refine wpAny_bind (wpAny_holding (wpAny_assign_Name (wpAny_storeName_local (e.kindOf (by decide)) hn₂ (fun h₃ hn₃ hs₃ => ?_) (plainScope hk))))
  replace hs₃ : Heap.SameBut env.locals h₂ h₃ := hs₃
  refine wpAny_bind (wpAny_holding (wpAny_assign_Name (wpAny_storeName_local (e.kindOf (by decide)) hn₃ (fun h₄ hn₄ hs₄ => wpAny_pure ?_) (plainScope hk))))
  replace hs₄ : Heap.SameBut env.locals h₃ h₄ := hs₄
  have keep₄ : ∀ b o, h₀.get? b = some o → h₄.get? b = some o := keepL (keepL (fun b o q => up₂ b o (hkeep b o q)) hs₃) hs₄
  refine wpAny_execs_cons (wpAny_Assign_Name (wpAny_BinOp (Subscript_ (nm hk (e.kindOf (by decide)) hn₄ (v := .bytes apAlpha t3) (by simp [i8, i9, hAP]) (wpAny_Slice (nm hk (e.kindOf (by decide)) hn₄ (v := .int ((n % 16 : Nat) : Int) _) (by simp; rfl)
    (wpAny_BinOp (nm hk (e.kindOf (by decide)) hn₄ (v := .int ((n % 16 : Nat) : Int) _) (by simp; rfl) (wpAny_Constant_int (add_int (wpAny_pure ?_)))))))))))
  have hlet : KBy.picked apAlpha (some ((n % 16 : Nat) : Int)) (some (((n % 16 : Nat) : Int) + 1)) = #[(65 + n % 16).toUInt8] := ap_letter ⟨n % 16, Nat.mod_lt _ (by decide)⟩
  refine tail_of_ItemOn ⟨"bytes", _, FB.slot_bytes_getitem.lookup, typeIs_bytes _ _ _, getItem_meets (typeIs_bytes _ _ _) (by decide) FB.slot_bytes_getitem FB.entry_bytes_getitem (FB.args_bytes_getitem_2 _ _)
    (KBc.meets_slice2 apAlpha t3 _ (IsPart.int _ _) (IsPart.int _ _)) ⟨Heap.IsSliceOf.new _ _ _ _, ?_, fun t' k => ?_⟩⟩ (by with_unfolding_all rfl) (by intro _; with_unfolding_all rfl)
  · rw [hlet]; show 1 ≤ sizeLine; decide
  rw [hlet]
  refine nm hk (e.kindOf (by decide)) (hn₄.push _) (v := .bytes acc.toArray t2) (by simp [i5, i6, hval]) (KBy.add_bytes ?_ fun t'' k' => ?_)
  · simp only [Array.size]; show 1 + acc.length ≤ _; omega
  refine wpAny_storeName_local (e.kindOf (by decide)) (hn₄.push _) (fun h₅ hn₅ hs₅ => wpAny_execs_nil ?_) (plainScope hk)
  rw [e.locals] at hn₅
  refine ⟨rfl, h₅, _, _, _, t'', t3, rfl, keepL (fun b o q => Heap.get?_push_of_some _ (keep₄ b o q)) hs₅, hn₅, by simp [i1, i3]; rfl, ?_, by simp [i7, i8, i9, hAP]⟩
  simp

theorem natAbs_if (n : Int) : (if n < 0 then -n else n) = (n.natAbs : Int) := by split <;> omega

set_option maxHeartbeats 4000000 in
theorem call_int {base : Heap} {fA : Addr} {n : Int} {u : Tok} {Q : Value → Shared → Prop} (N : IntNames base fA) (hb : ∀ b o, base.get? b = some o → s.heap.get? b = some o) (hh : A.handled = none) (hroom : A.depth + 1 < recursionLimit)
    (hsz : n.natAbs < 16 ^ 64) (h : ∀ t s', Ext s s' → Q (.bytes (ap n.natAbs).toArray t) s') : wpAny (model prog w) A (call (.ref fA) [.int n u]) Q E s := by
  refine enterDef (n := "num") (Nat.lt_of_succ_lt hroom) N.def_ N.lim hb ?_ (by decide) (by decide) rfl rfl rfl fun env h₁ e1 e2 e3 e4 e5 hn hk₁ => ?_
  · rintro ⟨name, qualname, params, body, scope, globals, closure, defaults, kwdefaults, doc, pyModule, anns, code, closureTuple, builtins⟩ h1 h2 h3
    dsimp only at h1 h2 h3
    subst h1 h2 h3
    rfl
  have e : EnvFor env (stmtAt atInt) s.heap.objs.size := ⟨e1, e2, e3, e4, e5⟩
  have hk : env.scope.kind = .function := e.kind rfl
  have hh' : (A.deeper env).handled = none := hh
  have hnL : h₁.Ns env.locals (fun y => if y = "num" then some (.int n u) else none) := by rw [e2]; exact hn
  have hL₀ : s.heap.get? env.locals = none := by rw [e2]; exact getAbove _
  have hbL : ∀ b o, s.heap.get? b = some o → b ≠ env.locals := fun b o q z => by rw [z, hL₀] at q; cases q
  obtain ⟨mg, hg, hg1, hg2, hg3⟩ := N.glob
  obtain ⟨mb, hbl, hbl1, hbl2, hbl3⟩ := N.blt
  have hg' := hg.keeps hb
  have hbl' := hbl.keeps hb
  refine wpAny_execs_cons (wpAny_Assign_Name (litBytes (wpAny_storeName_local (e.kindOf (by decide)) hnL (fun h₂ hn₂ hs₂ => ?_) (plainScope hk))))
  replace hs₂ : Heap.SameBut env.locals h₁ h₂ := hs₂
  refine wpAny_execs_cons (wpAny_Assign_Name (litBytes (wpAny_storeName_local (e.kindOf (by decide)) hn₂ (fun h₃ hn₃ hs₃ => ?_) (plainScope hk))))
  replace hs₃ : Heap.SameBut env.locals h₂ h₃ := hs₃
  have up₃ : ∀ b o, s.heap.get? b = some o → h₃.get? b = some o := fun b o q => hs₃.extBut b o (hbL b o q) (hs₂.extBut b o (hbL b o q) (hk₁ b o q))
  refine wpAny_execs_cons (wpAny_Assign_Name (Call_Name1 ?_))
  refine Calls.Name_function_global hk (e.kindOf (by decide)) (Calls.loadGlobal_builtin (e3 ▸ hg'.keeps up₃) hg1 (e4 ▸ hbl'.keeps up₃) hbl1 ?_)
  refine PyProof.Rows.callWith_type rfl (Calls.evalArgs_plain (Calls.spliced_cons (Call_Name1 ?_)))
  refine Calls.Name_function_global hk (e.kindOf (by decide)) (Calls.loadGlobal_builtin (e3 ▸ hg'.keeps up₃) hg2 (e4 ▸ hbl'.keeps up₃) hbl2 ?_)
  refine Calls.callWith_builtin rfl (Calls.evalArgs_plain (Calls.spliced_cons ?_))
  refine nm hk (e.kindOf (by decide)) hn₃ (v := .int n u) (by simp [i1, i2]) (Calls.spliced_nil (call_abs_int fun u' tk' => Calls.spliced_nil (call_int_int ?_)))
  rw [natAbs_if]
  refine wpAny_storeName_local (e.kindOf (by decide)) hn₃ (fun h₄ hn₄ hs₄ => ?_) (plainScope hk)
  replace hs₄ : Heap.SameBut env.locals h₃ h₄ := hs₄
  have up₄ : ∀ b o, s.heap.get? b = some o → h₄.get? b = some o := fun b o q => hs₄.extBut b o (hbL b o q) (up₃ b o q)
  refine wpAny_execs_cons (wpAny_While (codeAny_whileLoop (fun f s' => ∃ k acc m t1 t2 t3, (∃ h' tk, s' = { s with heap := h', toks := tk }) ∧ (∀ b o, s.heap.get? b = some o → s'.heap.get? b = some o) ∧ s'.heap.Ns env.locals m ∧
    m "num" = some (.int (k : Nat) t1) ∧ m "val" = some (.bytes acc.toArray t2) ∧ m "AP" = some (.bytes apAlpha t3) ∧ apF f k acc = ap n.natAbs ∧ k < 16 ^ f ∧ acc.length + f = 64) ?_ 64 ?_))
  · rintro f s' ⟨k, acc, m, t1, t2, t3, ⟨h', tk, rfl⟩, q1, q2, q3, q4, q5, q6, q7, q8⟩
    refine isTrue_plain (nm hk (e.kindOf (by decide)) q2 q3 (truthy_int ?_))
    by_cases hk0 : k = 0
    · subst hk0
      rw [if_neg (by simp)]
      refine wpAny_execs_nil (wpAny_execs_cons (wpAny_Return_some (nm hk (e.kindOf (by decide)) q2 q4 ?_)))
      have hacc : acc = ap n.natAbs := by
        rw [← q6]
        cases f <;> rfl
      rw [hacc]
      exact h t2 { s with heap := h', toks := tk } (Ext.of_heap q1)
    · rw [if_pos (by simpa using hk0)]
      cases f with
      | zero => exact absurd (Nat.lt_one_iff.mp q7) hk0
      | succ f =>
        refine wpAny_mono (int_turn (h₀ := s.heap) e hh' hg' hg3 hbl' hbl3 (by omega) q1 (e2 ▸ hL₀) (e2 ▸ q2) q3 q4 q5) (fun fl s₂ hf => ?_) fun _ _ q => q
        obtain ⟨rfl, h'', tk'', m', t1', t2', t3', rfl, p1, p2, p3, p4, p5⟩ := hf
        refine ⟨f, Nat.lt_succ_self _, k / 16, _, m', t1', t2', t3', ⟨_, _, rfl⟩, p1, e2 ▸ p2, p3, p4, p5, ?_, ?_, ?_⟩
        · rw [← q6]
          show _ = (if k = 0 then acc else _)
          rw [if_neg hk0]
        · rw [Nat.pow_succ] at q7
          omega
        · simp only [List.length_cons]; omega
  · exact ⟨n.natAbs, [], _, _, _, _, ⟨_, _, rfl⟩, up₄, hn₄, by simp; rfl, by simp [i4, i5]; rfl, by simp [i8]; exact ⟨rfl, rfl⟩, rfl, hsz, rfl⟩
end
end Mine
namespace Mine
open PySem
def atTaken : Nat := 7

structure TakenNames (base : Heap) (fC fT : Addr) : Prop where
  def_ : FnIs base (stmtAt atTaken) fT
  glob : ∃ mg, base.Ns mainGlobals mg ∧ mg "isinstance" = none ∧ mg "bool" = none ∧ mg "_check_parenthesis" = some (.ref fC)
  blt : ∃ mb, base.Ns builtinsNs mb ∧ mb "isinstance" = some (.builtin "isinstance") ∧ mb "bool" = some (.type "bool")

section
variable {prog : Program} {w : World} {A : Around} {E : Value → Shared → Prop} {s : Shared}

set_option maxHeartbeats 4000000 in
theorem call_taken {base : Heap} {fI fS fC fT : Addr} {x : Str} {t : Tok} {Q : Value → Shared → Prop} (N : Names base fI fS fC) (N2 : TakenNames base fC fT) (hb : ∀ b o, base.get? b = some o → s.heap.get? b = some o) (hh : A.handled = none) (hroom : A.depth + 3 < recursionLimit)
    (hx : x.length ≤ 1000) (h : ∀ s', Ext s s' → Q (.bool (chk x)) s') : wpAny (model prog w) A (call (.ref fT) [.str x t]) Q E s := by
  refine enterDef (n := "text") (by omega) N2.def_ N.lim hb ?_ (by decide) (by decide) rfl rfl rfl fun env h₁ e1 e2 e3 e4 e5 hn hk₁ => ?_
  · rintro ⟨name, qualname, params, body, scope, globals, closure, defaults, kwdefaults, doc, pyModule, anns, code, closureTuple, builtins⟩ h1 h2 h3
    dsimp only at h1 h2 h3
    subst h1 h2 h3
    rfl
  have e : EnvFor env (stmtAt atTaken) s.heap.objs.size := ⟨e1, e2, e3, e4, e5⟩
  have hk : env.scope.kind = .function := e.kind rfl
  have hh' : (A.deeper env).handled = none := hh
  have hroom' : (A.deeper env).depth + 2 < recursionLimit := by show A.depth + 1 + 2 < _; omega
  have hnL : h₁.Ns env.locals (fun y => if y = "text" then some (.str x t) else none) := by rw [e2]; exact hn
  have hL₀ : s.heap.get? env.locals = none := by rw [e2]; exact getAbove _
  have hbL : ∀ b o, s.heap.get? b = some o → b ≠ env.locals := fun b o q z => by rw [z, hL₀] at q; cases q
  obtain ⟨mg, hg, hg1, hg2, hg3⟩ := N2.glob
  obtain ⟨mb, hbl, hbl1, hbl2⟩ := N2.blt
  have hb₁ : ∀ b o, base.get? b = some o → h₁.get? b = some o := fun b o q => hk₁ b o (hb b o q)
  have htold : env.kindOf "told" = some .local := e.kindOf (by decide)
  refine wpAny_execs_cons (wpAny_Assign_Name (callDef1 hk (e.kindOf (by decide)) (e3 ▸ hg) hg3 N.check hb₁ (nm hk (e.kindOf (by decide)) hnL (v := .str x t) (by simp) ⟨hb₁, call_check N hb₁ hh' hroom' hx fun s₂ x₂ => ?_⟩)))
  have hn₂ : s₂.heap.Ns env.locals (fun y => if y = "text" then some (.str x t) else none) := hnL.at' fun o q => x₂.keep _ o q
  have hk₂ : ∀ b o, s.heap.get? b = some o → s₂.heap.get? b = some o := fun b o q => x₂.keep b o (hk₁ b o q)
  have hos₂ : s₂.os = s.os := x₂.os
  have hbare₂ : AllBare s.gens → AllBare s₂.gens := x₂.bare
  refine wpAny_storeName_local htold hn₂ (fun h₃ hn₃ hs₃ => ?_) (plainScope hk)
  have up₃ : ∀ b o, s.heap.get? b = some o → h₃.get? b = some o := fun b o q => hs₃.extBut b o (hbL b o q) (hk₂ b o q)
  have hb₃ : ∀ b o, base.get? b = some o → h₃.get? b = some o := fun b o q => up₃ b o (hb b o q)
  refine wpAny_execs_cons (wpAny_Return_some (wpAny_IfExp (isTrue_plain (Call_Name2 ?_))))
  refine Calls.Name_function_global hk (e.kindOf (by decide)) (Calls.loadGlobal_builtin (e3 ▸ hg.keeps hb₃) hg1 (e4 ▸ hbl.keeps hb₃) hbl1 ?_)
  refine Calls.callWith_builtin rfl (Calls.evalArgs_plain (Calls.spliced_cons ?_))
  refine nm hk htold hn₃ (v := .bool (chk x)) (by simp) (Calls.spliced_cons ?_)
  refine Calls.Name_function_global hk (e.kindOf (by decide)) (Calls.loadGlobal_builtin (e3 ▸ hg.keeps hb₃) hg2 (e4 ▸ hbl.keeps hb₃) hbl2 ?_)
  refine Calls.spliced_nil (IsiPair.bool_bool (wpAny_truthy_bool ?_))
  show wpAny _ _ (eval _ env) _ _ _
  refine nm hk htold hn₃ (v := .bool (chk x)) (by simp) ?_
  exact h _ ⟨up₃, hos₂, hbare₂⟩
end
end Mine
namespace Mine
open PySem

abbrev Row := Str × Int × Int
def TupRow (h : Heap) (v : Value) (r : Row) : Prop := ∃ T t1 t2 t3, v = .ref T ∧ h.IsTuple T #[.str r.1 t1, .int r.2.1 t2, .int r.2.2 t3]
def RowsAt (h : Heap) (R : Addr) (rows : List Row) : Prop := ∃ items, h.PlainList R items ∧ Paired (TupRow h) items.toList rows

/-- the tuples stand -/
def TupKeep (h h' : Heap) : Prop := ∀ b items, h.IsTuple b items → h'.IsTuple b items
theorem TupKeep.of_keep {h h' : Heap} (k : ∀ b o, h.get? b = some o → h'.get? b = some o) : TupKeep h h' := fun b items ⟨o, ho, r⟩ => ⟨o, k b o ho, r⟩
theorem TupKeep.trans {h h' h'' : Heap} (x : TupKeep h h') (y : TupKeep h' h'') : TupKeep h h'' := fun b items q => y b items (x b items q)
theorem TupKeep.of_ns {h h' : Heap} {L : Addr} {m : Str → Option Value} (hn : h.Ns L m) (k : ∀ b o, b ≠ L → h.get? b = some o → h'.get? b = some o) : TupKeep h h' := fun b items ⟨o, ho, hc, n, hd⟩ =>
  ⟨o, k b o (fun z => by
    obtain ⟨o', es, ep, h1, h2, _⟩ := hn
    rw [z] at ho
    rw [ho] at h1
    cases h1
    rw [hd] at h2
    cases h2) ho, hc, n, hd⟩
theorem TupKeep.of_list {h h' : Heap} {D : Addr} {items : Array Value} (hn : h.PlainList D items) (k : ∀ b o, b ≠ D → h.get? b = some o → h'.get? b = some o) : TupKeep h h' := fun b items ⟨o, ho, hc, n, hd⟩ =>
  ⟨o, k b o (fun z => by
    obtain ⟨n', h1⟩ := hn
    rw [z] at ho
    rw [ho] at h1
    cases h1
    simp at hc) ho, hc, n, hd⟩
theorem TupRow.keep {h h' : Heap} (k : TupKeep h h') {v : Value} {r : Row} (x : TupRow h v r) : TupRow h' v r := let ⟨T, t1, t2, t3, e, q⟩ := x; ⟨T, t1, t2, t3, e, k _ _ q⟩
theorem paired_mono {α β : Type} {F G : α → β → Prop} (hFG : ∀ a b, F a b → G a b) : ∀ {l₁ : List α} {l₂ : List β}, Paired F l₁ l₂ → Paired G l₁ l₂
  | _, _, .nil => .nil
  | _, _, .cons a t => .cons (hFG _ _ a) (paired_mono hFG t)
theorem paired_get {α β : Type} {F : α → β → Prop} : ∀ {l₁ : List α} {l₂ : List β}, Paired F l₁ l₂ → ∀ {j : Nat} {b : β}, l₂[j]? = some b → ∃ a, l₁[j]? = some a ∧ F a b
  | _, _, .nil, j, b, h => by cases j <;> cases h
  | _, _, .cons q t, 0, b, h => by
    simp only [List.getElem?_cons_zero, Option.some.injEq] at h
    subst h
    exact ⟨_, rfl, q⟩
  | _, _, .cons q t, j + 1, b, h => by
    simp only [List.getElem?_cons_succ] at h ⊢
    exact paired_get t h
theorem RowsAt.keep {h h' : Heap} {R : Addr} {rows : List Row} (k : TupKeep h h') (kR : ∀ o, h.get? R = some o → h'.get? R = some o) (x : RowsAt h R rows) : RowsAt h' R rows :=
  let ⟨items, q1, q2⟩ := x; ⟨items, q1.at kR, paired_mono (fun _ _ => TupRow.keep k) q2⟩

section
variable {prog : Program} {w : World} {A : Around} {s : Shared}

/-- a for over a list of triples, by what holds between its turns -/
theorem loop_rows {R' : Result → Shared → Prop} {rows : List Row} {R I : Addr} {env : Env} {n1 n2 n3 : Str} {p1 p2 p3 p4 : Pos} {kk : Nat} {body : List Stmt} {m : Str → Option Value}
    (hh : A.handled = none) (hIL : I ≠ env.locals) (hRI : R ≠ I) (hk : env.scope.kind = .function) (k1 : env.kindOf n1 = some .local) (k2 : env.kindOf n2 = some .local) (k3 : env.kindOf n3 = some .local)
    (J : Nat → (Str → Option Value) → Heap → Prop)
    (hJ : ∀ j m h h', J j m h → (∀ b o, b ≠ env.locals → b ≠ I → h.get? b = some o → h'.get? b = some o) → h.Ns env.locals m → TupKeep h h' → J j m h') (hJR : ∀ j m h, J j m h → RowsAt h R rows)
    (step : ∀ j r t1 t2 t3 m s₁, rows[j]? = some r → J j m s₁.heap → s₁.heap.Ns env.locals (fun y => if y = n3 then some (.int r.2.2 t3) else if y = n2 then some (.int r.2.1 t2) else if y = n1 then some (.str r.1 t1) else m y) →
      wpAny (model prog w) A (execs body env) (fun f s₂ => f = .next ∧ (∃ h' tk, s₂ = { s₁ with heap := h', toks := tk }) ∧ (∀ o, s₁.heap.get? I = some o → o.cls = .type "list_iterator" → s₂.heap.get? I = some o) ∧
        ∃ m₂, s₂.heap.Ns env.locals m₂ ∧ J (j + 1) m₂ s₂.heap) (notedBy (model prog w) A env fun e s' => R' (.error e) s') s₁)
    (hafter : ∀ m' h' tk', h'.Ns env.locals m' → J rows.length m' h' → R' (.ok .next) { s with heap := h', toks := tk' })
    (hit : s.heap.IsListIter I R 0) (hn : s.heap.Ns env.locals m) (h0 : J 0 m s.heap) :
    codeAny (model prog w) A (.forLoop (.Tuple [.Name n1 p1, .Name n2 p2, .Name n3 p3] kk p4) (.ref I) body [] env) R' s := by
  refine codeAny_forLoop_any (fun k s' => ∃ j m' h' tk', s' = { s with heap := h', toks := tk' } ∧ k = rows.length + 1 - j ∧ j ≤ rows.length ∧ h'.IsListIter I R j ∧ h'.Ns env.locals m' ∧ J j m' h') ?_
    (rows.length + 1) ⟨0, m, s.heap, s.toks, rfl, rfl, Nat.zero_le _, hit, hn, h0⟩
  rintro k s' ⟨j, m', h', tk', rfl, rfl, hj, hit', hn', hJ'⟩
  obtain ⟨items, hpl, hpair⟩ := hJR _ _ _ hJ'
  have hlen := hpair.length
  cases hv : rows[j]? with
  | none =>
    have hje : j = rows.length := Nat.le_antisymm hj (by simpa using hv)
    subst hje
    refine wpAny_pyNext_list_end hh hit' hpl.isList (by simp [← hlen]) fun h₁ hx₁ => wpAny_execs_nil ?_
    replace hx₁ : Heap.ExtBut I h' h₁ := hx₁
    refine hafter m' h₁ _ (hn'.at' fun o q => hx₁ _ o (Ne.symm hIL) q) (hJ _ _ _ _ hJ' (fun b o _ hb q => hx₁ b o hb q) hn' ?_)
    rintro b its ⟨o, ho, hc, n, hd⟩
    refine ⟨o, hx₁ b o (fun z => ?_) ho, hc, n, hd⟩
    obtain ⟨oi, ho', hc', _⟩ := hit'
    rw [z, ho'] at ho
    cases ho
    rw [hc'] at hc
    exact absurd hc (by decide)
  | some r =>
    have hlt : j < rows.length := (List.getElem?_eq_some_iff.mp hv).1
    obtain ⟨v, hiv, T, t1, t2, t3, rfl, hT⟩ := paired_get hpair hv
    have hiv' : items[j]? = some (.ref T) := by rw [← Array.getElem?_toList]; exact hiv
    refine wpAny_pyNext_list_item hit' hpl.isList hiv' fun h₁ hit₁ hs₁ => ?_
    replace hs₁ : Heap.SameBut I h' h₁ := hs₁
    have tk₁ : TupKeep h' h₁ := by
      rintro b its ⟨o, ho, hc, n, hd⟩
      refine ⟨o, hs₁.extBut b o (fun z => ?_) ho, hc, n, hd⟩
      obtain ⟨oi, ho', hc', _⟩ := hit'
      rw [z, ho'] at ho
      cases ho
      rw [hc'] at hc
      exact absurd hc (by decide)
    refine wpAny_letOwnedTupleGo_listiter hit₁ ?_
    refine wpAny_assign_Tuple hh (tk₁ _ _ hT) rfl rfl fun h₃ hx₃ => ?_
    replace hx₃ : Heap.ExtBut h₁.objs.size h₁ h₃ := hx₃
    have up₃ : ∀ b o, h₁.get? b = some o → h₃.get? b = some o := fun b o q => hx₃ b o (Nat.ne_of_lt (Heap.lt_size q)) q
    have hn₃ : h₃.Ns env.locals m' := (hn'.at' fun o q => hs₁.extBut _ o (Ne.symm hIL) q).keeps up₃
    show wpAny _ _ (do holding [.int r.2.1 t2, .int r.2.2 t3] (assign (.Name n1 _) env (.str r.1 t1)); do holding [.int r.2.2 t3] (assign (.Name n2 _) env (.int r.2.1 t2)); do holding [] (assign (.Name n3 _) env (.int r.2.2 t3)); pure ()) _ _ _
    refine wpAny_bind (wpAny_holding (wpAny_assign_Name (wpAny_storeName_local k1 hn₃ (fun h₄ hn₄ hs₄ => ?_) (plainScope hk))))
    replace hs₄ : Heap.SameBut env.locals h₃ h₄ := hs₄
    refine wpAny_bind (wpAny_holding (wpAny_assign_Name (wpAny_storeName_local k2 hn₄ (fun h₅ hn₅ hs₅ => ?_) (plainScope hk))))
    replace hs₅ : Heap.SameBut env.locals h₄ h₅ := hs₅
    refine wpAny_bind (wpAny_holding (wpAny_assign_Name (wpAny_storeName_local k3 hn₅ (fun h₆ hn₆ hs₆ => wpAny_pure ?_) (plainScope hk))))
    replace hs₆ : Heap.SameBut env.locals h₅ h₆ := hs₆
    have up₆ : ∀ b o, b ≠ env.locals → h₃.get? b = some o → h₆.get? b = some o := fun b o hb q => hs₆.extBut b o hb (hs₅.extBut b o hb (hs₄.extBut b o hb q))
    have tk₆ : TupKeep h' h₆ := tk₁.trans ((TupKeep.of_keep up₃).trans (.of_ns hn₃ up₆))
    have hJ₆ : J j m' h₆ := hJ _ _ _ _ hJ' (fun b o hbL hbI q => up₆ b o hbL (up₃ b o (hs₁.extBut b o hbI q))) hn' tk₆
    refine wpAny_mono (step j r t1 t2 t3 m' _ hv hJ₆ hn₆) (fun f s₂ hf => ?_) fun _ _ q => q
    obtain ⟨rfl, ⟨h₇, tk₇, rfl⟩, hI, m₂, hn₂, hJ₂⟩ := hf
    refine ⟨rows.length + 1 - (j + 1), by omega, j + 1, m₂, h₇, _, rfl, rfl, hlt, ?_, hn₂, hJ₂⟩
    obtain ⟨oi, ho', hc', hd'⟩ := hit₁
    exact ⟨oi, hI oi (up₆ I oi hIL (up₃ I oi ho')) hc', hc', hd'⟩
end
end Mine
namespace Mine
open PySem

def IntsIn (h : Heap) (l : Addr) (ns : List Int) : Prop := ∃ vs, h.IsList l vs.toArray ∧ IntsAre vs ns
theorem IntsIn.keeps {h h' : Heap} {l : Addr} {ns : List Int} (x : IntsIn h l ns) (k : ∀ o, h.get? l = some o → h'.get? l = some o) : IntsIn h' l ns :=
  let ⟨vs, ⟨o, ho, r⟩, q⟩ := x; ⟨vs, ⟨o, k o ho, r⟩, q⟩

/-- an item of a list of ints, from behind where the place lies below nought -/
def itemAt (ns : List Int) (i : Int) : Int := ns.getD (if i < 0 then i + ns.length else i).toNat 0

section
variable {prog : Program} {w : World} {A : Around} {E : Value → Shared → Prop} {s : Shared}

theorem list_item {value slice : Expr} {l : Addr} {ns : List Int} {i : Int} {u : Tok} {Q : Value → Shared → Prop} (hl : IntsIn s.heap l ns) (h1 : -(ns.length : Int) ≤ i) (h2 : i < ns.length) (hz : ns.length ≤ 1000)
    (h : ∀ t, Q (.int (itemAt ns i) t) s)
    (hs : subscripted slice false (.ref l) (.int i u) = operate [.ref l, .int i u] (getItem (.ref l) (.int i u)) := by with_unfolding_all rfl) :
    wpAny (model prog w) A (subscriptTail value slice (.ref l) (.int i u)) Q E s := by
  obtain ⟨vs, hL, hi⟩ := hl
  have hlen := hi.length
  have key : ∀ k : Nat, k < ns.length → ∃ t, vs.toArray[k]? = some (.int (ns.getD k 0) t) := fun k hk => by
    have := hi.get k (ns.getD k 0) (by rw [List.getD_eq_getElem?_getD, List.getElem?_eq_getElem hk]; rfl)
    simpa using this
  refine tail_any hL.typeIs slot_list_getitem.lookup ?_ hs
  by_cases hneg : i < 0
  · have hk : (i + ns.length).toNat < ns.length := by omega
    obtain ⟨t, ht⟩ := key _ hk
    have h' := h t
    unfold itemAt at h'
    rw [if_pos hneg] at h'
    refine wpAny_getItem_list_neg hL hneg (by simp [hlen]; omega) (by omega) ?_ h'
    rw [show ((vs.toArray.size : Nat) : Int) = ns.length by simp [hlen]]
    exact ht
  · have hk : i.toNat < ns.length := by omega
    obtain ⟨t, ht⟩ := key _ hk
    have h' := h t
    unfold itemAt at h'
    rw [if_neg hneg] at h'
    exact wpAny_getItem_list hL (by omega) (by omega) ht h'

theorem tripleOf {env : Env} {e1 e2 e3 : Expr} {k : Nat} {pos : Pos} {Q : Value → Shared → Prop}
    (h : wpAny (model prog w) A (eval e1 env) (fun v1 s1 => wpAny (model prog w) A (eval e2 env) (fun v2 s2 => wpAny (model prog w) A (eval e3 env) (fun v3 s3 =>
      Q (.ref s3.heap.objs.size) { s3 with heap := s3.heap.push { cls := .type "tuple", data := .seq #[v1, v2, v3] } }) E s2) E s1) E s)
    (h1 : starEach [e1, e2, e3] env = [(false, eval e1 env), (false, eval e2 env), (false, eval e3 env)] := by rfl) :
    wpAny (model prog w) A (eval (.Tuple [e1, e2, e3] k pos) env) Q E s := by
  refine wpAny_Tuple_spliced ?_
  rw [h1]
  refine Calls.spliced_cons (wpAny_mono h (fun v1 s1 hh => ?_) fun _ _ e => e)
  refine Calls.spliced_cons (wpAny_mono hh (fun v2 s2 hh2 => ?_) fun _ _ e => e)
  refine Calls.spliced_cons (wpAny_mono hh2 (fun v3 s3 hh3 => ?_) fun _ _ e => e)
  exact Calls.spliced_nil ⟨by show 3 ≤ sizeLine; decide, hh3⟩

theorem tripleRow {h : Heap} {t1 t2 t3 : Tok} {r : Row} :
    TupRow (h.push { cls := .type "tuple", data := .seq #[.str r.1 t1, .int r.2.1 t2, .int r.2.2 t3] }) (.ref h.objs.size) r :=
  ⟨_, t1, t2, t3, rfl, _, Heap.get?_push_size _ rfl, rfl, _, rfl⟩

def StepD (D : Addr) (s s₂ : Shared) : Prop := ∃ h' tk, s₂ = { s with heap := h', toks := tk } ∧ ∀ b o, b ≠ D → s.heap.get? b = some o → h'.get? b = some o
theorem StepD.trans {D : Addr} {s s₂ s₃ : Shared} (x : StepD D s s₂) (y : StepD D s₂ s₃) : StepD D s s₃ := by
  obtain ⟨h, tk, rfl, k⟩ := x
  obtain ⟨h', tk', rfl, k'⟩ := y
  exact ⟨h', tk', rfl, fun b o hb q => k' b o hb (k b o hb q)⟩

/-- a row laid behind the others, if the test says so -/
theorem if_append {env : Env} {test e : Expr} {n : Str} {p1 p2 p3 p4 p5 : Pos} {c : Bool} {D : Addr} {rows : List Row} {r : Row} {m : Str → Option Value}
    (htest : wpAny (model prog w) A (isTrue test env (eval test env)) (fun b s₁ => b = c ∧ Keeps s s₁) E s)
    (hel : c = true → ∀ s₁, Keeps s s₁ → wpAny (model prog w) A (eval e env) (fun v s₂ => TupRow s₂.heap v r ∧ Keeps s₁ s₂) E s₁)
    (hk : env.scope.kind = .function) (hkn : env.kindOf n = some .local) (hn : s.heap.Ns env.locals m) (hm : m n = some (.ref D)) (hD : RowsAt s.heap D rows) (hz : rows.length ≤ 10000)
    (hi : interactive env = false) (hline : (p2.endLine == p3.line) = true) (hse : starEach [e] env = [(false, eval e env)]) (hsw : swapsWith (.Call (.Attribute (.Name n p1) "append" p2) [e] [] p3) none p4.line env = pure false)
    (hbase : attributeBase (.Name n p1) "append" env (eval (.Name n p1) env) = eval (.Name n p1) env) (hd : (n == ("__debug__" : Str)) = false) :
    wpAny (model prog w) A (exec (.If test [.Expr (.Call (.Attribute (.Name n p1) "append" p2) [e] [] p3) p4] [] p5) env)
      (fun f s₂ => f = .next ∧ StepD D s s₂ ∧ RowsAt s₂.heap D (rows ++ if c = true then [r] else [])) E s := by
  refine wpAny_If (wpAny_mono htest (fun b s₁ hb => ?_) fun _ _ q => q)
  obtain ⟨rfl, h₁, tk₁, rfl, hk₁⟩ := hb
  cases b with
  | false =>
    rw [if_neg Bool.false_ne_true]
    refine wpAny_execs_nil ⟨rfl, ⟨h₁, tk₁, rfl, fun b o _ q => hk₁ b o q⟩, ?_⟩
    rw [if_neg Bool.false_ne_true, List.append_nil]
    exact hD.keep (.of_keep hk₁) fun o q => hk₁ _ o q
  | true =>
    rw [if_pos rfl]
    have hD₁ : RowsAt h₁ D rows := hD.keep (.of_keep hk₁) fun o q => hk₁ _ o q
    obtain ⟨items, hpl, hpair⟩ := hD₁
    refine wpAny_execs_cons (wpAny_Expr ?_ hi hsw)
    refine wpAny_Call_append hbase (by rw [hse]; rfl) hline (by rw [hse]; rfl) (nm hk hkn (hn.keeps hk₁) hm ⟨D, items, rfl, ?_, ?_⟩ hd)
    · obtain ⟨n, hn'⟩ := hpl
      exact ⟨_, n, hn', rfl, rfl, rfl⟩
    refine wpAny_mono (hel rfl _ ⟨h₁, tk₁, rfl, hk₁⟩) (fun v s₂ hv => ?_) fun _ _ q => q
    obtain ⟨hv, h₂, tk₂, rfl, hk₂⟩ := hv
    replace hk₂ : ∀ b o, h₁.get? b = some o → h₂.get? b = some o := hk₂
    have hpl₂ := hpl.at fun o q => hk₂ _ o q
    refine wpAny_list_append_plain hpl₂ (fun h₃ hpl₃ hs₃ => wpAny_execs_nil ?_) (by
      have h1 := hpair.length
      have h2 : items.toList.length = items.size := by simp
      have := sizeLine_eq; omega)
    replace hs₃ : Heap.SameBut D h₂ h₃ := hs₃
    refine ⟨rfl, ⟨h₃, _, rfl, fun b o hb q => hs₃.extBut b o hb (hk₂ b o (hk₁ b o q))⟩, _, hpl₃, ?_⟩
    rw [if_pos rfl, Array.toList_push]
    have tk₃ : TupKeep h₂ h₃ := .of_list hpl₂ fun b o hb q => hs₃.extBut b o hb q
    exact Paired.snoc (paired_mono (fun _ _ q => (q.keep (.of_keep hk₂)).keep tk₃) hpair) (TupRow.keep tk₃ hv)
end
end Mine
namespace Mine
open PySem

theorem keeps_refl (s : Shared) : Keeps s s := ⟨s.heap, s.toks, rfl, fun _ _ q => q⟩
theorem keeps_toks {s : Shared} {tk : Nat} : Keeps s { s with toks := tk } := ⟨s.heap, tk, rfl, fun _ _ q => q⟩

theorem beqF {a b : Str} (h : ¬ a = b) : (a == b) = false := by simpa using h
theorem small_item {ns : List Int} (h : ∀ n ∈ ns, -1000 ≤ n ∧ n ≤ 1000) (i : Int) : Builtin.Int.intBits (itemAt ns i) ≤ 64 := by
  unfold itemAt
  generalize (if i < 0 then i + (ns.length : Int) else i).toNat = k
  by_cases hk : k < ns.length
  · have := h (ns[k]) (List.getElem_mem hk)
    rw [List.getD_eq_getElem?_getD, List.getElem?_eq_getElem hk]
    exact PySem.intBits_le_64 (by simp; omega) (by simp; omega)
  · rw [List.getD_eq_getElem?_getD, List.getElem?_eq_none (by omega)]
    exact PySem.intBits_le_64 (by simp) (by simp)

end Mine
namespace Mine
open PySem

section
variable {prog : Program} {w : World} {A : Around} {E : Value → Shared → Prop} {R : Result → Shared → Prop} {s : Shared}

/-- a list comprehension's loop, whatever its target -/
theorem compLoop_any {elt target iter : Expr} {ifs : List Expr} {scope : Scope} {pos : Pos} {it acc : Value} {env : Env} (I : Nat → Shared → Prop)
    (turn : ∀ n s, I n s → wpAny (model prog w) A (pyNext it) (fun r s₁ => match r with
      | none => R (.ok .next) s₁
      | some v => wpAny (model prog w) A (letOwnedTupleGo target it v) (fun _ s₁' => wpAny (model prog w) A (assign target env v) (fun _ s₂ =>
          wpAny (model prog w) A (forIn ifs true fun c r => if r = true then do let ok ← isTrue c env (eval c env); pure (ForInStep.yield ok) else pure (ForInStep.yield r)) (fun ok s₃ =>
            if ok = true then wpAny (model prog w) A (eval elt env) (fun x s₄ =>
              wpAny (model prog w) A (call (.builtin "list.append") [acc, x]) (fun _ s₅ => ∃ m, m < n ∧ I m s₅) (notedBy (model prog w) A env fun e s' => R (.error e) s') s₄) (notedBy (model prog w) A env fun e s' => R (.error e) s') s₃
            else ∃ m, m < n ∧ I m s₃) (notedBy (model prog w) A env fun e s' => R (.error e) s') s₂) (notedBy (model prog w) A env fun e s' => R (.error e) s') s₁') (notedBy (model prog w) A env fun e s' => R (.error e) s') s₁) (notedBy (model prog w) A env fun e s' => R (.error e) s') s)
    (n : Nat) (h : I n s) :
    codeAny (model prog w) A (.compLoop (.ListComp elt [⟨target, iter, ifs, 0⟩] scope pos) 0 it acc env) R s := by
  refine codeAny_loop rfl I (fun n s hI => ?_) n h
  show wpAny _ A ((compTurn (.ListComp elt [⟨target, iter, ifs, 0⟩] scope pos) 0 it acc env).onRaise (fun x => do noteFrame x env; theTreesLotGoes x)) _ _ s
  refine wpAny_noted ?_
  rw [compTurn_list]
  refine wpAny_bind (wpAny_standAt (wpAny_bind (wpAny_mono (turn n s hI) (fun r s₁ h₁ => ?_) fun _ _ h' => h')))
  cases r with
  | none => exact wpAny_pure h₁
  | some v =>
    refine wpAny_bind (wpAny_mono h₁ (fun _ s₁' h₁' => ?_) fun _ _ h' => h')
    refine wpAny_bind (wpAny_mono h₁' (fun _ s₂ h₂ => wpAny_bind (wpAny_mono h₂ (fun ok s₃ h₃ => ?_) fun _ _ h' => h')) fun _ _ h' => h')
    cases ok with
    | false => exact wpAny_pure ⟨rfl, h₃⟩
    | true =>
      exact wpAny_bind (wpAny_bind (wpAny_mono h₃ (fun x s₄ h₄ => wpAny_bind (wpAny_mono h₄ (fun _ s₅ h₅ => wpAny_pure (wpAny_pure ⟨rfl, h₅⟩)) fun _ _ h' => h')) fun _ _ h' => h'))

/-- a list comprehension over what a name holds, its own frame laid -/
theorem comp_start {env : Env} {elt target iter : Expr} {ifs : List Expr} {scope : Scope} {pos : Pos} {Q : Value → Shared → Prop}
    (hfree : ∀ x ∈ scope.names, x.2 ≠ .free) (hcell : ∀ x ∈ scope.names, x.2 ≠ .cell) (hkind : scope.kind = .function) (hnames : ∀ x ∈ scope.names, x.2 = .local → scope.names.lookup x.1 = some .local)
    (h : wpAny (model prog w) A (eval iter env) (fun x s₁ => wpAny (model prog w) A (pyIter x) (fun it s₂ =>
      ∀ h₃ tk₃, (∀ b o, s₂.heap.get? b = some o → h₃.get? b = some o) → h₃.PlainList s₂.heap.objs.size #[] → h₃.Ns (s₂.heap.objs.size + 1) (fun _ => none) →
        wpAny (model prog w) A (pyIter it) (fun it' s' => it' = it ∧ s' = { s₂ with heap := h₃, toks := tk₃ }) (fun _ _ => False) { s₂ with heap := h₃, toks := tk₃ } ∧
        codeAny (model prog w) A (.compLoop (.ListComp elt [⟨target, iter, ifs, 0⟩] scope pos) 0 it (.ref s₂.heap.objs.size) (compEnv scope (s₂.heap.objs.size + 1) env))
          (fun r s' => r = .ok .next ∧ ∃ m, s'.heap.Ns (s₂.heap.objs.size + 1) m ∧ ∀ h', Heap.SameBut (s₂.heap.objs.size + 1) s'.heap h' → Q (.ref s₂.heap.objs.size) { s' with heap := h' }) { s₂ with heap := h₃, toks := tk₃ }) E s₁) E s)
    (hs : ∀ x, foldedSetIterable iter env x = pure x := by intro _; rfl) :
    wpAny (model prog w) A (eval (.ListComp elt [⟨target, iter, ifs, 0⟩] scope pos) env) Q E s := by
  refine wpAny_ListComp hfree hkind hnames (wpAny_mono h (fun xv s₁ h₁ => wpAny_mono h₁ (fun it s₂ h₂ => ?_) fun _ _ e => e) fun _ _ e => e) hs
  refine wpAny_newObj_type (wpAny_newFunctionEnv hcell (by intro y hy; simp at hy) (fun h₁ hns₁ hsb₁ => ?_) hkind)
  dsimp only at hns₁ hsb₁ ⊢
  have hC : (s₂.heap.push { cls := .type "list", data := .seq ([] : List Value).toArray }).objs.size = s₂.heap.objs.size + 1 := by rw [Heap.size_push]
  rw [hC] at hns₁ hsb₁ ⊢
  have keep : ∀ b o, s₂.heap.get? b = some o → h₁.get? b = some o := fun b o q => hsb₁.extBut b o (Nat.ne_of_lt (Nat.lt_succ_of_lt (Heap.lt_size q))) (Heap.get?_push_of_some _ (Heap.get?_push_of_some _ q))
  have hacc : h₁.PlainList s₂.heap.objs.size #[] := ⟨_, hsb₁.extBut _ _ (Nat.ne_of_lt (Nat.lt_succ_self _)) (Heap.get?_push_of_some _ (Heap.get?_push_size _ rfl))⟩
  obtain ⟨hi, hc⟩ := h₂ h₁ (s₂.toks + ([] : List (Str × Value)).length) keep hacc hns₁
  have loop := codeAny_mono (R' := fun (r : Result) s' => ∃ m, s'.heap.Ns (s₂.heap.objs.size + 1) m ∧ ∀ h', Heap.SameBut (s₂.heap.objs.size + 1) s'.heap h' →
    match r with | .ok _ => Q (.ref s₂.heap.objs.size) { s' with heap := h' } | .error x => wpAny (model prog w) A (passOn "comprehension.variables-let-go" x (compEnv scope (s₂.heap.objs.size + 1) env)) Q E { s' with heap := h' }) hc
    (fun r s' hr => by
      obtain ⟨rfl, m, q1, q2⟩ := hr
      exact ⟨m, q1, q2⟩)
  refine codeAny_compStart_list loop (wpAny_mono hi (fun it' s' hq => ?_) fun _ _ q => q.elim)
  obtain ⟨rfl, rfl⟩ := hq
  exact loop
end
end Mine
namespace Mine
open PySem

def bindFn (binds : List (Str × Value)) : Str → Option Value := fun y => binds.reverse.lookup y

section
variable {prog : Program} {w : World} {A : Around} {E : Value → Shared → Prop} {s : Shared}

/-- the def's own frame, whatever the number of its parameters -/
theorem enterDefs {st : Stmt} {f : Addr} {base : Heap} {vs : List Value} {binds : List (Str × Value)} {Q : Value → Shared → Prop} (hroom : A.depth < recursionLimit) (fn : FnIs base st f) (hl : base.NoLimit) (hb : ∀ b o, base.get? b = some o → s.heap.get? b = some o)
    (hbind : ∀ fd : FuncData, fd.params = defArgs st → fd.defaults = .none → fd.kwdefaults = .none → bindArgs fd ⟨vs, []⟩ = pure binds)
    (hcell : ∀ y ∈ (defScope st).names, y.2 ≠ .cell) (hloc : ∀ y ∈ binds, (defScope st).names.lookup y.1 = some .local) (hco : (defScope st).isCoroutine = false) (hgen : (defScope st).isGenerator = false) (hk : (defScope st).kind = .function)
    (h : ∀ env h₁, env.scope = defScope st → env.locals = s.heap.objs.size → env.globals = mainGlobals → env.builtins = builtinsNs → interactive env = false →
      h₁.Ns s.heap.objs.size (bindFn binds) → (∀ b o, s.heap.get? b = some o → h₁.get? b = some o) →
      wpAny (model prog w) (A.deeper env) (execs (defBody st) env) (fun fl s' => Q (match fl with | .ret v => v | _ => .none) s') (fun _ _ => False) { s with heap := h₁, toks := s.toks + binds.length }) :
    wpAny (model prog w) A (call (.ref f) vs) Q E s := by
  obtain ⟨o, fd, h1, h2, h3, h4, h5, h6, h7, h8, h9, h10, h11⟩ := fn.out
  refine wpAny_call (codeAny_call_def (binds := binds) hroom (hb _ _ h1) h2 (hl.keeps hb) (h11.keeps hb) h4 (BindsTo.of_eq (hbind fd h5 h9 h10)) (by rw [h3]; exact hcell) (by rw [h3]; exact hloc)
    (fun h₁ hn hk₁ => ?_) (by rw [h3]; exact hco) (by rw [h3]; exact hgen) (by rw [h3]; exact hk))
  refine wpAny_mono (h (callEnv fd s.heap.objs.size f) h₁ h3 rfl h7 h8 ?_ hn hk₁) (fun fl s' q => q) fun _ _ q => q.elim
  show interactive (callEnv fd s.heap.objs.size f) = false
  unfold interactive callEnv newEnv
  dsimp only
  rw [h3, hk]
  rfl

theorem sum_keep {l : Addr} {ns : List Int} {Q : Value → Shared → Prop} (hh : A.handled = none) (hl : IntsIn s.heap l ns)
    (h : ∀ h' tk t', (∀ b o, s.heap.get? b = some o → h'.get? b = some o) → Q (.int ns.sum t') { s with heap := h', toks := tk }) : wpAny (model prog w) A (call (.builtin "sum") [.ref l]) Q E s := by
  obtain ⟨vs, hL, hi⟩ := hl
  obtain ⟨xs, hx⟩ := hi.allInts.items
  have hl' : s.heap.IsList l (intItems xs) := hx ▸ hL
  refine sum_intListG hh hl' fun h' tk t' hk => ?_
  have e1 : ns = xs.toList.map (·.1) := by
    rw [← nums_intItems, ← hx]
    exact (show numsOf vs.toArray.toList = ns from hi.numsOf).symm
  have e2 : preSum (numAt xs) xs.size = ns.sum := by
    rw [preSum_eq, List.take_of_length_le (by simp), e1]
  rw [e2]
  exact h h' tk t' hk

/-- x.append(..) as a statement -/
theorem append_stmt {env : Env} {e : Expr} {n : Str} {p1 p2 p3 p4 : Pos} {D : Addr} {m : Str → Option Value} {items : Array Value} {Q : Flow → Shared → Prop}
    (hk : env.scope.kind = .function) (hkn : env.kindOf n = some .local) (hn : s.heap.Ns env.locals m) (hm : m n = some (.ref D)) (hD : s.heap.PlainList D items)
    (hel : wpAny (model prog w) A (eval e env) (fun v s₂ => ∃ items', s₂.heap.PlainList D items' ∧ items'.size ≤ sizeLine ∧ ∀ h', h'.PlainList D (items'.push v) → Heap.SameBut D s₂.heap h' → Q .next { s₂ with heap := h' }) E s)
    (hi : interactive env = false) (hline : (p2.endLine == p3.line) = true) (hse : starEach [e] env = [(false, eval e env)]) (hsw : swapsWith (.Call (.Attribute (.Name n p1) "append" p2) [e] [] p3) none p4.line env = pure false)
    (hbase : attributeBase (.Name n p1) "append" env (eval (.Name n p1) env) = eval (.Name n p1) env) (hd : (n == ("__debug__" : Str)) = false) :
    wpAny (model prog w) A (exec (.Expr (.Call (.Attribute (.Name n p1) "append" p2) [e] [] p3) p4) env) Q E s := by
  refine wpAny_Expr ?_ hi hsw
  refine wpAny_Call_append hbase (by rw [hse]; rfl) hline (by rw [hse]; rfl) (nm hk hkn hn hm ⟨D, items, rfl, ?_, ?_⟩ hd)
  · obtain ⟨n, hn'⟩ := hD
    exact ⟨_, n, hn', rfl, rfl, rfl⟩
  refine wpAny_mono hel (fun v s₂ hv => ?_) fun _ _ q => q
  obtain ⟨items', h1, h2, h3⟩ := hv
  exact wpAny_list_append_plain h1 (fun h' q1 q2 => h3 h' q1 q2) h2
end
end Mine
namespace Mine
open PySem

/-- in this heap the expression gives this int, and nothing else happens -/
def EvI (prog : Program) (w : World) (A : Around) (env : Env) (h : Heap) (e : Expr) (v : Int) : Prop :=
  ∀ (s : Shared) (E Q : Value → Shared → Prop), s.heap = h → (∀ t tk, Q (.int v t) { s with toks := tk }) → wpAny (model prog w) A (eval e env) Q E s

section
variable {prog : Program} {w : World} {A : Around} {env : Env} {h : Heap}

theorem EvI.const {n : Int} {k : Nat} {pos : Pos} : EvI prog w A env h (.Constant (.int n) k pos) n := fun _ _ _ _ hQ => wpAny_Constant_int (hQ _ _)
theorem EvI.name {n : Str} {pos : Pos} {v : Int} {t : Tok} {m : Str → Option Value} (hk : env.scope.kind = .function) (hl : env.kindOf n = some .local) (hn : h.Ns env.locals m) (hm : m n = some (.int v t)) (hd : (n == ("__debug__" : Str)) = false := by decide) :
    EvI prog w A env h (.Name n pos) v := fun s _ _ e hQ => nm hk hl (e ▸ hn) hm (hQ _ s.toks) hd
theorem EvI.bin {l r : Expr} {op : Operator} {pos : Pos} {a b v : Int} (hl : EvI prog w A env h l a) (hr : EvI prog w A env h r b)
    (hop : ∀ (s : Shared) (E Q : Value → Shared → Prop) t u, (∀ t tk, Q (.int v t) { s with toks := tk }) → wpAny (model prog w) A (binaryOp op (.int a t) (.int b u)) Q E s) : EvI prog w A env h (.BinOp l op r pos) v :=
  fun s E Q e hQ => wpAny_BinOp (hl s E _ e fun t tk => hr { s with toks := tk } E _ e fun u tk' => hop _ _ _ _ _ fun t' tk'' => hQ t' tk'')
theorem EvI.add {l r : Expr} {pos : Pos} {a b : Int} (hl : EvI prog w A env h l a) (hr : EvI prog w A env h r b) : EvI prog w A env h (.BinOp l .Add r pos) (a + b) := hl.bin hr fun _ _ _ _ _ hQ => add_int (hQ _ _)
theorem EvI.sub {l r : Expr} {pos : Pos} {a b : Int} (hl : EvI prog w A env h l a) (hr : EvI prog w A env h r b) : EvI prog w A env h (.BinOp l .Sub r pos) (a - b) := hl.bin hr fun _ _ _ _ _ hQ => sub_int (hQ _ _)
theorem EvI.mul {l r : Expr} {pos : Pos} {a b : Int} (hl : EvI prog w A env h l a) (hr : EvI prog w A env h r b) (hm : IntMulOk a b) : EvI prog w A env h (.BinOp l .Mult r pos) (a * b) := hl.bin hr fun _ _ _ _ _ hQ => mul_int (hQ _ _) hm
theorem EvI.fmod {l r : Expr} {pos : Pos} {a b : Int} (hl : EvI prog w A env h l a) (hr : EvI prog w A env h r b) (hb : b ≠ 0) : EvI prog w A env h (.BinOp l .Mod r pos) (a.fmod b) := hl.bin hr fun _ _ _ _ _ hQ => mod_int hb (hQ _ _)
theorem EvI.fdiv {l r : Expr} {pos : Pos} {a b : Int} (hl : EvI prog w A env h l a) (hr : EvI prog w A env h r b) (hb : b ≠ 0) (hz : b.natAbs.log2 < 9000) : EvI prog w A env h (.BinOp l .FloorDiv r pos) (a.fdiv b) :=
  hl.bin hr fun _ _ _ _ _ hQ => floordiv_int hb (hQ _ _) (.inl (PyProof.noPylong_of_log2 hz))
theorem EvI.pow {l r : Expr} {pos : Pos} {a b : Int} (hl : EvI prog w A env h l a) (hr : EvI prog w A env h r b) (h1 : 2 ≤ a) (h2 : 0 ≤ b) (h3 : ((Builtin.Int.intBits a : Nat) : Int) * b ≤ 1000) : EvI prog w A env h (.BinOp l .Pow r pos) (a ^ b.toNat) := by
  refine hl.bin hr fun s E Q t u hQ => ?_
  by_cases hb : b = 0
  · subst hb
    rw [show a ^ Int.toNat 0 = 1 from Int.pow_zero a] at hQ
    exact PySem.AutoIntOps.pow_0 (by decide) (by decide) (show Q (.int 1 s.toks) _ from hQ _ _)
  · have q1 : (b == 0) = false := by simpa using hb
    have q2 : (a == 0 || a == 1) = false := by simp; omega
    have q3 : (a == -1) = false := by simp; omega
    refine PySem.AutoIntOps.pow_4 h2 (by rw [q1]; decide) (by rw [q2]; decide) (by rw [q3]; decide) ?_ (show Q (.int (a ^ b.toNat) s.toks) _ from hQ _ _)
    have : Builtin.Int.intTooBig (((Builtin.Int.intBits a : Nat) : Int) * b) = false := by
      unfold Builtin.Int.intTooBig
      have : (1000 : Int) ≤ (bitsLine : Int) := by decide +kernel
      simp only [decide_eq_false_iff_not]
      omega
    rw [this]; decide
theorem EvI.item {n : Str} {slice : Expr} {p pos : Pos} {l : Addr} {ns : List Int} {i : Int} {m : Str → Option Value} (hk : env.scope.kind = .function) (hl : env.kindOf n = some .local) (hn : h.Ns env.locals m) (hm : m n = some (.ref l)) (hi : IntsIn h l ns)
    (hs : EvI prog w A env h slice i) (h1 : -(ns.length : Int) ≤ i) (h2 : i < ns.length) (hz : ns.length ≤ 1000)
    (hss : ∀ u, subscripted slice false (.ref l) (.int i u) = operate [.ref l, .int i u] (getItem (.ref l) (.int i u)) := by intro _; with_unfolding_all rfl) (hd : (n == ("__debug__" : Str)) = false := by decide) :
    EvI prog w A env h (.Subscript (.Name n p) slice pos) (itemAt ns i) := by
  refine fun s E Q e hQ => Subscript_ (nm hk hl (e ▸ hn) hm (hs s E _ e fun u tk => ?_) hd)
  exact list_item (s := { s with toks := tk }) (e ▸ hi) h1 h2 hz (fun t => hQ t tk) (hss u)
end
end Mine
namespace Mine
open PySem

section
variable {prog : Program} {w : World} {A : Around} {E : Value → Shared → Prop} {s : Shared}

theorem IntsIn.new {h : Heap} {vs : List Value} {ns : List Int} (hi : IntsAre vs ns) : IntsIn (h.push { cls := .type "list", data := .seq vs.toArray }) h.objs.size ns := ⟨vs, ⟨_, Heap.get?_push_size _ rfl, rfl, _, rfl⟩, hi⟩

/-- the sum of a slice of a list of ints -/
theorem sum_slice {value slice : Expr} {l : Addr} {ns : List Int} {k step : Int} {tk tq : Tok} {ops : List Value} {Q : Value → Shared → Prop} {s : Shared} (hl : IntsIn s.heap l ns) (hz : ns.length ≤ 1000) (hst : step ≠ 0)
    (h : ∀ l' h', IntsIn h' l' (pickNums ns (some k) none (some step)) → (∀ b o, s.heap.get? b = some o → h'.get? b = some o) → s.heap.get? l' = none → Q (.ref l') { s with heap := h' })
    (hs : subscripted slice false (.ref l) (.ref s.heap.objs.size) = operate ops (getItem (.ref l) (.ref s.heap.objs.size)) := by with_unfolding_all rfl)
    (ht : ∀ r, letTemporaryGo value (.ref l) r = pure () := by intro _; with_unfolding_all rfl) :
    wpAny (model prog w) A (subscriptTail value slice (.ref l) (.ref s.heap.objs.size)) Q E { s with heap := s.heap.push { cls := .type "slice", data := .fields #[.int k tk, .none, .int step tq] } } := by
  obtain ⟨vs, hL, hi⟩ := hl
  refine subscriptTail_ops (Heap.IsList.typeIs (s := { s with heap := s.heap.push { cls := .type "slice", data := .fields #[.int k tk, .none, .int step tq] } }) (hL.push _)) list_getitem_lookup
    (wpAny_getItem_list_slice (hL.push _) (Heap.IsSliceOf.new ..) (IsPart.int _ _) .none (IsPart.int _ _) (by simpa using hst) ?_ ?_) hs ht
  · refine h _ _ ?_ (fun b o q => Heap.get?_push_of_some _ (Heap.get?_push_of_some _ q)) ?_
    · have := IntsIn.new (h := s.heap.push { cls := .type "slice", data := .fields #[.int k tk, .none, .int step tq] }) (hi.pick (some k) none (some step))
      simpa using this
    · cases q : s.heap.get? (s.heap.push { cls := .type "slice", data := .fields #[.int k tk, .none, .int step tq] }).objs.size with
      | none => rfl
      | some o =>
        have q1 := Heap.lt_size q
        rw [Heap.size_push] at q1
        exact absurd q1 (Nat.not_lt.mpr (Nat.le_succ _))
  · have := hi.length; have := sizeLine_eq; simp; omega

def compNames (k x : Str) (q : NameKind) : List (Str × NameKind) := [(Str.ofString ".0", .local), (k, .local), (Str.ofString "sum", .globalImplicit), (x, q)]

def addsOf (ns : List Int) (cnt : Nat) (step : Int) : List Int := (List.range cnt).map fun (j : Nat) => (pickNums ns (some ((j : Nat) : Int)) none (some step)).sum

theorem closureFor_one {scope : Scope} {env : Env} {x k : Str} {c : Addr} (hsn : scope.names = compNames k x .free) (hc : env.cells.lookup x = some c) : closureFor scope env = pure [(x, c)] := by
  unfold closureFor
  rw [hsn]
  unfold compNames
  simp only [List.forIn_cons, List.forIn_nil]
  unfold cellOf
  rw [hc]
  rfl

set_option maxHeartbeats 1000000 in
/-- y = [sum(x[k::step]) for k in range(cnt)], x a cell of the def around -/
theorem adds_stmt {env : Env} {base : Heap} {c l : Addr} {ns : List Int} {cnt : Nat} {step : Int} {x k y : Str} {p1 p2 p3 p4 p5 p6 p7 p8 p9 p10 p11 p12 p13 : Pos} {c1 c2 : Nat} {scope : Scope} {m mg mb : Str → Option Value} {Q : Flow → Shared → Prop}
    (hh : A.handled = none) (hk : env.scope.kind = .function) (hx : env.kindOf x = some .cell) (hc : env.cells.lookup x = some c) (hy : env.kindOf y = some .local) (hr : env.kindOf "range" = some .globalImplicit)
    (hsn : scope.names = compNames k x .free) (hkind : scope.kind = .function) (hkx : ¬ k = x) (hk0 : ¬ k = Str.ofString ".0") (hks : ¬ k = Str.ofString "sum") (hx0 : ¬ x = Str.ofString ".0") (hxs : ¬ x = Str.ofString "sum")
    (hbl : base.Ns env.builtins mb) (hb1 : mb "range" = some (.type "range")) (hb2 : mb "sum" = some (.builtin "sum")) (hg : base.Ns env.globals mg) (hg1 : mg "range" = none) (hg2 : mg "sum" = none)
    (hb : ∀ b o, base.get? b = some o → s.heap.get? b = some o) (hn : s.heap.Ns env.locals m) (hcl : s.heap.IsCell c (some (.ref l))) (hl : IntsIn s.heap l ns) (hz : ns.length ≤ 1000) (hst : step ≠ 0) (hcnt : cnt ≤ 1000)
    (hdk : (k == ("__debug__" : Str)) = false) (hdx : (x == ("__debug__" : Str)) = false)
    (h : ∀ D h' tk, s.heap.get? D = none → IntsIn h' D (addsOf ns cnt step) → h'.Ns env.locals (fun z => if z = y then some (.ref D) else m z) → (∀ b o, b ≠ env.locals → s.heap.get? b = some o → h'.get? b = some o) → Q .next { s with heap := h', toks := tk })
    (hline : (p13.line == p12.line) = true) (hany : ((compNames k x .free).any fun (n, kk) => n == y && (kk == .local || kk == .cell)) = false)
    {spos : Pos} :
    wpAny (model prog w) A (exec (.Assign [.Name y p13] (.ListComp (.Call (.Name "sum" p1) [.Subscript (.Name x p2) (.Slice (some (.Name k p3)) none (some (.Constant (.int step) c1 p4)) p5) p6] [] p7) [⟨.Name k p8, .Call (.Name "range" p9) [.Constant (.int (cnt : Int)) c2 p10] [] p11, [], 0⟩] scope p12) spos) env) Q E s := by
  have hfun : (NameKind.free == NameKind.free && env.scope.kind == ScopeKind.function && env.kindOf x == some NameKind.cell) = true := by rw [hk, hx]; rfl
  have hrel : (relabel scope env).names = compNames k x .cell := by
    unfold relabel
    dsimp only
    rw [hsn]
    unfold compNames
    simp only [List.map_cons, List.map_nil, hfun, if_true]
    rfl
  have kk : ∀ C, (compEnvC scope [(x, c)] C env).kindOf k = some .local := fun C => by
    show (relabel scope env).names.lookup k = _
    rw [hrel]; unfold compNames; simp [List.lookup, beqF hk0]
  have ks : ∀ C, (compEnvC scope [(x, c)] C env).kindOf "sum" = some .globalImplicit := fun C => by
    show (relabel scope env).names.lookup (Str.ofString "sum") = _
    rw [hrel]; unfold compNames; simp [List.lookup, beqF (fun h : (Str.ofString "sum") = k => hks h.symm), beqF (show ¬ Str.ofString "sum" = Str.ofString ".0" by decide)]
  have kx : ∀ C, (compEnvC scope [(x, c)] C env).kindOf x = some .cell := fun C => by
    show (relabel scope env).names.lookup x = _
    rw [hrel]; unfold compNames; simp [List.lookup, beqF hx0, beqF hxs, beqF (fun h : x = k => hkx h.symm)]
  have hkl : scope.names.lookup k = some .local := by rw [hsn]; unfold compNames; simp [List.lookup, beqF hk0]
  have hbk : env.blockKind = .function := by simp [Env.blockKind, hk, ScopeKind.isAnnotationScope]
  have hsw : swapsWith (.ListComp (.Call (.Name "sum" p1) [.Subscript (.Name x p2) (.Slice (some (.Name k p3)) none (some (.Constant (.int step) c1 p4)) p5) p6] [] p7) [⟨.Name k p8, .Call (.Name "range" p9) [.Constant (.int (cnt : Int)) c2 p10] [] p11, [], 0⟩] scope p12) (some (.Name y p13)) spos.line env = pure true := by
    show (pure (env.blockKind == .function && env.kindOf y == some .local && p13.line == p12.line && !(scope.names.any fun (n, kk) => n == y && (kk == .local || kk == .cell))) : Sem Bool) = pure true
    rw [hbk, hy, hline, hsn, hany]
    rfl
  refine wpAny_Assign_ListComp_free (fun _ => true) (fun v y' => ∃ j t t', v = .int j t ∧ y' = .int (pickNums ns (some j) none (some step)).sum t') hsw (closureFor_one hsn hc) ?_ hkind ?_ hkl hy (plainScope hk) ?_
  · rw [hsn]; unfold compNames; intro z hz; simp at hz; rcases hz with rfl | rfl | rfl | rfl <;> exact fun h => by cases h
  · rw [hsn]; unfold compNames; intro z hz hz2; simp at hz
    rcases hz with rfl | rfl | rfl | rfl
    · rfl
    · simp [List.lookup, beqF hk0]
    · cases hz2
    · cases hz2
  refine Call_Name1 (Calls.Name_function_global hk hr (Calls.loadGlobal_builtin (hg.keeps hb) hg1 (hbl.keeps hb) hb1 (PyProof.Rows.callWith_type rfl (Calls.evalArgs_plain (Calls.spliced_cons (wpAny_Constant_int (Calls.spliced_nil (call_range_1 ?_)))))))) 
  refine wpAny_pyIter_range (IsRange.new ..) (small_one (by decide) (by decide) (by omega) (by omega)) ?_
  have up : ∀ b o, s.heap.get? b = some o → ((s.heap.push { cls := .type "range", data := .fields #[.int 0 (s.toks + 1), .int cnt s.toks, .int 1 (s.toks + 1 + 1)] }).push { cls := .type "range_iterator", data := .fields #[rawInt 0, rawInt (Builtin.Range.rangeSize 0 cnt 1), rawInt 1] }).get? b = some o :=
    fun b o q => Heap.get?_push_of_some _ (Heap.get?_push_of_some _ q)
  have hrs : Builtin.Range.rangeSize 0 (cnt : Int) 1 = (cnt : Int) := by rw [rangeSize_one]; split <;> omega
  refine ⟨_, _, _, _, _, _, m, rfl, Walks.range hh _ 0 1 cnt, by have := sizeLine_eq; omega, ?_, ?_, ?_, (hn.push _).push _, ?_, ?_⟩
  · show IsRangeIter _ _ _ _ _
    have := Heap.get?_push_size (s.heap.push { cls := .type "range", data := .fields #[.int 0 (s.toks + 1), .int cnt s.toks, .int 1 (s.toks + 1 + 1)] }) (o := { cls := .type "range_iterator", data := .fields #[rawInt 0, rawInt (Builtin.Range.rangeSize 0 cnt 1), rawInt 1] }) rfl
    rw [hrs] at this
    rw [hrs]
    simpa using this
  · intro b hb'
    rw [List.mem_singleton.mp hb']
    simp only [Heap.size_push]
    exact Nat.lt_succ_self _
  · intro hb'
    have := hn.lt
    have e := List.mem_singleton.mp hb'
    rw [e, Heap.size_push] at this
    exact absurd this (Nat.not_lt.mpr (Nat.le_succ _))
  · refine ⟨fun _ _ _ _ _ _ _ _ _ _ _ _ => wpAny_tests_nil ⟨rfl, keeps_refl _⟩, ?_⟩
    rintro C i v s₃ m₃ E' hC ⟨t, rfl⟩ - hn₃ hm₃ keep₃ -
    have up₃ : ∀ b o, s.heap.get? b = some o → s₃.heap.get? b = some o := fun b o q => keep₃ b o (fun hb' => by
      have q1 := Heap.lt_size q
      rw [List.mem_singleton.mp hb', Heap.size_push] at q1
      exact absurd q1 (Nat.not_lt.mpr (Nat.le_succ _))) (up b o q)
    have hcl₃ : s₃.heap.IsCell c (some (.ref l)) := hcl.keeps up₃
    have ckind : (compEnvC scope [(x, c)] C env).scope.kind = .function := hkind
    refine Call_Name1 (Calls.Name_function_global ckind (ks C) (Calls.loadGlobal_builtin (hg.keeps fun b o q => up₃ b o (hb b o q)) hg2 (hbl.keeps fun b o q => up₃ b o (hb b o q)) hb2 (Calls.callWith_builtin rfl (Calls.evalArgs_plain (Calls.spliced_cons ?_)))))
    refine Subscript_ (wpAny_Name (wpAny_loadName_cell ckind (kx C) (by simp [compEnvC]) hcl₃ ?_) hdx)
    refine wpAny_Slice (wpAny_evalPart_some (nm ckind (kk C) hn₃ hm₃ (wpAny_evalPart_none (wpAny_evalPart_some (wpAny_Constant_int ?_))) hdk))
    refine sum_slice (s := { s₃ with toks := s₃.toks + 1 }) (hl.keeps fun o q => up₃ _ o q) hz hst fun l' h' hl' keep' hfr' => Calls.spliced_nil (sum_keep hh hl' fun h'' tk'' t' keep'' => ?_)
    exact ⟨⟨_, _, _, rfl, rfl⟩, h'', tk'', rfl, fun b o q => keep'' b o (keep' b o q)⟩
  · intro D h' tk ys vs hD hyl hypl hlen hvs hF hn' hk'
    have hD₀ : s.heap.get? D = none := by
      cases q : s.heap.get? D with
      | none => rfl
      | some o => rw [up D o q] at hD; cases hD
    refine h D h' tk hD₀ ?_ hn' fun b o hbL q => hk' b o hbL ?_ (up b o q)
    · refine ⟨ys.toList, by simpa using hyl, ?_⟩
      rw [List.filter_eq_self.mpr (fun _ _ => rfl)] at hF
      have key : ∀ (vs' : List Value) (ys' : List Value) (i : Nat), (∀ j v, vs'[j]? = some v → ∃ t, v = Value.int ((i + j : Nat) : Int) t) → Paired (fun (v y' : Value) => ∃ j t t', v = .int j t ∧ y' = .int (pickNums ns (some j) none (some step)).sum t') vs' ys' →
          IntsAre ys' ((List.range vs'.length).map fun j => (pickNums ns (some ((i + j : Nat) : Int)) none (some step)).sum) := by
        intro vs' ys' i hv hp
        induction hp generalizing i with
        | nil => exact .nil
        | cons q _ ih =>
          obtain ⟨j, t, t', rfl, rfl⟩ := q
          obtain ⟨t₀, e⟩ := hv 0 _ rfl
          cases e
          rw [List.length_cons, List.range_succ_eq_map, List.map_cons, List.map_map]
          refine .cons _ _ ?_
          have := ih (i + 1) fun j v hj => by
            obtain ⟨t, e⟩ := hv (j + 1) v (by simpa using hj)
            exact ⟨t, by rw [e]; congr 2; omega⟩
          have e2 : ((fun j : Nat => (pickNums ns (some ((i + j : Nat) : Int)) none (some step)).sum) ∘ Nat.succ) = fun j : Nat => (pickNums ns (some ((i + 1 + j : Nat) : Int)) none (some step)).sum := by
            funext j; simp only [Function.comp]; congr 3; omega
          rw [e2]
          exact this
      have := key vs ys.toList 0 (fun j v hj => by
        obtain ⟨t, e⟩ := hvs j v hj
        exact ⟨t, by rw [e]; congr 1; omega⟩) hF
      rw [hlen] at this
      unfold addsOf
      simpa using this
    · intro hb'
      have q1 := Heap.lt_size q
      rw [List.mem_singleton.mp hb', Heap.size_push] at q1
      exact absurd q1 (Nat.not_lt.mpr (Nat.le_succ _))
end
end Mine
namespace Mine
open PySem

/-- all that stood stands, but for one object -/
def Up (L : Addr) (h h' : Heap) : Prop := ∀ b o, b ≠ L → h.get? b = some o → h'.get? b = some o
theorem Up.refl {L : Addr} {h : Heap} : Up L h h := fun _ _ _ q => q
theorem Up.trans {L : Addr} {h h' h'' : Heap} (x : Up L h h') (y : Up L h' h'') : Up L h h'' := fun b o hb q => y b o hb (x b o hb q)
theorem Up.of_keep {L : Addr} {h h' : Heap} (x : ∀ b o, h.get? b = some o → h'.get? b = some o) : Up L h h' := fun b o _ q => x b o q
theorem Up.of_same {L : Addr} {h h' : Heap} (x : Heap.SameBut L h h') : Up L h h' := fun b o hb q => x.extBut b o hb q
theorem IntsIn.up {L l : Addr} {h h' : Heap} {ns : List Int} (x : IntsIn h l ns) (u : Up L h h') (hl : l ≠ L) : IntsIn h' l ns := x.keeps fun o q => u l o hl q
theorem cell_up {L c : Addr} {h h' : Heap} {v : Option Value} (x : h.IsCell c v) (u : Up L h h') (hl : c ≠ L) : h'.IsCell c v := let ⟨o, ho, q⟩ := x; ⟨o, u c o hl ho, q⟩
theorem base_up {L : Addr} {base h h' : Heap} (hb : ∀ b o, base.get? b = some o → h.get? b = some o) (hL : base.get? L = none) (u : Up L h h') : ∀ b o, base.get? b = some o → h'.get? b = some o :=
  fun b o q => u b o (fun z => by rw [z, hL] at q; cases q) (hb b o q)
theorem IntsIn.ne {l L : Addr} {h : Heap} {ns : List Int} {m : Str → Option Value} (x : IntsIn h l ns) (hn : h.Ns L m) : l ≠ L := by
  rintro rfl
  obtain ⟨vs, ⟨o, ho, hc, n, hd⟩, _⟩ := x
  obtain ⟨o', _, _, ho', hd', _⟩ := hn
  rw [ho] at ho'
  cases ho'
  rw [hd] at hd'
  cases hd'

section
variable {prog : Program} {w : World} {A : Around} {E : Value → Shared → Prop} {s : Shared}

theorem assign_int {env : Env} {e : Expr} {y : Str} {p pos : Pos} {v : Int} {m : Str → Option Value} {Q : Flow → Shared → Prop} (hk : env.scope.kind = .function) (hy : env.kindOf y = some .local) (hn : s.heap.Ns env.locals m) (he : EvI prog w A env s.heap e v)
    (h : ∀ h' t tk, h'.Ns env.locals (fun z => if z = y then some (.int v t) else m z) → Up env.locals s.heap h' → Q .next { s with heap := h', toks := tk })
    (hsw : swapsWith e (some (.Name y p)) pos.line env = pure false := by rfl) :
    wpAny (model prog w) A (exec (.Assign [.Name y p] e pos) env) Q E s := by
  refine wpAny_Assign_Name (he s _ _ rfl fun t tk => wpAny_storeName_local hy hn (fun h' hn' hs' => h h' t _ hn' (.of_same hs')) (plainScope hk)) hsw

/-- a list display of ints -/
theorem ints_spliced {env : Env} {pos : Pos} {h : Heap} : ∀ {es : List Expr} {ns : List Int}, Paired (fun e n => EvI prog w A env h e n ∧ ∀ rest, starEach (e :: rest) env = (false, eval e env) :: starEach rest env) es ns → ∀ {s : Shared} {Q : List Value → Shared → Prop}, s.heap = h →
    (∀ vs tk, IntsAre vs ns → Q vs { s with toks := tk }) → wpAny (model prog w) A (spliced (backTo pos (starEach es env))) Q E s
  | _, _, .nil, s, Q, _, hQ => Calls.spliced_nil (hQ [] s.toks .nil)
  | _, _, .cons ⟨he, hs⟩ r, s, Q, e, hQ => spliced_more (he s _ _ e fun t tk => ints_spliced r (s := { s with toks := tk }) e fun vs tk' hvs => hQ _ tk' (.cons _ t hvs)) (hs _)

theorem assign_ints {env : Env} {es : List Expr} {ns : List Int} {y : Str} {p pos pos2 : Pos} {m : Str → Option Value} {Q : Flow → Shared → Prop} (hk : env.scope.kind = .function) (hy : env.kindOf y = some .local) (hn : s.heap.Ns env.locals m)
    (he : Paired (fun e n => EvI prog w A env s.heap e n ∧ ∀ rest, starEach (e :: rest) env = (false, eval e env) :: starEach rest env) es ns) (hz : ns.length ≤ 1000)
    (h : ∀ D h' tk, IntsIn h' D ns → s.heap.get? D = none → h'.Ns env.locals (fun z => if z = y then some (.ref D) else m z) → Up env.locals s.heap h' → Q .next { s with heap := h', toks := tk }) :
    wpAny (model prog w) A (exec (.Assign [.Name y p] (.List es pos2) pos) env) Q E s := by
  refine wpAny_Assign_Name (wpAny_List_spliced (ints_spliced he rfl fun vs tk hvs => ⟨?_, wpAny_storeName_local hy (hn.push _) (fun h' hn' hs' => ?_) (plainScope hk)⟩))
  · have := hvs.length; have := sizeLine_eq; omega
  · replace hs' : Heap.SameBut env.locals (s.heap.push { cls := .type "list", data := .seq vs.toArray }) h' := hs'
    have hlt := hn.lt
    refine h s.heap.objs.size h' _ ((IntsIn.new hvs).up (.of_same hs') (Nat.ne_of_gt hlt)) (getAbove _) hn' fun b o hb q => hs'.extBut b o hb (Heap.get?_push_of_some _ q)

/-- the frame of a def with one parameter that the defs within it see -/
theorem enterCell {st : Stmt} {f : Addr} {base : Heap} {n : Str} {v : Value} {Q : Value → Shared → Prop} (hroom : A.depth < recursionLimit) (fn : FnIs base st f) (hl : base.NoLimit) (hb : ∀ b o, base.get? b = some o → s.heap.get? b = some o)
    (hbind : ∀ fd : FuncData, fd.params = defArgs st → fd.defaults = .none → fd.kwdefaults = .none → bindArgs fd ⟨[v], []⟩ = pure [(n, v)])
    (hcell : (defScope st).names.lookup n = some .cell) (hcells : ∀ L, cellsFrom L (defScope st).names [] = [(n, L)]) (hco : (defScope st).isCoroutine = false) (hgen : (defScope st).isGenerator = false) (hk : (defScope st).kind = .function)
    (h : ∀ env h₁ tk c, env.scope = defScope st → env.locals = s.heap.objs.size → env.globals = mainGlobals → env.builtins = builtinsNs → interactive env = false → env.cells.lookup n = some c → c ≠ s.heap.objs.size → s.heap.get? c = none →
      h₁.IsCell c (some v) → h₁.Ns s.heap.objs.size (fun _ => none) → (∀ b o, s.heap.get? b = some o → h₁.get? b = some o) →
      wpAny (model prog w) (A.deeper env) (execs (defBody st) env) (fun fl s' => Q (match fl with | .ret v => v | _ => .none) s') (fun _ _ => False) { s with heap := h₁, toks := tk }) :
    wpAny (model prog w) A (call (.ref f) [v]) Q E s := by
  obtain ⟨o, fd, h1, h2, h3, h4, h5, h6, h7, h8, h9, h10, h11⟩ := fn.out
  have hlk : ∀ L, (cellsFrom L fd.scope.names []).lookup n = some L := fun L => by rw [h3, hcells]; simp [List.lookup]
  refine wpAny_call (codeAny_call_cells (binds := [(n, v)]) hroom (hb _ _ h1) h2 (hl.keeps hb) (h11.keeps hb) h4 (hbind fd h5 h9 h10) h6 ?_ (fun s₁ x => ?_) (by rw [h3]; exact hco) (by rw [h3]; exact hgen) (by rw [h3]; exact hk))
  · intro y hy
    rw [List.mem_singleton.mp hy]
    refine .inr ⟨by rw [h3]; exact hcell, ?_⟩
    rw [hlk]; rfl
  · obtain ⟨h₁, tk, rfl⟩ := x.toInCall.same
    have hkc : ¬ (callEnvC fd s.heap.objs.size f).kindOf n = some .local := by
      show ¬ fd.scope.names.lookup n = some .local
      rw [h3, hcell]; decide
    have hc : (callEnvC fd s.heap.objs.size f).cells.lookup n = some (s.heap.objs.size + 1) := hlk _
    have hcv := x.cell n _ hc
    have hbc : bindC (callEnvC fd s.heap.objs.size f).kindOf [(n, v)] (fun _ => none) n = some v := by
      simp only [bindC, if_neg hkc]
      simp
    have hbl : bindL (callEnvC fd s.heap.objs.size f).kindOf [(n, v)] (fun _ => none) = fun _ => none := by
      simp only [bindL, if_neg hkc]
    rw [hbc] at hcv
    have hn := x.toInCall.ns
    rw [hbl] at hn
    refine wpAny_mono (h (callEnvC fd s.heap.objs.size f) h₁ tk (s.heap.objs.size + 1) h3 rfl h7 h8 ?_ hc (Nat.ne_of_gt (Nat.lt_succ_self _)) ?_ hcv hn x.toInCall.keep) (fun fl s' q => q) fun _ _ q => q.elim
    · show interactive (callEnvC fd s.heap.objs.size f) = false
      unfold interactive callEnvC newEnv
      dsimp only
      rw [h3, hk]
      rfl
    · cases q : s.heap.get? (s.heap.objs.size + 1) with
      | none => rfl
      | some o => exact absurd (Heap.lt_size q) (Nat.not_lt.mpr (Nat.le_succ _))
end
end Mine
namespace Mine
open PySem

theorem plain_ne_iter {h : Heap} {D I l : Addr} {items : Array Value} {j : Nat} (x : h.PlainList D items) (y : h.IsListIter I l j) : D ≠ I := by
  rintro rfl
  obtain ⟨n, q⟩ := x
  obtain ⟨o, ho, hc, _⟩ := y
  rw [q] at ho
  cases ho
  simp at hc
theorem ints_ne_iter {h : Heap} {D I l : Addr} {ns : List Int} {j : Nat} (x : IntsIn h D ns) (y : h.IsListIter I l j) : D ≠ I := by
  rintro rfl
  obtain ⟨_, ⟨o', ho', hc', _⟩, _⟩ := x
  obtain ⟨o, ho, hc, _⟩ := y
  rw [ho'] at ho
  cases ho
  rw [hc'] at hc
  simp at hc
theorem iter_keeps {h h' : Heap} {I l : Addr} {j : Nat} (x : h.IsListIter I l j) (k : ∀ o, h.get? I = some o → h'.get? I = some o) : h'.IsListIter I l j := let ⟨o, ho, q⟩ := x; ⟨o, k o ho, q⟩
theorem iter_ne_ns {h : Heap} {I l L : Addr} {j : Nat} {m : Str → Option Value} (x : h.IsListIter I l j) (hn : h.Ns L m) : I ≠ L := by
  rintro rfl
  obtain ⟨o, ho, hc, hd⟩ := x
  obtain ⟨o', _, _, ho', hd', _⟩ := hn
  rw [ho] at ho'
  cases ho'
  rw [hd] at hd'
  cases hd'

section
variable {prog : Program} {w : World} {A : Around} {E : Value → Shared → Prop} {s : Shared}

/-- a for over a list of ints, its body's doings told by J -/
theorem loop_ints {R' : Result → Shared → Prop} {ns : List Int} {l I : Addr} {env : Env} {n : Str} {p : Pos} {body : List Stmt} {m : Str → Option Value} (hh : A.handled = none) (hk : env.scope.kind = .function) (k1 : env.kindOf n = some .local)
    (J : Nat → (Str → Option Value) → Shared → Prop)
    (hJ : ∀ j m s h' tk, J j m s → s.heap.IsListIter I l j → s.heap.Ns env.locals m → (∀ b o, b ≠ env.locals → b ≠ I → s.heap.get? b = some o → h'.get? b = some o) → J j m { s with heap := h', toks := tk })
    (hJl : ∀ j m s, J j m s → IntsIn s.heap l ns)
    (step : ∀ j v t m s₁, ns[j]? = some v → J j m s₁ → s₁.heap.IsListIter I l (j + 1) → s₁.heap.Ns env.locals (fun y => if y = n then some (.int v t) else m y) →
      wpAny (model prog w) A (execs body env) (fun f s₂ => f = .next ∧ s₂.heap.IsListIter I l (j + 1) ∧ ∃ m₂, s₂.heap.Ns env.locals m₂ ∧ J (j + 1) m₂ s₂) (notedBy (model prog w) A env fun e s' => R' (.error e) s') s₁)
    (hafter : ∀ m' s', s'.heap.Ns env.locals m' → J ns.length m' s' → R' (.ok .next) s')
    (hit : s.heap.IsListIter I l 0) (hn : s.heap.Ns env.locals m) (h0 : J 0 m s) :
    codeAny (model prog w) A (.forLoop (.Name n p) (.ref I) body [] env) R' s := by
  refine codeAny_forLoop_any (fun k s' => ∃ j m', k = ns.length + 1 - j ∧ j ≤ ns.length ∧ s'.heap.IsListIter I l j ∧ s'.heap.Ns env.locals m' ∧ J j m' s') ?_ (ns.length + 1) ⟨0, m, rfl, Nat.zero_le _, hit, hn, h0⟩
  rintro k s' ⟨j, m', rfl, hj, hit', hn', hJ'⟩
  have hIL := iter_ne_ns hit' hn'
  have hl := hJl _ _ _ hJ'
  have hlI := ints_ne_iter hl hit'
  obtain ⟨vs, hL, hi⟩ := hl
  have hlen := hi.length
  cases hv : ns[j]? with
  | none =>
    have hje : j = ns.length := Nat.le_antisymm hj (by simpa using hv)
    subst hje
    refine wpAny_pyNext_list_end hh hit' hL (by simp [hlen]) fun h₁ hx₁ => wpAny_execs_nil ?_
    replace hx₁ : Heap.ExtBut I s'.heap h₁ := hx₁
    exact hafter m' _ (hn'.at' fun o q => hx₁ _ o (Ne.symm hIL) q) (hJ _ _ _ h₁ s'.toks hJ' hit' hn' fun b o _ hb q => hx₁ b o hb q)
  | some v =>
    have hlt : j < ns.length := (List.getElem?_eq_some_iff.mp hv).1
    obtain ⟨t, hvi⟩ := hi.get j v hv
    refine wpAny_pyNext_list_item hit' hL (by simpa using hvi) fun h₁ hit₁ hs₁ => ?_
    replace hs₁ : Heap.SameBut I s'.heap h₁ := hs₁
    refine wpAny_pure ?_
    have hn₁ := hn'.sameBut hs₁ (Ne.symm hIL)
    refine wpAny_assign_Name (wpAny_storeName_local k1 hn₁ (fun h₂ hn₂ hs₂ => ?_) (plainScope hk))
    replace hs₂ : Heap.SameBut env.locals h₁ h₂ := hs₂
    have J₂ := hJ _ _ _ h₂ (s'.toks + 1) hJ' hit' hn' fun b o hbL hb q => hs₂.extBut b o hbL (hs₁.extBut b o hb q)
    refine wpAny_mono (step j v t m' _ hv J₂ (iter_keeps hit₁ fun o q => hs₂.extBut _ o hIL q) hn₂) (fun f s₃ hf => ?_) fun _ _ q => q
    obtain ⟨rfl, q1, m₂, q2, q3⟩ := hf
    exact ⟨ns.length + 1 - (j + 1), by omega, j + 1, m₂, rfl, hlt, q1, q2, q3⟩

theorem aug_add {env : Env} {e : Expr} {y : Str} {p pos : Pos} {a b : Int} {t₀ : Tok} {m : Str → Option Value} {Q : Flow → Shared → Prop} (hk : env.scope.kind = .function) (hy : env.kindOf y = some .local) (hn : s.heap.Ns env.locals m) (hm : m y = some (.int a t₀)) (he : EvI prog w A env s.heap e b)
    (h : ∀ h' t tk, h'.Ns env.locals (fun z => if z = y then some (.int (a + b) t) else m z) → Up env.locals s.heap h' → Q .next { s with heap := h', toks := tk }) :
    wpAny (model prog w) A (exec (.AugAssign (.Name y p) .Add e pos) env) Q E s := by
  refine wpAny_AugAssign_Name (wpAny_loadName_local hk hy hn hm (he _ _ _ rfl fun t tk => wpAny_iadd_int (wpAny_storeName_local hy hn (fun h' hn' hs' => ?_) (plainScope hk))))
  exact h h' _ _ hn' (.of_same hs')

theorem aug_sub {env : Env} {e : Expr} {y : Str} {p pos : Pos} {a b : Int} {t₀ : Tok} {m : Str → Option Value} {Q : Flow → Shared → Prop} (hk : env.scope.kind = .function) (hy : env.kindOf y = some .local) (hn : s.heap.Ns env.locals m) (hm : m y = some (.int a t₀)) (he : EvI prog w A env s.heap e b)
    (h : ∀ h' t tk, h'.Ns env.locals (fun z => if z = y then some (.int (a - b) t) else m z) → Up env.locals s.heap h' → Q .next { s with heap := h', toks := tk }) :
    wpAny (model prog w) A (exec (.AugAssign (.Name y p) .Sub e pos) env) Q E s := by
  refine wpAny_AugAssign_Name (wpAny_loadName_local hk hy hn hm (he _ _ _ rfl fun t tk => PySem.AutoIntOps.isub_0 (show (fun r s₃ => wpAny (model prog w) A (storeName env y r) (fun _ => Q .next) E s₃) (.int (a - b) _) _ from wpAny_storeName_local hy hn (fun h' hn' hs' => ?_) (plainScope hk))))
  exact h h' _ _ hn' (.of_same hs')

theorem add_ints {l b : Addr} {ns ms : List Int} {Q : Value → Shared → Prop} (hl : IntsIn s.heap l ns) (hb : IntsIn s.heap b ms) (hz : ns.length + ms.length ≤ 10000)
    (h : ∀ h', IntsIn h' s.heap.objs.size (ns ++ ms) → (∀ b o, s.heap.get? b = some o → h'.get? b = some o) → Q (.ref s.heap.objs.size) { s with heap := h' }) : wpAny (model prog w) A (binaryOp .Add (.ref l) (.ref b)) Q E s := by
  obtain ⟨vs, hL, hi⟩ := hl
  obtain ⟨ws, hB, hj⟩ := hb
  obtain ⟨⟨cls, dd, data, sl⟩, ho, hc, n, hd⟩ := id hL
  obtain ⟨⟨cls2, dd2, data2, sl2⟩, ho2, hc2, n2, hd2⟩ := id hB
  simp only at hc hd hc2 hd2
  subst hc hd hc2 hd2
  have e : vs.toArray ++ ws.toArray = (vs ++ ws).toArray := by simp
  have hsz : vs.length + ws.length ≤ sizeLine := by rw [hi.length, hj.length]; have := sizeLine_eq; omega
  refine concat_meets ⟨_, ho, rfl⟩ ⟨_, ho2, rfl⟩ noFill_list_add seq_list_add PySem.F.slot_list_add PySem.F.entry_list_add (PySem.F.args_list_add_2 _ _) (list_addW l b vs.toArray ws.toArray n n2 dd dd2 sl sl2 (by simpa using hsz)) ⟨ho, ho2, ?_⟩
  rw [e]
  exact h _ (IntsIn.new (hi.append hj)) fun b o q => Heap.get?_push_of_some _ q

theorem eq_ints {l b : Addr} {ns ms : List Int} {Q : Value → Shared → Prop} (hl : IntsIn s.heap l ns) (hb : IntsIn s.heap b ms) (hu : A.units < cLine) (h : Q (.bool (decide (ns = ms))) s) : wpAny (model prog w) A (compareOp .Eq (.ref l) (.ref b)) Q E s := by
  obtain ⟨vs, hL, hi⟩ := hl
  obtain ⟨ws, hB, hj⟩ := hb
  by_cases hlen : ns.length = ms.length
  · refine PySem.SeqAt.eq_listAt (e := fun j => ns.getD j 0 == ms.getD j 0) hL hB (by simp [hi.length, hj.length, hlen]) hu ?_ ?_
    · intro j h1 h2
      have h1' : j < ns.length := by simpa [hi.length] using h1
      have h2' : j < ms.length := by omega
      obtain ⟨t, ht⟩ := hi.get j (ns.getD j 0) (by rw [List.getD_eq_getElem?_getD, List.getElem?_eq_getElem h1']; rfl)
      obtain ⟨u, hu'⟩ := hj.get j (ms.getD j 0) (by rw [List.getD_eq_getElem?_getD, List.getElem?_eq_getElem h2']; rfl)
      have e1 : vs.toArray[j] = .int (ns.getD j 0) t := by
        have := (List.getElem?_eq_some_iff.mp ht).2; simpa using this
      have e2 : ws.toArray[j] = .int (ms.getD j 0) u := by
        have := (List.getElem?_eq_some_iff.mp hu').2; simpa using this
      rw [e1, e2]
      exact PySem.SeqAt.EqAt.int_int _ _ _ _
    · have e : ((List.range vs.toArray.size).all fun j => ns.getD j 0 == ms.getD j 0) = decide (ns = ms) := by
        rw [Bool.eq_iff_iff]
        simp only [List.all_eq_true, List.mem_range, decide_eq_true_eq, beq_iff_eq]
        have hs : vs.toArray.size = ns.length := by simp [hi.length]
        rw [hs]
        constructor
        · intro hq
          refine List.ext_getElem hlen fun i h1 h2 => ?_
          have := hq i h1
          rw [List.getD_eq_getElem?_getD, List.getD_eq_getElem?_getD, List.getElem?_eq_getElem h1, List.getElem?_eq_getElem h2] at this
          exact this
        · rintro rfl _ _; rfl
      rw [e]; exact h
  · refine PySem.SeqAt.eq_list_lengthsAt hL hB (by simp [hi.length, hj.length, hlen]) hu ?_
    have : decide (ns = ms) = false := decide_eq_false fun q => hlen (by rw [q])
    rw [this] at h
    exact h
end
end Mine
namespace Mine
open PySem

section
variable {prog : Program} {w : World} {A : Around} {E : Value → Shared → Prop} {s : Shared}

theorem slice_ints {value slice : Expr} {l : Addr} {ns : List Int} {lo hi st : Option Int} {vl vu vk : Value} {ops : List Value} {Q : Value → Shared → Prop} {s : Shared} (hl : IntsIn s.heap l ns) (hz : ns.length ≤ 1000) (pl : IsPart vl lo) (pu : IsPart vu hi) (pk : IsPart vk st) (hst : st ≠ some 0)
    (h : ∀ l' h', IntsIn h' l' (pickNums ns lo hi st) → (∀ b o, s.heap.get? b = some o → h'.get? b = some o) → s.heap.get? l' = none → Q (.ref l') { s with heap := h' })
    (hs : subscripted slice false (.ref l) (.ref s.heap.objs.size) = operate ops (getItem (.ref l) (.ref s.heap.objs.size)) := by with_unfolding_all rfl)
    (ht : ∀ r, letTemporaryGo value (.ref l) r = pure () := by intro _; with_unfolding_all rfl) :
    wpAny (model prog w) A (subscriptTail value slice (.ref l) (.ref s.heap.objs.size)) Q E { s with heap := s.heap.push { cls := .type "slice", data := .fields #[vl, vu, vk] } } := by
  obtain ⟨vs, hL, hv⟩ := hl
  refine subscriptTail_ops (Heap.IsList.typeIs (s := { s with heap := s.heap.push { cls := .type "slice", data := .fields #[vl, vu, vk] } }) (hL.push _)) list_getitem_lookup
    (wpAny_getItem_list_slice (hL.push _) (Heap.IsSliceOf.new ..) pl pu pk hst ?_ ?_) hs ht
  · refine h _ _ ?_ (fun b o q => Heap.get?_push_of_some _ (Heap.get?_push_of_some _ q)) ?_
    · have := IntsIn.new (h := s.heap.push { cls := .type "slice", data := .fields #[vl, vu, vk] }) (hv.pick lo hi st)
      simpa using this
    · cases q : s.heap.get? (s.heap.push { cls := .type "slice", data := .fields #[vl, vu, vk] }).objs.size with
      | none => rfl
      | some o =>
        have q1 := Heap.lt_size q
        rw [Heap.size_push] at q1
        exact absurd q1 (Nat.not_lt.mpr (Nat.le_succ _))
  · have := hv.length; have := sizeLine_eq; simp; omega

theorem kcomp {scope : Scope} {C : Addr} {env : Env} {n : Str} {q : NameKind} (h : scope.names.lookup n = some q) : (compEnv scope C env).kindOf n = some q := h

theorem isi_bytes {x : Array UInt8} {u : Tok} {Q : Value → Shared → Prop} (h : Q (.bool true) s) : wpAny (model prog w) A (call (.builtin "isinstance") [.bytes x u, .type "bytes"]) Q E s :=
  call_isinstance (isinstance_true (Tx := "bytes") F.isi_meta_bytes F.sub_bytes_bytes) ⟨rfl, h⟩

theorem forget {h : Heap} {L : Addr} {m : Str → Option Value} (hn : h.Ns L m) : ∃ M, M = m ∧ h.Ns L M := ⟨m, rfl, hn⟩
theorem EvI.as {env : Env} {h : Heap} {e : Expr} {v v' : Int} (x : EvI prog w A env h e v) (q : v = v') : EvI prog w A env h e v' := q ▸ x

end
end Mine
namespace Mine
open PySem

/-- what a dressed text is made of: brackets, a backslash with its sign, a piece between quotation marks -/
inductive Tk where
  | op | cl
  | esc (c : Nat)
  | quo (inner : List Nat)
def Tk.cps : Tk → List Nat
  | .op => [40]
  | .cl => [41]
  | .esc c => [92, c]
  | .quo l => 34 :: (l ++ [34])
def Tk.ok : Tk → Prop
  | .quo l => ∀ c ∈ l, c ≠ 34 ∧ c ≠ 92
  | _ => True
def Tk.quoted : Tk → Bool
  | .quo _ => true
  | _ => false
def cpsOf (ts : List Tk) : List Nat := ts.flatMap Tk.cps
def strOf (ts : List Tk) : Str := ⟨(cpsOf ts).toArray⟩
def bal : List Tk → Int → Bool
  | [], n => n == 0
  | .op :: r, n => bal r (n + 1)
  | .cl :: r, n => if n - 1 < 0 then false else bal r (n - 1)
  | _ :: r, n => bal r n

theorem cpsOf_cons (t : Tk) (r : List Tk) : cpsOf (t :: r) = t.cps ++ cpsOf r := List.flatMap_cons

theorem join_empty : ∀ l : List Str, (Str.join (Str.ofString "") l).cps.toList = (l.map (·.cps.toList)).flatten
  | [] => rfl
  | [x] => by
    show x.cps.toList = ([x.cps.toList]).flatten
    simp
  | x :: y :: r => by
    show (x ++ Str.ofString "" ++ Str.join (Str.ofString "") (y :: r)).cps.toList = _
    rw [List.map_cons, List.flatten_cons, ← join_empty (y :: r)]
    show ((x.cps ++ (Str.ofString "").cps) ++ (Str.join (Str.ofString "") (y :: r)).cps).toList = _
    have : (Str.ofString "").cps = #[] := by decide
    rw [this]
    simp

theorem slice_at {x : Str} {i j : Nat} (h : i ≤ j) (hj : j ≤ x.cps.toList.length) : (Txt.slice x (some (i : Int)) (some (j : Int))).cps.toList = (x.cps.toList.drop i).take (j - i) := by
  have := eq_of_beq (slice_closes (x := x) (i := i) (j := j) ⟨by omega, by omega, by omega⟩)
  rw [this]
  have e : ((j : Int) - (i : Int)).toNat = j - i := by omega
  simp [e]
theorem slice_from {x : Str} {i : Nat} (hi : i ≤ x.cps.toList.length) : (Txt.slice x (some (i : Int)) none).cps.toList = x.cps.toList.drop i := by
  have hl : x.length = x.cps.toList.length := by simp [Str.length]
  rw [slice_from_eq (x := x) (i := i) (b := x.length) (by omega) (by omega) rfl]
  have e : ((x.length : Nat) : Int) - (i : Int) = ((x.cps.toList.length - i : Nat) : Int) := by omega
  rw [e]
  simp only [Int.toNat_natCast]
  exact List.take_of_length_le (by simp)

def innerE : List Nat → Nat → List (Nat × Str)
  | [], _ => []
  | c :: l, i => (i, ⟨#[c]⟩) :: innerE l (i + 1)
theorem escGo_inner : ∀ (l r : List Nat) (i : Nat), (∀ c ∈ l, c ≠ 92) → escGo (l ++ r) i false = innerE l i ++ escGo r (i + l.length) false
  | [], r, i, _ => by simp [innerE]
  | c :: l, r, i, h => by
    have hc : c ≠ 92 := h c (by simp)
    show (if c = 92 then escGo (l ++ r) (i + 1) true else (i, ⟨#[c]⟩) :: escGo (l ++ r) (i + 1) false) = _
    rw [if_neg hc, escGo_inner l r (i + 1) (fun c hc => h c (by simp [hc]))]
    simp [innerE]
    congr 1
    omega
theorem strip_inner (x : Str) : ∀ (l : List Nat) (i : Nat) (st : Nat × Option Nat × List Str), (∀ c ∈ l, c ≠ 34) → (innerE l i).foldl (stripStep x) st = st
  | [], _, _, _ => rfl
  | c :: l, i, st, h => by
    have hc : ¬ (⟨#[c]⟩ : Str) = ⟨#[34]⟩ := by
      intro e
      have : c = 34 := by simpa using e
      exact h c (by simp) this
    show (innerE l (i + 1)).foldl (stripStep x) (stripStep x st (i, ⟨#[c]⟩)) = st
    have : stripStep x st (i, ⟨#[c]⟩) = st := by unfold stripStep; rw [if_neg hc]
    rw [this]
    exact strip_inner x l (i + 1) st fun c hc => h c (by simp [hc])

def piled (l : List Str) : List Nat := (l.map (·.cps.toList)).flatten

theorem escGo_op (r : List Nat) (i : Nat) : escGo ((Tk.op).cps ++ r) i false = (i, ⟨#[40]⟩) :: escGo r (i + 1) false := by
  show (if (40 : Nat) = 92 then _ else _) = _
  rw [if_neg (by decide)]; rfl
theorem escGo_cl (r : List Nat) (i : Nat) : escGo ((Tk.cl).cps ++ r) i false = (i, ⟨#[41]⟩) :: escGo r (i + 1) false := by
  show (if (41 : Nat) = 92 then _ else _) = _
  rw [if_neg (by decide)]; rfl
theorem escGo_esc (c : Nat) (r : List Nat) (i : Nat) : escGo ((Tk.esc c).cps ++ r) i false = (i + 1, ⟨#[92, c]⟩) :: escGo r (i + 1 + 1) false := by
  show (if (92 : Nat) = 92 then escGo (c :: r) (i + 1) true else _) = _
  rw [if_pos rfl]; rfl
theorem escGo_quo (l : List Nat) (r : List Nat) (i : Nat) (h : ∀ c ∈ l, c ≠ 92) : escGo ((Tk.quo l).cps ++ r) i false = (i, ⟨#[34]⟩) :: (innerE l (i + 1) ++ (i + 1 + l.length, ⟨#[34]⟩) :: escGo r (i + 1 + l.length + 1) false) := by
  show (if (34 : Nat) = 92 then _ else (i, ⟨#[34]⟩) :: escGo ((l ++ [34]) ++ r) (i + 1) false) = _
  rw [if_neg (by decide), List.append_assoc, escGo_inner l _ _ h]
  congr 2

theorem drop_split {all pre mid post : List Nat} {a : Nat} (h : all = pre ++ (mid ++ post)) (ha : a ≤ pre.length) : (all.drop a).take (pre.length + mid.length - a) = (all.drop a).take (pre.length - a) ++ mid := by
  subst h
  rw [List.drop_append_of_le_length ha]
  have e1 : (pre.drop a).length = pre.length - a := List.length_drop
  have e2 : pre.length + mid.length - a = (pre.drop a).length + mid.length := by omega
  rw [e2, List.take_length_add_append, ← e1, List.take_left, List.take_left]

/-- the pieces kept so far, and the rest of the text behind the last quotation mark -/
theorem strip_fold (x : Str) : ∀ (ts : List Tk) (pre : List Nat) (a : Nat) (acc : List Str), (∀ t ∈ ts, t.ok) → x.cps.toList = pre ++ cpsOf ts → a ≤ pre.length →
    ∃ a' acc', (escGo (cpsOf ts) pre.length false).foldl (stripStep x) (a, none, acc) = (a', none, acc') ∧ a' ≤ x.cps.toList.length ∧
      piled acc' ++ x.cps.toList.drop a' = (piled acc ++ (x.cps.toList.drop a).take (pre.length - a)) ++ cpsOf (ts.filter fun t => !t.quoted)
  | [], pre, a, acc, _, hx, ha => by
    refine ⟨a, acc, rfl, ?_, ?_⟩
    · rw [hx]; simp [cpsOf]; omega
    · have : x.cps.toList = pre := by rw [hx]; simp [cpsOf]
      rw [this]
      simp [cpsOf, List.take_of_length_le]
  | t :: ts, pre, a, acc, hok, hx, ha => by
    have hts : ∀ t ∈ ts, t.ok := fun t h => hok t (by simp [h])
    rw [cpsOf_cons] at hx ⊢
    have simple : ∀ (p : Nat × Str) (n : Nat), n = t.cps.length → t.quoted = false → ¬ p.2 = ⟨#[34]⟩ → escGo (t.cps ++ cpsOf ts) pre.length false = p :: escGo (cpsOf ts) (pre.length + n) false →
        ∃ a' acc', (escGo (t.cps ++ cpsOf ts) pre.length false).foldl (stripStep x) (a, none, acc) = (a', none, acc') ∧ a' ≤ x.cps.toList.length ∧
          piled acc' ++ x.cps.toList.drop a' = (piled acc ++ (x.cps.toList.drop a).take (pre.length - a)) ++ cpsOf ((t :: ts).filter fun t => !t.quoted) := by
      intro p n hn hq hp he
      rw [he]
      have hstep : stripStep x (a, none, acc) p = (a, none, acc) := by unfold stripStep; rw [if_neg hp]
      rw [List.foldl_cons, hstep]
      have hx' : x.cps.toList = (pre ++ t.cps) ++ cpsOf ts := by rw [hx, List.append_assoc]
      obtain ⟨a', acc', h1, h2, h3⟩ := strip_fold x ts (pre ++ t.cps) a acc hts hx' (by rw [List.length_append]; omega)
      rw [List.length_append, ← hn] at h1 h3
      refine ⟨a', acc', h1, h2, ?_⟩
      rw [h3, List.filter_cons_of_pos (by rw [hq]; rfl), cpsOf_cons, hn, drop_split hx ha]
      simp [List.append_assoc]
    cases t with
    | op => exact simple _ 1 rfl rfl (show ¬ (⟨#[40]⟩ : Str) = ⟨#[34]⟩ by decide) (escGo_op _ _)
    | cl => exact simple _ 1 rfl rfl (show ¬ (⟨#[41]⟩ : Str) = ⟨#[34]⟩ by decide) (escGo_cl _ _)
    | esc c => exact simple _ 2 rfl rfl (by intro e; have := congrArg (fun s : Str => s.cps.size) e; simp at this) (escGo_esc _ _ _)
    | quo l =>
      have hl : ∀ c ∈ l, c ≠ 34 ∧ c ≠ 92 := hok (.quo l) (by simp)
      rw [escGo_quo l _ _ fun c hc => (hl c hc).2]
      have s1 : stripStep x (a, none, acc) (pre.length, ⟨#[34]⟩) = (a, some pre.length, acc) := by unfold stripStep; rw [if_pos rfl]
      rw [List.foldl_cons, s1, List.foldl_append, strip_inner x l _ _ (fun c hc => (hl c hc).1), List.foldl_cons]
      have s2 : stripStep x (a, some pre.length, acc) (pre.length + 1 + l.length, ⟨#[34]⟩) = (pre.length + 1 + l.length + 1, none, if a = pre.length then acc else acc ++ [Txt.slice x (some (a : Int)) (some ((pre.length : Nat) : Int))]) := by
        unfold stripStep; rw [if_pos rfl]
      rw [s2]
      have hx' : x.cps.toList = (pre ++ (Tk.quo l).cps) ++ cpsOf ts := by rw [hx, List.append_assoc]
      have hlen : (pre ++ (Tk.quo l).cps).length = pre.length + 1 + l.length + 1 := by simp [Tk.cps]; omega
      obtain ⟨a', acc', h1, h2, h3⟩ := strip_fold x ts (pre ++ (Tk.quo l).cps) (pre.length + 1 + l.length + 1) (if a = pre.length then acc else acc ++ [Txt.slice x (some (a : Int)) (some ((pre.length : Nat) : Int))]) hts hx' (by omega)
      rw [hlen] at h1 h3
      refine ⟨a', acc', h1, h2, ?_⟩
      rw [h3, List.filter_cons_of_neg (by simp [Tk.quoted]), Nat.sub_self, List.take_zero, List.append_nil]
      congr 1
      by_cases hap : a = pre.length
      · rw [if_pos hap, hap, Nat.sub_self, List.take_zero, List.append_nil]
      · rw [if_neg hap]
        have hle : pre.length ≤ x.cps.toList.length := by rw [hx, List.length_append]; omega
        simp only [piled, List.map_append, List.flatten_append, List.map_cons, List.map_nil, List.flatten_cons, List.flatten_nil, List.append_nil]
        rw [slice_at ha hle]

theorem no_quo : ∀ ts : List Tk, (34 : Nat) ∉ cpsOf ts → (ts.filter fun t => !t.quoted) = ts
  | [], _ => rfl
  | t :: ts, h => by
    rw [cpsOf_cons] at h
    have h1 : (34 : Nat) ∉ t.cps := fun q => h (by simp [q])
    have h2 : (34 : Nat) ∉ cpsOf ts := fun q => h (by simp [q])
    have hq : t.quoted = false := by
      cases t with
      | quo l => exact absurd (by simp [Tk.cps]) h1
      | _ => rfl
    rw [List.filter_cons_of_pos (by rw [hq]; rfl), no_quo ts h2]

theorem strip_of {ts : List Tk} (hok : ∀ t ∈ ts, t.ok) : stripOf (strOf ts) = strOf (ts.filter fun t => !t.quoted) := by
  have hcps : (strOf ts).cps.toList = cpsOf ts := by simp [strOf]
  unfold stripOf
  by_cases h : 34 ∈ (strOf ts).cps.toList
  · rw [if_pos h]
    obtain ⟨a', acc', h1, h2, h3⟩ := strip_fold (strOf ts) ts [] 0 [] hok (by rw [hcps]; rfl) (Nat.le_refl _)
    have hf : stripFold (strOf ts) (escOf (strOf ts)) = (a', none, acc') := by
      unfold stripFold escOf
      rw [hcps]
      exact h1
    rw [hf]
    dsimp only
    have hl : (strOf ts).length = (strOf ts).cps.toList.length := by simp [Str.length]
    have key : (Str.join (Str.ofString "") (if a' < (strOf ts).length then acc' ++ [Txt.slice (strOf ts) (some (a' : Int)) none] else acc')).cps.toList = cpsOf (ts.filter fun t => !t.quoted) := by
      rw [join_empty]
      have h3' : piled acc' ++ (strOf ts).cps.toList.drop a' = cpsOf (ts.filter fun t => !t.quoted) := by simpa [piled] using h3
      rw [← h3']
      by_cases hlt : a' < (strOf ts).length
      · rw [if_pos hlt]
        simp only [List.map_append, List.flatten_append, List.map_cons, List.map_nil, List.flatten_cons, List.flatten_nil, List.append_nil, piled]
        rw [slice_from h2]
      · rw [if_neg hlt]
        rw [List.drop_eq_nil_of_le (by omega), List.append_nil]
        rfl
    have : ∀ s : Str, s = ⟨s.cps.toList.toArray⟩ := fun s => by cases s; simp
    rw [this (Str.join _ _), key]
    rfl
  · rw [if_neg h, no_quo ts (by rwa [hcps] at h)]

theorem chk_go : ∀ (ts : List Tk) (i : Nat) (n : Int), (∀ t ∈ ts, t.quoted = false) → chkGo (escGo (cpsOf ts) i false) n = bal ts n
  | [], _, _, _ => rfl
  | t :: ts, i, n, h => by
    have ih := fun i n => chk_go ts i n fun t ht => h t (by simp [ht])
    rw [cpsOf_cons]
    cases t with
    | op =>
      rw [escGo_op]
      show (if (⟨#[40]⟩ : Str) = ⟨#[40]⟩ then _ else _) = _
      rw [if_pos rfl]; exact ih _ _
    | cl =>
      rw [escGo_cl]
      show (if (⟨#[41]⟩ : Str) = ⟨#[40]⟩ then _ else if (⟨#[41]⟩ : Str) = ⟨#[41]⟩ then (if n - 1 < 0 then false else chkGo _ (n - 1)) else _) = (if n - 1 < 0 then false else bal ts (n - 1))
      rw [if_neg (by decide), if_pos rfl, ih]
    | esc c =>
      rw [escGo_esc]
      have e1 : ¬ (⟨#[92, c]⟩ : Str) = ⟨#[40]⟩ := by intro e; have := congrArg (fun s : Str => s.cps.size) e; simp at this
      have e2 : ¬ (⟨#[92, c]⟩ : Str) = ⟨#[41]⟩ := by intro e; have := congrArg (fun s : Str => s.cps.size) e; simp at this
      show (if (⟨#[92, c]⟩ : Str) = ⟨#[40]⟩ then _ else if (⟨#[92, c]⟩ : Str) = ⟨#[41]⟩ then _ else chkGo _ n) = _
      rw [if_neg e1, if_neg e2]; exact ih _ _
    | quo l => exact absurd (h (.quo l) (by simp)) (by simp [Tk.quoted])

theorem bal_filter : ∀ (ts : List Tk) (n : Int), bal (ts.filter fun t => !t.quoted) n = bal ts n
  | [], _ => rfl
  | t :: ts, n => by
    cases t with
    | op => exact bal_filter ts _
    | cl =>
      show (if n - 1 < 0 then false else bal (ts.filter fun t => !t.quoted) (n - 1)) = (if n - 1 < 0 then false else bal ts (n - 1))
      rw [bal_filter ts]
    | esc c => exact bal_filter ts _
    | quo l => exact bal_filter ts _

/-- the check counts the bare brackets alone -/
theorem chk_tokens {ts : List Tk} (hok : ∀ t ∈ ts, t.ok) : chk (strOf ts) = bal ts 0 := by
  unfold chk
  rw [strip_of hok]
  unfold escOf strOf
  rw [List.toList_toArray, chk_go _ _ _ (fun t ht => by simpa using (List.mem_filter.mp ht).2), bal_filter]
end Mine
namespace Mine
open PySem

theorem plain_ne_ns {h : Heap} {D L : Addr} {items : Array Value} {m : Str → Option Value} (x : h.PlainList D items) (hn : h.Ns L m) : D ≠ L := by
  rintro rfl
  obtain ⟨n, q⟩ := x
  obtain ⟨o', _, _, ho', hd', _⟩ := hn
  rw [q] at ho'
  cases ho'
  simp at hd'
theorem IntsIn.of_plain {h : Heap} {D : Addr} {items : Array Value} {ns : List Int} (x : h.PlainList D items) (y : IntsAre items.toList ns) : IntsIn h D ns := ⟨items.toList, by simpa using x.isList, y⟩

section
variable {prog : Program} {w : World} {A : Around} {E : Value → Shared → Prop} {s : Shared}

theorem is_lt {env : Env} {l r : Expr} {pos : Pos} {whole : Sem Value} {a b : Int} {Q : Bool → Shared → Prop} (hl : EvI prog w A env s.heap l a) (hr : EvI prog w A env s.heap r b) (h : ∀ tk, Q (decide (a < b)) { s with toks := tk })
    (hm : behindInMarks .Lt r = false := by with_unfolding_all rfl) : wpAny (model prog w) A (isTrue (.Compare l [.Lt] [r] pos) env whole) Q E s :=
  wpAny_isTrue_Compare1 (hl _ _ _ rfl fun _ tk => hr { s with toks := tk } _ _ rfl fun _ _ => lt_int (wpAny_truthy_bool (h _))) hm
theorem is_gt {env : Env} {l r : Expr} {pos : Pos} {whole : Sem Value} {a b : Int} {Q : Bool → Shared → Prop} (hl : EvI prog w A env s.heap l a) (hr : EvI prog w A env s.heap r b) (h : ∀ tk, Q (decide (b < a)) { s with toks := tk })
    (hm : behindInMarks .Gt r = false := by with_unfolding_all rfl) : wpAny (model prog w) A (isTrue (.Compare l [.Gt] [r] pos) env whole) Q E s :=
  wpAny_isTrue_Compare1 (hl _ _ _ rfl fun _ tk => hr { s with toks := tk } _ _ rfl fun _ _ => gt_int (wpAny_truthy_bool (h _))) hm
theorem is_eq {env : Env} {l r : Expr} {pos : Pos} {whole : Sem Value} {a b : Int} {Q : Bool → Shared → Prop} (hl : EvI prog w A env s.heap l a) (hr : EvI prog w A env s.heap r b) (h : ∀ tk, Q (a == b) { s with toks := tk })
    (hm : behindInMarks .Eq r = false := by with_unfolding_all rfl) : wpAny (model prog w) A (isTrue (.Compare l [.Eq] [r] pos) env whole) Q E s :=
  wpAny_isTrue_Compare1 (hl _ _ _ rfl fun _ tk => hr { s with toks := tk } _ _ rfl fun _ _ => eq_int (wpAny_truthy_bool (h _))) hm

theorem append_int {env : Env} {e : Expr} {n : Str} {p1 p2 p3 p4 : Pos} {D : Addr} {m : Str → Option Value} {items : Array Value} {ds : List Int} {v : Int} {Q : Flow → Shared → Prop}
    (hk : env.scope.kind = .function) (hkn : env.kindOf n = some .local) (hn : s.heap.Ns env.locals m) (hm : m n = some (.ref D)) (hD : s.heap.PlainList D items) (hI : IntsAre items.toList ds) (hz : ds.length ≤ 10000) (he : EvI prog w A env s.heap e v)
    (h : ∀ h' tk items', h'.PlainList D items' → IntsAre items'.toList (ds ++ [v]) → Heap.SameBut D s.heap h' → Q .next { s with heap := h', toks := tk })
    (hi : interactive env = false) (hline : (p2.endLine == p3.line) = true) (hse : starEach [e] env = [(false, eval e env)] := by rfl) (hsw : swapsWith (.Call (.Attribute (.Name n p1) "append" p2) [e] [] p3) none p4.line env = pure false := by rfl)
    (hbase : attributeBase (.Name n p1) "append" env (eval (.Name n p1) env) = eval (.Name n p1) env := by rfl) (hd : (n == ("__debug__" : Str)) = false := by decide) :
    wpAny (model prog w) A (exec (.Expr (.Call (.Attribute (.Name n p1) "append" p2) [e] [] p3) p4) env) Q E s := by
  refine append_stmt hk hkn hn hm hD (he _ _ _ rfl fun t tk => ⟨items, hD, ?_, fun h' hD' hs' => h h' tk _ hD' ?_ hs'⟩) hi hline hse hsw hbase hd
  · have e1 := hI.length
    have e2 : items.toList.length = items.size := by simp
    have := sizeLine_eq; omega
  · rw [Array.toList_push]
    exact hI.append (.cons _ _ .nil)

theorem ne_empty {l b : Addr} {ns : List Int} {Q : Value → Shared → Prop} (hl : IntsIn s.heap l ns) (hb : IntsIn s.heap b []) (hu : A.units < cLine) (h : Q (.bool (!ns.isEmpty)) s) : wpAny (model prog w) A (compareOp .NotEq (.ref l) (.ref b)) Q E s := by
  obtain ⟨vs, hL, hi⟩ := hl
  obtain ⟨ws, hB, hj⟩ := hb
  have e1 := hi.length
  have e2 := hj.length
  cases ns with
  | nil =>
    exact PySem.SeqAt.RcNeAt.lists (e := fun _ => true) hL hB (by simp [e1, e2]) hu (fun j h1 _ => absurd h1 (by simp [e1])) prog w E Q (by simpa [e1] using h)
  | cons n ns =>
    exact PySem.SeqAt.RcNeAt.lists_lengths hL hB (by simp [e1, e2]) hu prog w E Q (by simpa using h)
end
end Mine
namespace Mine
open PySem

def atTurned : Nat := 8
def atCarried : Nat := 9
def atNumber : Nat := 10
def atBelow : Nat := 11

def numGo : List Int → Int → Int → Int
  | [], number, _ => number
  | b :: r, number, balls => numGo r (16 * number + (balls + b)) (balls + b)
def numOf (ns : List Int) : Int := numGo ns 0 0

theorem keeps_two {s s' : Shared} {h' : Heap} {tk : Nat} {L I : Addr} (hL : s.heap.get? L = none) (hI : s.heap.get? I = none) (x : Keeps s s') (k : ∀ b o, b ≠ L → b ≠ I → s'.heap.get? b = some o → h'.get? b = some o) : Keeps s { s' with heap := h', toks := tk } := by
  obtain ⟨h, tk', rfl, q⟩ := x
  exact ⟨h', tk, rfl, fun b o e => k b o (fun z => by rw [z, hL] at e; cases e) (fun z => by rw [z, hI] at e; cases e) (q b o e)⟩
theorem keeps_up {s s' : Shared} {h' : Heap} {tk : Nat} {L : Addr} (hL : s.heap.get? L = none) (x : Keeps s s') (k : Up L s'.heap h') : Keeps s { s' with heap := h', toks := tk } := by
  obtain ⟨h, tk', rfl, q⟩ := x
  exact ⟨h', tk, rfl, fun b o e => k b o (fun z => by rw [z, hL] at e; cases e) (q b o e)⟩
theorem keeps_get {s s' : Shared} (x : Keeps s s') {b : Addr} {o : Obj} (e : s.heap.get? b = some o) : s'.heap.get? b = some o := by
  obtain ⟨h, tk', rfl, q⟩ := x
  exact q b o e
theorem none_above {h h' : Heap} (k : ∀ b o, h.get? b = some o → h'.get? b = some o) {a : Addr} (ha : h'.objs.size ≤ a) : h.get? a = none := by
  cases q : h.get? a with
  | none => rfl
  | some o => exact absurd (Heap.lt_size (k _ _ q)) (Nat.not_lt.mpr ha)
theorem next_drop {ns : List Int} {j : Nat} {v : Int} (h : ns[j]? = some v) : ns.drop j = v :: ns.drop (j + 1) := by
  obtain ⟨hlt, rfl⟩ := List.getElem?_eq_some_iff.mp h
  exact List.drop_eq_getElem_cons hlt

theorem u1 : ¬ (Str.ofString "number" = Str.ofString "balls") := by decide
theorem u2 : ¬ (Str.ofString "number" = Str.ofString "ball") := by decide
theorem u3 : ¬ (Str.ofString "balls" = Str.ofString "ball") := by decide
theorem u4 : ¬ (Str.ofString "balls" = Str.ofString "number") := by decide
theorem u5 : ¬ (Str.ofString "boxes" = Str.ofString "number") := by decide
theorem u6 : ¬ (Str.ofString "boxes" = Str.ofString "balls") := by decide

section
variable {prog : Program} {w : World} {A : Around} {E : Value → Shared → Prop} {s : Shared}

set_option maxHeartbeats 1000000 in
theorem call_number {base : Heap} {f l : Addr} {ns : List Int} {Q : Value → Shared → Prop} (fn : FnIs base (stmtAt atNumber) f) (lim : base.NoLimit) (hb : ∀ b o, base.get? b = some o → s.heap.get? b = some o) (hh : A.handled = none) (hroom : A.depth < recursionLimit)
    (hl : IntsIn s.heap l ns) (h : ∀ t s', Keeps s s' → Q (.int (numOf ns) t) s') : wpAny (model prog w) A (call (.ref f) [.ref l]) Q E s := by
  refine enterDef (n := "boxes") hroom fn lim hb ?_ (by decide) (by decide) rfl rfl rfl fun env h₁ e1 e2 e3 e4 e5 hn hk₁ => ?_
  · rintro ⟨name, qualname, params, body, scope, globals, closure, defaults, kwdefaults, doc, pyModule, anns, code, closureTuple, builtins⟩ h1 h2 h3
    dsimp only at h1 h2 h3
    subst h1 h2 h3
    rfl
  have e : EnvFor env (stmtAt atNumber) s.heap.objs.size := ⟨e1, e2, e3, e4, e5⟩
  have hk : env.scope.kind = .function := e.kind rfl
  have kn : ∀ {n : Str}, (defScope (stmtAt atNumber)).names.lookup n = some .local → env.kindOf n = some .local := fun h => e.kindOf h
  have hh' : (A.deeper env).handled = none := hh
  have hL₀ : s.heap.get? env.locals = none := by rw [e2]; exact getAbove _
  rw [← e2] at hn
  obtain ⟨M₁, a₁, hn₁⟩ := forget hn
  have b₁ : M₁ "boxes" = some (.ref l) := by rw [a₁]; simp
  have K₁ : Keeps s { s with heap := h₁, toks := s.toks + 1 } := ⟨h₁, _, rfl, hk₁⟩
  refine wpAny_execs_cons (assign_int (v := 0) hk (kn (by decide)) hn₁ .const fun h₂ t₂ tk₂ hn₂ u₂ => ?_)
  have K₂ := keeps_up (tk := tk₂) hL₀ K₁ u₂
  refine wpAny_execs_cons (assign_int (v := 0) hk (kn (by decide)) hn₂ .const fun h₃ t₃ tk₃ hn₃ u₃ => ?_)
  have K₃ := keeps_up (tk := tk₃) hL₀ K₂ u₃
  obtain ⟨M₃, a₃, hn₃⟩ := forget hn₃
  have b₃ : M₃ "boxes" = some (.ref l) := by rw [a₃]; simp [u5, u6, b₁]
  have hl₃ : IntsIn h₃ l ns := hl.keeps fun o q => keeps_get K₃ q
  obtain ⟨vs, hL₃, hi₃⟩ := id hl₃
  refine wpAny_execs_cons (wpAny_For (nm hk (kn (by decide)) hn₃ b₃ (wpAny_pyIter_list hL₃ ?_)))
  have hI : s.heap.get? h₃.objs.size = none := none_above (fun b o q => keeps_get K₃ q) (Nat.le_refl _)
  refine loop_ints (ns := ns) (l := l) hh' hk (kn (by decide)) (fun j m s' => Keeps s s' ∧ ∃ num balls t1 t2, m "number" = some (.int num t1) ∧ m "balls" = some (.int balls t2) ∧ numGo (ns.drop j) num balls = numOf ns)
    (fun j m s₁ h' tk hJ _ _ hk' => ⟨keeps_two hL₀ hI hJ.1 hk', hJ.2⟩) (fun j m s₁ hJ => hl.keeps fun o q => keeps_get hJ.1 q) ?_ ?_ ⟨_, Heap.get?_push_size _ rfl, rfl, rfl⟩ (hn₃.push _) ⟨⟨_, _, rfl, fun b o q => Heap.get?_push_of_some _ (keeps_get K₃ q)⟩, 0, 0, t₂, t₃, by rw [a₃]; simp [u1], by rw [a₃]; simp, rfl⟩
  · rintro j v t m s₁ hv ⟨K, num, balls, t1, t2, q1, q2, q3⟩ hit hn₁
    obtain ⟨m₁, a, hn₁⟩ := forget hn₁
    have p1 : m₁ "number" = some (.int num t1) := by rw [a]; simp [u2, q1]
    have p2 : m₁ "balls" = some (.int balls t2) := by rw [a]; simp [u3, q2]
    have p3 : m₁ "ball" = some (.int v t) := by rw [a]; simp
    have hIL := iter_ne_ns hit hn₁
    refine wpAny_execs_cons (aug_add hk (kn (by decide)) hn₁ p2 (.name hk (kn (by decide)) hn₁ p3) fun h₄ t₄ tk₄ hn₄ u₄ => ?_)
    have K₄ := keeps_up (tk := tk₄) hL₀ K u₄
    obtain ⟨m₄, a₄, hn₄⟩ := forget hn₄
    have p4 : m₄ "number" = some (.int num t1) := by rw [a₄]; simp [u1, p1]
    have p5 : m₄ "balls" = some (.int (balls + v) t₄) := by rw [a₄]; simp
    refine wpAny_execs_cons (assign_int hk (kn (by decide)) hn₄ (.add (.mul .const (.name hk (kn (by decide)) hn₄ p4) (.of_left (by decide +kernel))) (.name hk (kn (by decide)) hn₄ p5)) fun h₅ t₅ tk₅ hn₅ u₅ => ?_)
    refine wpAny_execs_nil ⟨rfl, (iter_keeps hit fun o q => u₅ _ o hIL (u₄ _ o hIL q)), _, hn₅, keeps_up hL₀ K₄ u₅, 16 * num + (balls + v), balls + v, t₅, t₄, by simp, by simp [u4, p5], ?_⟩
    rw [← q3, next_drop hv]; rfl
  · rintro m' s' hn' ⟨K, num, balls, t1, t2, q1, q2, q3⟩
    rw [List.drop_length] at q3
    refine wpAny_execs_cons (wpAny_Return_some (nm hk (kn (by decide)) hn' q1 ?_))
    have : num = numOf ns := q3
    rw [this]
    exact h t1 s' K
end
end Mine
namespace Mine
open PySem

def carGo (most : Int) : List Int → Int → List Int
  | [], _ => []
  | b :: r, load => if b = 1 ∧ load < most then 0 :: carGo most r (load + 1) else if b = 0 ∧ 0 < load then 1 :: carGo most r (load - 1) else b :: carGo most r load
def carOf (most : Int) (ns : List Int) : List Int := carGo most ns 0

def carFor : Stmt := nthS (defBody (stmtAt atCarried)) 2

theorem w1 : ¬ (Str.ofString "boxes" = Str.ofString "most") := by decide
theorem w2 : ¬ (Str.ofString "boxes" = Str.ofString "load") := by decide
theorem w3 : ¬ (Str.ofString "boxes" = Str.ofString "left") := by decide
theorem w4 : ¬ (Str.ofString "most" = Str.ofString "load") := by decide
theorem w5 : ¬ (Str.ofString "most" = Str.ofString "left") := by decide
theorem w6 : ¬ (Str.ofString "most" = Str.ofString "ball") := by decide
theorem w7 : ¬ (Str.ofString "load" = Str.ofString "left") := by decide
theorem w8 : ¬ (Str.ofString "load" = Str.ofString "ball") := by decide
theorem w9 : ¬ (Str.ofString "left" = Str.ofString "ball") := by decide
theorem w10 : ¬ (Str.ofString "left" = Str.ofString "load") := by decide
theorem w11 : ¬ (Str.ofString "ball" = Str.ofString "load") := by decide

/-- what the carrier's loop keeps: the names, the list so far -/
structure CarJ (s : Shared) (most : Int) (ns : List Int) (D : Addr) (j : Nat) (m : Str → Option Value) (s' : Shared) : Prop where
  keep : Keeps s s'
  names : ∃ load t1 t2, m "load" = some (.int load t1) ∧ m "most" = some (.int most t2) ∧ m "left" = some (.ref D) ∧
    ∃ items done, s'.heap.PlainList D items ∧ IntsAre items.toList done ∧ done.length = j ∧ done ++ carGo most (ns.drop j) load = carOf most ns

section
variable {prog : Program} {w : World} {A : Around} {E : Value → Shared → Prop} {s : Shared}

set_option maxHeartbeats 2000000 in
theorem car_turn {env : Env} {L l I D : Addr} {ns : List Int} {most : Int} {j : Nat} {v : Int} {t : Tok} {m : Str → Option Value} {s₁ : Shared} (e : EnvFor env (stmtAt atCarried) L) (hz : ns.length ≤ 1000) (hL₀ : s.heap.get? L = none) (hD₀ : s.heap.get? D = none)
    (hv : ns[j]? = some v) (hJ : CarJ s most ns D j m s₁) (hit : s₁.heap.IsListIter I l (j + 1)) (hn : s₁.heap.Ns env.locals (fun y => if y = Str.ofString "ball" then some (.int v t) else m y)) :
    wpAny (model prog w) A (execs (forBody carFor) env) (fun f s₂ => f = .next ∧ s₂.heap.IsListIter I l (j + 1) ∧ ∃ m₂, s₂.heap.Ns env.locals m₂ ∧ CarJ s most ns D (j + 1) m₂ s₂) E s₁ := by
  have hk : env.scope.kind = .function := e.kind rfl
  have kn : ∀ {n : Str}, (defScope (stmtAt atCarried)).names.lookup n = some .local → env.kindOf n = some .local := fun h => e.kindOf h
  obtain ⟨K, load, t1, t2, q1, q2, q3, items, done, q4, q5, q6, q7⟩ := hJ
  obtain ⟨m₁, a, hn⟩ := forget hn
  have p1 : m₁ "load" = some (.int load t1) := by rw [a]; simp [w8, q1]
  have p2 : m₁ "most" = some (.int most t2) := by rw [a]; simp [w6, q2]
  have p3 : m₁ "left" = some (.ref D) := by rw [a]; simp [w9, q3]
  have p4 : m₁ "ball" = some (.int v t) := by rw [a]; simp
  have hIL := iter_ne_ns hit hn
  have hDI := plain_ne_iter q4 hit
  have hDL := plain_ne_ns q4 hn
  have hlt : j < ns.length := (List.getElem?_eq_some_iff.mp hv).1
  rw [next_drop hv] at q7
  have go : carGo most (v :: ns.drop (j + 1)) load = if v = 1 ∧ load < most then 0 :: carGo most (ns.drop (j + 1)) (load + 1) else if v = 0 ∧ 0 < load then 1 :: carGo most (ns.drop (j + 1)) (load - 1) else v :: carGo most (ns.drop (j + 1)) load := rfl
  rw [go] at q7
  -- the end of each arm: the sign is laid behind the others
  have fin : ∀ (h₂ : Heap) (tk₂ : Nat) (m₂ : Str → Option Value) (x load' : Int) (t' : Tok) (items' : Array Value) (h₃ : Heap) (tk₃ : Nat), Up env.locals s₁.heap h₂ → h₂.Ns env.locals m₂ → m₂ "load" = some (.int load' t') → m₂ "most" = some (.int most t2) → m₂ "left" = some (.ref D) →
      (done ++ [x]) ++ carGo most (ns.drop (j + 1)) load' = carOf most ns → h₃.PlainList D items' → IntsAre items'.toList (done ++ [x]) → Heap.SameBut D h₂ h₃ →
      (Flow.next = .next ∧ ({ s₁ with heap := h₃, toks := tk₃ } : Shared).heap.IsListIter I l (j + 1) ∧ ∃ m₂, ({ s₁ with heap := h₃, toks := tk₃ } : Shared).heap.Ns env.locals m₂ ∧ CarJ s most ns D (j + 1) m₂ { s₁ with heap := h₃, toks := tk₃ }) := by
    intro h₂ tk₂ m₂ x load' t' items' h₃ tk₃ u₂ hn₂ r1 r2 r3 r4 hD₃ hI₃ hs₃
    refine ⟨rfl, iter_keeps hit fun o q => hs₃.extBut _ o (Ne.symm hDI) (u₂ _ o hIL q), m₂, hn₂.sameBut hs₃ (Ne.symm hDL), ⟨?_, load', t', t2, r1, r2, r3, items', done ++ [x], hD₃, hI₃, by rw [List.length_append, q6]; rfl, r4⟩⟩
    refine keeps_two (by rw [e.locals]; exact hL₀) hD₀ K fun b o x1 x2 q => hs₃.extBut b o x2 (u₂ b o x1 q)
  refine wpAny_execs_cons (wpAny_If (isTrue_and (is_eq (.name hk (kn (by decide)) hn p4) .const fun tk₁ => ?_)))
  by_cases hv1 : v = 1
  · rw [show (v == 1) = true by simpa using hv1, if_pos rfl]
    refine isTrue_and (is_lt (.name hk (kn (by decide)) hn p1) (.name hk (kn (by decide)) hn p2) fun tk₁' => ?_)
    by_cases hlm : load < most
    · rw [show decide (load < most) = true by simpa using hlm, if_pos rfl]
      refine isTrue_and_nil ?_
      rw [if_pos rfl]
      rw [if_pos ⟨hv1, hlm⟩] at q7
      refine wpAny_execs_cons (aug_add hk (kn (by decide)) hn p1 .const fun h₂ t₂ tk₂ hn₂ u₂ => ?_)
      obtain ⟨m₂, a₂, hn₂⟩ := forget hn₂
      have r1 : m₂ "load" = some (.int (load + 1) t₂) := by rw [a₂]; simp
      have r2 : m₂ "most" = some (.int most t2) := by rw [a₂]; simp [w4, p2]
      have r3 : m₂ "left" = some (.ref D) := by rw [a₂]; simp [w10, p3]
      refine wpAny_execs_cons (append_int hk (kn (by decide)) hn₂ r3 (q4.at fun o q => u₂ _ o hDL q) q5 (by omega) .const (fun h₃ tk₃ items' hD₃ hI₃ hs₃ => wpAny_execs_nil (wpAny_execs_nil ?_)) e.inter rfl)
      exact fin h₂ tk₂ m₂ 0 (load + 1) t₂ items' h₃ tk₃ u₂ hn₂ r1 r2 r3 (by rw [List.append_assoc]; exact q7) hD₃ hI₃ hs₃
    · rw [show decide (load < most) = false by simpa using hlm, if_neg Bool.false_ne_true, if_neg Bool.false_ne_true]
      rw [if_neg fun x => hlm x.2, if_neg (by rintro ⟨rfl, _⟩; cases hv1)] at q7
      refine wpAny_execs_cons (wpAny_If (isTrue_and (is_eq (.name hk (kn (by decide)) hn p4) .const fun tk₂ => ?_)))
      rw [show (v == 0) = false by simp [hv1], if_neg Bool.false_ne_true, if_neg Bool.false_ne_true]
      refine wpAny_execs_cons (append_int hk (kn (by decide)) hn p3 q4 q5 (by omega) (.name hk (kn (by decide)) hn p4) (fun h₃ tk₃ items' hD₃ hI₃ hs₃ => wpAny_execs_nil (wpAny_execs_nil (wpAny_execs_nil ?_))) e.inter rfl)
      exact fin s₁.heap 0 m₁ v load t1 items' h₃ tk₃ .refl hn p1 p2 p3 (by rw [List.append_assoc]; exact q7) hD₃ hI₃ hs₃
  · rw [show (v == 1) = false by simpa using hv1, if_neg Bool.false_ne_true, if_neg Bool.false_ne_true]
    rw [if_neg fun x => hv1 x.1] at q7
    refine wpAny_execs_cons (wpAny_If (isTrue_and (is_eq (.name hk (kn (by decide)) hn p4) .const fun tk₂ => ?_)))
    by_cases hv0 : v = 0
    · rw [show (v == 0) = true by simpa using hv0, if_pos rfl]
      refine isTrue_and (is_gt (.name hk (kn (by decide)) hn p1) .const fun tk₁' => ?_)
      by_cases hl0 : 0 < load
      · rw [show decide (0 < load) = true by simpa using hl0, if_pos rfl]
        refine isTrue_and_nil ?_
        rw [if_pos rfl]
        rw [if_pos ⟨hv0, hl0⟩] at q7
        refine wpAny_execs_cons (aug_sub hk (kn (by decide)) hn p1 .const fun h₂ t₂ tk₂ hn₂ u₂ => ?_)
        obtain ⟨m₂, a₂, hn₂⟩ := forget hn₂
        have r1 : m₂ "load" = some (.int (load - 1) t₂) := by rw [a₂]; simp
        have r2 : m₂ "most" = some (.int most t2) := by rw [a₂]; simp [w4, p2]
        have r3 : m₂ "left" = some (.ref D) := by rw [a₂]; simp [w10, p3]
        refine wpAny_execs_cons (append_int hk (kn (by decide)) hn₂ r3 (q4.at fun o q => u₂ _ o hDL q) q5 (by omega) .const (fun h₃ tk₃ items' hD₃ hI₃ hs₃ => wpAny_execs_nil (wpAny_execs_nil (wpAny_execs_nil ?_))) e.inter rfl)
        exact fin h₂ tk₂ m₂ 1 (load - 1) t₂ items' h₃ tk₃ u₂ hn₂ r1 r2 r3 (by rw [List.append_assoc]; exact q7) hD₃ hI₃ hs₃
      · rw [show decide (0 < load) = false by simpa using hl0, if_neg Bool.false_ne_true, if_neg Bool.false_ne_true]
        rw [if_neg fun x => hl0 x.2] at q7
        refine wpAny_execs_cons (append_int hk (kn (by decide)) hn p3 q4 q5 (by omega) (.name hk (kn (by decide)) hn p4) (fun h₃ tk₃ items' hD₃ hI₃ hs₃ => wpAny_execs_nil (wpAny_execs_nil (wpAny_execs_nil ?_))) e.inter rfl)
        exact fin s₁.heap 0 m₁ v load t1 items' h₃ tk₃ .refl hn p1 p2 p3 (by rw [List.append_assoc]; exact q7) hD₃ hI₃ hs₃
    · rw [show (v == 0) = false by simpa using hv0, if_neg Bool.false_ne_true, if_neg Bool.false_ne_true]
      rw [if_neg fun x => hv0 x.1] at q7
      refine wpAny_execs_cons (append_int hk (kn (by decide)) hn p3 q4 q5 (by omega) (.name hk (kn (by decide)) hn p4) (fun h₃ tk₃ items' hD₃ hI₃ hs₃ => wpAny_execs_nil (wpAny_execs_nil (wpAny_execs_nil ?_))) e.inter rfl)
      exact fin s₁.heap 0 m₁ v load t1 items' h₃ tk₃ .refl hn p1 p2 p3 (by rw [List.append_assoc]; exact q7) hD₃ hI₃ hs₃

set_option maxHeartbeats 1000000 in
theorem call_carried {base : Heap} {f l : Addr} {ns : List Int} {most : Int} {tm : Tok} {Q : Value → Shared → Prop} (fn : FnIs base (stmtAt atCarried) f) (lim : base.NoLimit) (hb : ∀ b o, base.get? b = some o → s.heap.get? b = some o) (hh : A.handled = none) (hroom : A.depth < recursionLimit)
    (hl : IntsIn s.heap l ns) (hz : ns.length ≤ 1000) (h : ∀ D s', Keeps s s' → IntsIn s'.heap D (carOf most ns) → Q (.ref D) s') : wpAny (model prog w) A (call (.ref f) [.ref l, .int most tm]) Q E s := by
  refine enterDefs (binds := [("boxes", .ref l), ("most", .int most tm)]) hroom fn lim hb ?_ (by decide) ?_ rfl rfl rfl fun env h₁ e1 e2 e3 e4 e5 hn hk₁ => ?_
  · rintro ⟨name, qualname, params, body, scope, globals, closure, defaults, kwdefaults, doc, pyModule, anns, code, closureTuple, builtins⟩ h1 h2 h3
    dsimp only at h1 h2 h3
    subst h1 h2 h3
    rfl
  · intro y hy
    rcases List.mem_cons.mp hy with rfl | hy
    · show (defScope (stmtAt atCarried)).names.lookup (Str.ofString "boxes") = _; decide
    rcases List.mem_cons.mp hy with rfl | hy
    · show (defScope (stmtAt atCarried)).names.lookup (Str.ofString "most") = _; decide
    cases hy
  have e : EnvFor env (stmtAt atCarried) s.heap.objs.size := ⟨e1, e2, e3, e4, e5⟩
  have hk : env.scope.kind = .function := e.kind rfl
  have kn : ∀ {n : Str}, (defScope (stmtAt atCarried)).names.lookup n = some .local → env.kindOf n = some .local := fun h => e.kindOf h
  have hh' : (A.deeper env).handled = none := hh
  have hL₀ : s.heap.get? env.locals = none := by rw [e2]; exact getAbove _
  rw [← e2] at hn
  obtain ⟨M₁, a₁, hn₁⟩ := forget hn
  have b₁ : M₁ "boxes" = some (.ref l) := by rw [a₁]; simp [bindFn, List.lookup, beqF w1]
  have c₁ : M₁ "most" = some (.int most tm) := by rw [a₁]; simp [bindFn, List.lookup]
  have K₁ : Keeps s { s with heap := h₁, toks := s.toks + [((Str.ofString "boxes"), Value.ref l), ((Str.ofString "most"), Value.int most tm)].length } := ⟨h₁, _, rfl, hk₁⟩
  refine wpAny_execs_cons (assign_int (v := 0) hk (kn (by decide)) hn₁ .const fun h₂ t₂ tk₂ hn₂ u₂ => ?_)
  have K₂ := keeps_up (tk := tk₂) hL₀ K₁ u₂
  obtain ⟨M₂, a₂, hn₂⟩ := forget hn₂
  -- left
  refine wpAny_execs_cons (wpAny_Assign_Name (wpAny_List_spliced (Calls.spliced_nil ⟨Nat.zero_le _, wpAny_storeName_local (kn (by decide)) (hn₂.push _) (fun h₃ hn₃ hs₃ => ?_) (plainScope hk)⟩)))
  replace hs₃ : Heap.SameBut env.locals (h₂.push { cls := .type "list", data := .seq ([] : List Value).toArray }) h₃ := hs₃
  have hDL : h₂.objs.size ≠ env.locals := Nat.ne_of_gt hn₂.lt
  have hD₃ : h₃.PlainList h₂.objs.size #[] := ⟨0, hs₃.extBut _ _ hDL (Heap.get?_push_size _ rfl)⟩
  have hD₀ : s.heap.get? h₂.objs.size = none := none_above (fun b o q => keeps_get K₂ q) (Nat.le_refl _)
  have K₃ : Keeps s { s with heap := h₃, toks := tk₂ + 1 } := keeps_up (s' := { s with heap := h₂, toks := tk₂ }) hL₀ K₂ fun b o hb q => hs₃.extBut b o hb (Heap.get?_push_of_some _ q)
  obtain ⟨M₃, a₃, hn₃⟩ := forget hn₃
  have b₃ : M₃ "boxes" = some (.ref l) := by rw [a₃, a₂]; simp [w2, w3, b₁]
  have c₃ : M₃ "most" = some (.int most tm) := by rw [a₃, a₂]; simp [w4, w5, c₁]
  have d₃ : M₃ "load" = some (.int 0 t₂) := by rw [a₃, a₂]; simp [w7]
  have f₃ : M₃ "left" = some (.ref h₂.objs.size) := by rw [a₃]; simp
  have hl₃ : IntsIn h₃ l ns := hl.keeps fun o q => keeps_get K₃ q
  obtain ⟨vs, hL₃, hi₃⟩ := id hl₃
  refine wpAny_execs_cons (wpAny_For (nm hk (kn (by decide)) hn₃ b₃ (wpAny_pyIter_list hL₃ ?_)))
  have hI : s.heap.get? h₃.objs.size = none := none_above (fun b o q => keeps_get K₃ q) (Nat.le_refl _)
  refine loop_ints (ns := ns) (l := l) hh' hk (kn (by decide)) (CarJ s most ns h₂.objs.size) ?_ (fun j m s₁ hJ => hl.keeps fun o q => keeps_get hJ.keep q)
    (fun j v t m s₁ hv hJ hit hn => car_turn e hz (e2 ▸ hL₀) hD₀ hv hJ hit hn) ?_ ⟨_, Heap.get?_push_size _ rfl, rfl, rfl⟩ (hn₃.push _) ⟨⟨_, _, rfl, fun b o q => Heap.get?_push_of_some _ (keeps_get K₃ q)⟩, 0, t₂, tm, d₃, c₃, f₃, #[], [], hD₃.at fun o q => Heap.get?_push_of_some _ q, .nil, rfl, rfl⟩
  · rintro j m s₁ h' tk ⟨K, load, t1, t2, q1, q2, q3, items, done, q4, q5, q6, q7⟩ hit hnn hk'
    exact ⟨keeps_two hL₀ hI K hk', load, t1, t2, q1, q2, q3, items, done, q4.at fun o q => hk' _ o (plain_ne_ns q4 hnn) (plain_ne_iter q4 hit) q, q5, q6, q7⟩
  · rintro m' s' hn' ⟨K, load, t1, t2, q1, q2, q3, items, done, q4, q5, q6, q7⟩
    rw [List.drop_length] at q7
    refine wpAny_execs_cons (wpAny_Return_some (nm hk (kn (by decide)) hn' q3 ?_))
    have : done = carOf most ns := by rw [← q7]; simp [carGo]
    exact h _ s' K (.of_plain q4 (this ▸ q5))
end
end Mine
namespace Mine
open PySem

def belGo : List Int → Int → Int → List Int → List Int
  | [], _, _, ls => ls
  | b :: r, h, t, ls => belGo r (h + (1 - 2 * b)) (if h + (1 - 2 * b) > t then h + (1 - 2 * b) else t)
      (if ls ≠ [] ∨ h + (1 - 2 * b) < (if h + (1 - 2 * b) > t then h + (1 - 2 * b) else t) then ls ++ [65 + (if h + (1 - 2 * b) > t then h + (1 - 2 * b) else t) - (h + (1 - 2 * b))] else ls)
def belOf (ns : List Int) : List Int := belGo ns 0 0 []

def belFor : Stmt := nthS (defBody (stmtAt atBelow)) 3

theorem t1 : ¬ (Str.ofString "boxes" = Str.ofString "height") := by decide
theorem t2 : ¬ (Str.ofString "boxes" = Str.ofString "top") := by decide
theorem t3 : ¬ (Str.ofString "boxes" = Str.ofString "letters") := by decide
theorem t4 : ¬ (Str.ofString "height" = Str.ofString "top") := by decide
theorem t5 : ¬ (Str.ofString "height" = Str.ofString "letters") := by decide
theorem t6 : ¬ (Str.ofString "height" = Str.ofString "ball") := by decide
theorem t7 : ¬ (Str.ofString "top" = Str.ofString "letters") := by decide
theorem t8 : ¬ (Str.ofString "top" = Str.ofString "ball") := by decide
theorem t9 : ¬ (Str.ofString "top" = Str.ofString "height") := by decide
theorem t10 : ¬ (Str.ofString "letters" = Str.ofString "ball") := by decide
theorem t11 : ¬ (Str.ofString "letters" = Str.ofString "height") := by decide
theorem t12 : ¬ (Str.ofString "letters" = Str.ofString "top") := by decide

structure BelowNames (base : Heap) (f : Addr) : Prop where
  def_ : FnIs base (stmtAt atBelow) f
  lim : base.NoLimit
  glob : ∃ mg, base.Ns mainGlobals mg ∧ mg "max" = none ∧ mg "bytes" = none
  blt : ∃ mb, base.Ns builtinsNs mb ∧ mb "max" = some (.builtin "max") ∧ mb "bytes" = some (.type "bytes")

structure BelJ (s : Shared) (ns : List Int) (D : Addr) (j : Nat) (m : Str → Option Value) (s' : Shared) : Prop where
  keep : Keeps s s'
  names : ∃ hi to u1 u2, m "height" = some (.int hi u1) ∧ m "top" = some (.int to u2) ∧ m "letters" = some (.ref D) ∧
    ∃ items ls, s'.heap.PlainList D items ∧ IntsAre items.toList ls ∧ ls.length ≤ j ∧ belGo (ns.drop j) hi to ls = belOf ns

section
variable {prog : Program} {w : World} {A : Around} {E : Value → Shared → Prop} {s : Shared}

set_option maxHeartbeats 2000000 in
theorem bel_turn {env : Env} {L l I D f : Addr} {base : Heap} {ns : List Int} {j : Nat} {v : Int} {t : Tok} {m : Str → Option Value} {s₁ : Shared} (e : EnvFor env (stmtAt atBelow) L) (N : BelowNames base f) (hh : A.handled = none) (hu : A.units < cLine) (hb : ∀ b o, base.get? b = some o → s.heap.get? b = some o)
    (hz : ns.length ≤ 1000) (hvb : ∀ n ∈ ns, -1000 ≤ n ∧ n ≤ 1000) (hL₀ : s.heap.get? L = none) (hD₀ : s.heap.get? D = none)
    (hv : ns[j]? = some v) (hJ : BelJ s ns D j m s₁) (hit : s₁.heap.IsListIter I l (j + 1)) (hn : s₁.heap.Ns env.locals (fun y => if y = Str.ofString "ball" then some (.int v t) else m y)) :
    wpAny (model prog w) A (execs (forBody belFor) env) (fun f s₂ => f = .next ∧ s₂.heap.IsListIter I l (j + 1) ∧ ∃ m₂, s₂.heap.Ns env.locals m₂ ∧ BelJ s ns D (j + 1) m₂ s₂) E s₁ := by
  have hk : env.scope.kind = .function := e.kind rfl
  have kn : ∀ {n : Str} {q : NameKind}, (defScope (stmtAt atBelow)).names.lookup n = some q → env.kindOf n = some q := fun {n q} hq => by
    show env.scope.names.lookup n = _
    rw [e.scope]; exact hq
  obtain ⟨mg, hg, hg1, hg2⟩ := N.glob
  obtain ⟨mb, hbl, hbl1, hbl2⟩ := N.blt
  obtain ⟨K, hi, to, u1, u2, q1, q2, q3, items, ls, q4, q5, q6, q7⟩ := hJ
  obtain ⟨m₁, a, hn⟩ := forget hn
  have p1 : m₁ "height" = some (.int hi u1) := by rw [a]; simp [t6, q1]
  have p2 : m₁ "top" = some (.int to u2) := by rw [a]; simp [t8, q2]
  have p3 : m₁ "letters" = some (.ref D) := by rw [a]; simp [t10, q3]
  have p4 : m₁ "ball" = some (.int v t) := by rw [a]; simp
  have hIL := iter_ne_ns hit hn
  have hDI := plain_ne_iter q4 hit
  have hDL := plain_ne_ns q4 hn
  have hlt : j < ns.length := (List.getElem?_eq_some_iff.mp hv).1
  have hvv := hvb v (List.mem_of_getElem? hv)
  have hLs : s.heap.get? env.locals = none := by rw [e.locals]; exact hL₀
  rw [next_drop hv] at q7
  obtain ⟨hi', ehi⟩ : ∃ x, x = hi + (1 - 2 * v) := ⟨_, rfl⟩
  have go : belGo (v :: ns.drop (j + 1)) hi to ls = belGo (ns.drop (j + 1)) hi' (if hi' > to then hi' else to) (if ls ≠ [] ∨ hi' < (if hi' > to then hi' else to) then ls ++ [65 + (if hi' > to then hi' else to) - hi'] else ls) := by rw [ehi]; rfl
  rw [go] at q7
  -- height
  refine wpAny_execs_cons (aug_add hk (kn (by decide)) hn p1 (.sub .const (.mul .const (.name hk (kn (by decide)) hn p4) (.of_left (by decide +kernel)))) fun h₂ t₂ tk₂ hn₂ u₂ => ?_)
  obtain ⟨m₂, a₂, hn₂⟩ := forget hn₂
  have r1 : m₂ "height" = some (.int hi' t₂) := by rw [a₂, ehi]; simp
  have r2 : m₂ "top" = some (.int to u2) := by rw [a₂]; simp [t9, p2]
  have r3 : m₂ "letters" = some (.ref D) := by rw [a₂]; simp [t11, p3]
  have K₂ := keeps_up (tk := tk₂) hLs K u₂
  -- top
  have hb₂ : ∀ b o, base.get? b = some o → h₂.get? b = some o := fun b o q => keeps_get K₂ (hb b o q)
  refine wpAny_execs_cons (wpAny_Assign_Name (Call_Name2 ?_))
  refine Calls.Name_function_global hk (kn (by decide)) (Calls.loadGlobal_builtin (e.globals ▸ hg.keeps hb₂) hg1 (e.builtins ▸ hbl.keeps hb₂) hbl1 ?_)
  refine Calls.callWith_builtin rfl (Calls.evalArgs_plain (Calls.spliced_cons ?_))
  refine nm hk (kn (by decide)) hn₂ r2 (Calls.spliced_cons ?_)
  refine nm hk (kn (by decide)) hn₂ r1 (Calls.spliced_nil ?_)
  refine max_two_ints hh fun h₃ tk₃ keep₃ => ?_
  replace keep₃ : ∀ b o, h₂.get? b = some o → h₃.get? b = some o := keep₃
  obtain ⟨to', eto⟩ : ∃ x, x = (if hi' > to then hi' else to) := ⟨_, rfl⟩
  rw [← eto] at q7
  have emax : ∃ t', (if hi' > to then Value.int hi' t₂ else .int to u2) = .int to' t' := by
    by_cases hc : hi' > to
    · exact ⟨t₂, by rw [if_pos hc, eto, if_pos hc]⟩
    · exact ⟨u2, by rw [if_neg hc, eto, if_neg hc]⟩
  obtain ⟨t₃, emax⟩ := emax
  rw [emax]
  refine wpAny_storeName_local (kn (by decide)) (hn₂.keeps keep₃) (fun h₄ hn₄ hs₄ => ?_) (plainScope hk)
  replace hs₄ : Heap.SameBut env.locals h₃ h₄ := hs₄
  have u₄ : Up env.locals s₁.heap h₄ := (u₂.trans (.of_keep keep₃)).trans (.of_same hs₄)
  obtain ⟨m₄, a₄, hn₄⟩ := forget hn₄
  have v1 : m₄ "height" = some (.int hi' t₂) := by rw [a₄]; simp [t4, r1]
  have v2 : m₄ "top" = some (.int to' t₃) := by rw [a₄]; simp
  have v3 : m₄ "letters" = some (.ref D) := by rw [a₄]; simp [t12, r3]
  have hD₄ : h₄.PlainList D items := q4.at fun o q => u₄ _ o hDL q
  have hIn₄ : IntsIn h₄ D ls := .of_plain hD₄ q5
  have K₄ : ∀ tk, Keeps s { s₁ with heap := h₄, toks := tk } := fun tk => keeps_up hLs K u₄
  -- the append
  have app : ∀ (h₅ : Heap) (tk₅ : Nat), (∀ b o, h₄.get? b = some o → h₅.get? b = some o) → (ls ≠ [] ∨ hi' < to') →
      wpAny (model prog w) A (execs (match nthS (forBody belFor) 2 with | .If _ b _ _ => b | _ => []) env) (fun f s₂ => f = .next ∧ s₂.heap.IsListIter I l (j + 1) ∧ ∃ m₂, s₂.heap.Ns env.locals m₂ ∧ BelJ s ns D (j + 1) m₂ s₂) E { s₁ with heap := h₅, toks := tk₅ } := by
    intro h₅ tk₅ keep₅ hc
    rw [if_pos hc] at q7
    have hn₅ := hn₄.keeps keep₅
    refine wpAny_execs_cons (append_int hk (kn (by decide)) hn₅ v3 (hD₄.at fun o q => keep₅ _ o q) q5 (by omega) (.sub (.add .const (.name hk (kn (by decide)) hn₅ v2)) (.name hk (kn (by decide)) hn₅ v1)) (fun h₆ tk₆ items' hD₆ hI₆ hs₆ => wpAny_execs_nil ?_) e.inter rfl)
    replace hs₆ : Heap.SameBut D h₅ h₆ := hs₆
    refine ⟨rfl, iter_keeps hit fun o q => hs₆.extBut _ o (Ne.symm hDI) (keep₅ _ o (u₄ _ o hIL q)), m₄, hn₅.sameBut hs₆ (Ne.symm hDL), ⟨?_, hi', to', t₂, t₃, v1, v2, v3, items', ls ++ [65 + to' - hi'], hD₆, hI₆, by rw [List.length_append]; simp; omega, q7⟩⟩
    exact keeps_two (s' := s₁) hLs hD₀ K fun b o x1 x2 q => hs₆.extBut b o x2 (keep₅ b o (u₄ b o x1 q))
  have hlen := hIn₄
  refine wpAny_execs_cons (wpAny_If (isTrue_or (wpAny_isTrue_Compare1 (nm hk (kn (by decide)) hn₄ v3 (wpAny_List_spliced (Calls.spliced_nil ⟨Nat.zero_le _, ne_empty (hIn₄.keeps fun o q => Heap.get?_push_of_some _ q) (IntsIn.new .nil) hu (wpAny_truthy_bool ?_)⟩))))))
  have up₅ : ∀ (o' : Obj) b o, h₄.get? b = some o → (h₄.push o').get? b = some o := fun o' b o q => Heap.get?_push_of_some _ q
  cases hls : ls with
  | cons x xs =>
    rw [← hls]
    rw [show (!ls.isEmpty) = true by rw [hls]; rfl, if_pos rfl, if_pos rfl]
    refine wpAny_mono (app _ _ (up₅ _) (.inl (by rw [hls]; simp))) (fun f s₂ hf => ?_) fun _ _ q => q
    obtain ⟨rfl, hf⟩ := hf
    exact wpAny_execs_nil ⟨rfl, hf⟩
  | nil =>
    rw [show (!([] : List Int).isEmpty) = false from rfl, if_neg Bool.false_ne_true]
    refine isTrue_or (is_lt (.name hk (kn (by decide)) ((hn₄.push _)) v1) (.name hk (kn (by decide)) ((hn₄.push _)) v2) fun tk₅ => ?_)
    by_cases hc : hi' < to'
    · rw [show decide (hi' < to') = true by simpa using hc, if_pos rfl, if_pos rfl]
      refine wpAny_mono (app _ _ (up₅ _) (.inr hc)) (fun f s₂ hf => ?_) fun _ _ q => q
      obtain ⟨rfl, hf⟩ := hf
      exact wpAny_execs_nil ⟨rfl, hf⟩
    · rw [show decide (hi' < to') = false by simpa using hc, if_neg Bool.false_ne_true]
      refine isTrue_or_nil ?_
      rw [if_neg Bool.false_ne_true]
      refine wpAny_execs_nil (wpAny_execs_nil ?_)
      rw [if_neg (by rintro (x | x); exact x hls; exact hc x)] at q7
      refine ⟨rfl, iter_keeps hit fun o q => up₅ _ _ o (u₄ _ o hIL q), m₄, hn₄.push _, ⟨?_, hi', to', t₂, t₃, v1, v2, v3, items, ls, hD₄.at fun o q => up₅ _ _ o q, q5, by omega, q7⟩⟩
      exact keeps_up (s' := s₁) hLs K (u₄.trans (.of_keep (up₅ _)))

set_option maxHeartbeats 1000000 in
theorem call_below {base : Heap} {f l : Addr} {ns : List Int} {Q : Value → Shared → Prop} (N : BelowNames base f) (hb : ∀ b o, base.get? b = some o → s.heap.get? b = some o) (hh : A.handled = none) (hroom : A.depth < recursionLimit) (hu : A.units + 3 < cLine)
    (hl : IntsIn s.heap l ns) (hz : ns.length ≤ 1000) (hvb : ∀ n ∈ ns, -1000 ≤ n ∧ n ≤ 1000) (hr : ∀ n ∈ belOf ns, 0 ≤ n ∧ n < 256) (h : ∀ t s', Keeps s s' → Q (.bytes (byteArr (belOf ns)) t) s') : wpAny (model prog w) A (call (.ref f) [.ref l]) Q E s := by
  refine enterDef (n := "boxes") hroom N.def_ N.lim hb ?_ (by decide) (by decide) rfl rfl rfl fun env h₁ e1 e2 e3 e4 e5 hn hk₁ => ?_
  · rintro ⟨name, qualname, params, body, scope, globals, closure, defaults, kwdefaults, doc, pyModule, anns, code, closureTuple, builtins⟩ h1 h2 h3
    dsimp only at h1 h2 h3
    subst h1 h2 h3
    rfl
  have e : EnvFor env (stmtAt atBelow) s.heap.objs.size := ⟨e1, e2, e3, e4, e5⟩
  have hk : env.scope.kind = .function := e.kind rfl
  have kn : ∀ {n : Str} {q : NameKind}, (defScope (stmtAt atBelow)).names.lookup n = some q → env.kindOf n = some q := fun {n q} hq => by
    show env.scope.names.lookup n = _
    rw [e.scope]; exact hq
  have hh' : (A.deeper env).handled = none := hh
  have hL₀ : s.heap.get? env.locals = none := by rw [e2]; exact getAbove _
  rw [← e2] at hn
  obtain ⟨M₁, a₁, hn₁⟩ := forget hn
  have b₁ : M₁ "boxes" = some (.ref l) := by rw [a₁]; simp
  have K₁ : Keeps s { s with heap := h₁, toks := s.toks + 1 } := ⟨h₁, _, rfl, hk₁⟩
  refine wpAny_execs_cons (assign_int (v := 0) hk (kn (by decide)) hn₁ .const fun h₂ t₂ tk₂ hn₂ u₂ => ?_)
  have K₂ := keeps_up (tk := tk₂) hL₀ K₁ u₂
  obtain ⟨M₂, a₂, hn₂⟩ := forget hn₂
  refine wpAny_execs_cons (assign_int (v := 0) hk (kn (by decide)) hn₂ .const fun h₃ t₃ tk₃ hn₃ u₃ => ?_)
  have K₃ := keeps_up (tk := tk₃) hL₀ K₂ u₃
  obtain ⟨M₃, a₃, hn₃⟩ := forget hn₃
  refine wpAny_execs_cons (wpAny_Assign_Name (wpAny_List_spliced (Calls.spliced_nil ⟨Nat.zero_le _, wpAny_storeName_local (kn (by decide)) (hn₃.push _) (fun h₄ hn₄ hs₄ => ?_) (plainScope hk)⟩)))
  replace hs₄ : Heap.SameBut env.locals (h₃.push { cls := .type "list", data := .seq ([] : List Value).toArray }) h₄ := hs₄
  have hDL : h₃.objs.size ≠ env.locals := Nat.ne_of_gt hn₃.lt
  have hD₄ : h₄.PlainList h₃.objs.size #[] := ⟨0, hs₄.extBut _ _ hDL (Heap.get?_push_size _ rfl)⟩
  have hD₀ : s.heap.get? h₃.objs.size = none := none_above (fun b o q => keeps_get K₃ q) (Nat.le_refl _)
  have K₄ : Keeps s { s with heap := h₄, toks := tk₃ + 1 } := keeps_up (s' := { s with heap := h₃, toks := tk₃ }) hL₀ K₃ fun b o hb q => hs₄.extBut b o hb (Heap.get?_push_of_some _ q)
  obtain ⟨M₄, a₄, hn₄⟩ := forget hn₄
  have b₄ : M₄ "boxes" = some (.ref l) := by rw [a₄, a₃, a₂]; simp [t1, t2, t3, b₁]
  have c₄ : M₄ "height" = some (.int 0 t₂) := by rw [a₄, a₃, a₂]; simp [t4, t5]
  have d₄ : M₄ "top" = some (.int 0 t₃) := by rw [a₄, a₃]; simp [t7]
  have f₄ : M₄ "letters" = some (.ref h₃.objs.size) := by rw [a₄]; simp
  have hl₄ : IntsIn h₄ l ns := hl.keeps fun o q => keeps_get K₄ q
  obtain ⟨vs, hL₄, hi₄⟩ := id hl₄
  obtain ⟨mg, hg, hg1, hg2⟩ := N.glob
  obtain ⟨mb, hbl, hbl1, hbl2⟩ := N.blt
  refine wpAny_execs_cons (wpAny_For (nm hk (kn (by decide)) hn₄ b₄ (wpAny_pyIter_list hL₄ ?_)))
  have hI : s.heap.get? h₄.objs.size = none := none_above (fun b o q => keeps_get K₄ q) (Nat.le_refl _)
  refine loop_ints (ns := ns) (l := l) hh' hk (kn (by decide)) (BelJ s ns h₃.objs.size) ?_ (fun j m s₁ hJ => hl.keeps fun o q => keeps_get hJ.keep q)
    (fun j v t m s₁ hv hJ hit hn => bel_turn e N hh' hu hb hz hvb (e2 ▸ hL₀) hD₀ hv hJ hit hn) ?_ ⟨_, Heap.get?_push_size _ rfl, rfl, rfl⟩ (hn₄.push _) ⟨⟨_, _, rfl, fun b o q => Heap.get?_push_of_some _ (keeps_get K₄ q)⟩, 0, 0, t₂, t₃, c₄, d₄, f₄, #[], [], hD₄.at fun o q => Heap.get?_push_of_some _ q, .nil, Nat.le_refl _, rfl⟩
  · rintro j m s₁ h' tk ⟨K, hi, to, u1, u2, q1, q2, q3, items, ls, q4, q5, q6, q7⟩ hit hnn hk'
    exact ⟨keeps_two hL₀ hI K hk', hi, to, u1, u2, q1, q2, q3, items, ls, q4.at fun o q => hk' _ o (plain_ne_ns q4 hnn) (plain_ne_iter q4 hit) q, q5, q6, q7⟩
  · rintro m' s' hn' ⟨K, hi, to, u1, u2, q1, q2, q3, items, ls, q4, q5, q6, q7⟩
    rw [List.drop_length] at q7
    have els : ls = belOf ns := q7
    have hb' : ∀ b o, base.get? b = some o → s'.heap.get? b = some o := fun b o q => keeps_get K (hb b o q)
    refine wpAny_execs_cons (wpAny_Return_some (Call_Name1 ?_))
    refine Calls.Name_function_global hk (kn (by decide)) (Calls.loadGlobal_builtin (e3 ▸ hg.keeps hb') hg2 (e4 ▸ hbl.keeps hb') hbl2 ?_)
    refine PyProof.Rows.callWith_type rfl (Calls.evalArgs_plain (Calls.spliced_cons ?_))
    refine nm hk (kn (by decide)) hn' q3 (Calls.spliced_nil ?_)
    refine call_bytes_ints (vs := items.toList) (by simpa using q4.isList) (els ▸ q5) hr ?_ hh' fun h₆ t₆ tk₆ keep₆ => ?_
    · have e1 := q5.length
      rw [e1]; have := sizeLine_eq; omega
    · obtain ⟨hx, tkx, rfl, kx⟩ := K
      exact h t₆ _ ⟨h₆, _, rfl, fun b o q => keep₆ b o (kx b o q)⟩
end
end Mine
namespace Mine
open PySem

/-- a list of texts in a heap -/
def StrsIn (h : Heap) (l : Addr) (xs : List Str) : Prop := ∃ vs, h.IsList l vs.toArray ∧ StrsAre vs xs
theorem StrsIn.keeps {h h' : Heap} {l : Addr} {xs : List Str} (x : StrsIn h l xs) (k : ∀ o, h.get? l = some o → h'.get? l = some o) : StrsIn h' l xs :=
  let ⟨vs, ⟨o, ho, r⟩, q⟩ := x; ⟨vs, ⟨o, k o ho, r⟩, q⟩
theorem strs_get {vs : List Value} {xs : List Str} (x : StrsAre vs xs) : ∀ (j : Nat) (y : Str), xs[j]? = some y → ∃ t, vs[j]? = some (Value.str y t) := by
  induction x with
  | nil => intro j y h; cases j <;> cases h
  | cons z t _ ih =>
    intro j y h
    cases j with
    | zero => cases h; exact ⟨t, rfl⟩
    | succ j => exact ih j y h
theorem strs_len {vs : List Value} {xs : List Str} (x : StrsAre vs xs) : vs.length = xs.length := by
  induction x with
  | nil => rfl
  | cons z t _ ih => simp [ih]

section
variable {prog : Program} {w : World} {A : Around} {E : Value → Shared → Prop} {s : Shared}

/-- the frame of a def, some of its parameters seen by the defs within it -/
theorem enterCells {st : Stmt} {f : Addr} {base : Heap} {vs : List Value} {binds : List (Str × Value)} {cs : Addr → List (Str × Addr)} {Q : Value → Shared → Prop} (hroom : A.depth < recursionLimit) (fn : FnIs base st f) (hl : base.NoLimit) (hb : ∀ b o, base.get? b = some o → s.heap.get? b = some o)
    (hbind : ∀ fd : FuncData, fd.params = defArgs st → fd.defaults = .none → fd.kwdefaults = .none → bindArgs fd ⟨vs, []⟩ = pure binds)
    (hcells : ∀ L, cellsFrom L (defScope st).names [] = cs L) (hkind : ∀ L, ∀ x ∈ binds, (defScope st).names.lookup x.1 = some .local ∨ ((defScope st).names.lookup x.1 = some .cell ∧ ((cs L).lookup x.1).isSome = true))
    (hco : (defScope st).isCoroutine = false) (hgen : (defScope st).isGenerator = false) (hk : (defScope st).kind = .function)
    (h : ∀ env h₁ tk, env.scope = defScope st → env.locals = s.heap.objs.size → env.globals = mainGlobals → env.builtins = builtinsNs → interactive env = false → env.cells = cs (s.heap.objs.size + 1) →
      (∀ n c, env.cells.lookup n = some c → c ≠ s.heap.objs.size ∧ s.heap.get? c = none ∧ h₁.IsCell c (bindC (fun n => (defScope st).names.lookup n) binds (fun _ => none) n)) → (∀ n c n' c', env.cells.lookup n = some c → env.cells.lookup n' = some c' → n ≠ n' → c ≠ c') →
      h₁.Ns s.heap.objs.size (bindL (fun n => (defScope st).names.lookup n) binds (fun _ => none)) → (∀ b o, s.heap.get? b = some o → h₁.get? b = some o) →
      wpAny (model prog w) (A.deeper env) (execs (defBody st) env) (fun fl s' => Q (match fl with | .ret v => v | _ => .none) s') (fun _ _ => False) { s with heap := h₁, toks := tk }) :
    wpAny (model prog w) A (call (.ref f) vs) Q E s := by
  obtain ⟨o, fd, h1, h2, h3, h4, h5, h6, h7, h8, h9, h10, h11⟩ := fn.out
  have hcs : ∀ L, cellsFrom L fd.scope.names [] = cs L := fun L => by rw [h3, hcells]
  refine wpAny_call (codeAny_call_cells (binds := binds) hroom (hb _ _ h1) h2 (hl.keeps hb) (h11.keeps hb) h4 (hbind fd h5 h9 h10) h6 ?_ (fun s₁ x => ?_) (by rw [h3]; exact hco) (by rw [h3]; exact hgen) (by rw [h3]; exact hk))
  · intro y hy
    rw [hcs, h3]
    exact hkind _ y hy
  · obtain ⟨h₁, tk, rfl⟩ := x.toInCall.same
    have ek : (callEnvC fd s.heap.objs.size f).kindOf = fun n => (defScope st).names.lookup n := by
      funext n
      show fd.scope.names.lookup n = _
      rw [h3]
    have hn := x.toInCall.ns
    rw [ek] at hn
    refine wpAny_mono (h (callEnvC fd s.heap.objs.size f) h₁ tk h3 rfl h7 h8 ?_ (hcs _) (fun n c hc => ⟨Nat.ne_of_gt (x.above n c (mem_of_lookup hc)), ?_, ek ▸ x.cell n c hc⟩) (fun n c n' c' hc hc' hne e => hne ?_) hn x.toInCall.keep) (fun fl s' q => q) fun _ _ q => q.elim
    · show interactive (callEnvC fd s.heap.objs.size f) = false
      unfold interactive callEnvC newEnv
      dsimp only
      rw [h3, hk]
      rfl
    · have ha : s.heap.objs.size < c := x.above n c (mem_of_lookup hc)
      cases q : s.heap.get? c with
      | none => rfl
      | some o => exact absurd (Heap.lt_size q) (Nat.not_lt.mpr (Nat.le_of_lt ha))
    · exact name_of_addr x.apart (mem_of_lookup hc) (e ▸ mem_of_lookup hc')

theorem EvI.itemC {env : Env} {h : Heap} {n : Str} {slice : Expr} {p pos : Pos} {c l : Addr} {ns : List Int} {i : Int} (hk : env.scope.kind = .function) (hl : env.kindOf n = some .cell) (hc : env.cells.lookup n = some c) (hcl : h.IsCell c (some (.ref l))) (hi : IntsIn h l ns)
    (hs : EvI prog w A env h slice i) (h1 : -(ns.length : Int) ≤ i) (h2 : i < ns.length) (hz : ns.length ≤ 1000)
    (hss : ∀ u, subscripted slice false (.ref l) (.int i u) = operate [.ref l, .int i u] (getItem (.ref l) (.int i u)) := by intro _; with_unfolding_all rfl) (hd : (n == ("__debug__" : Str)) = false := by decide) :
    EvI prog w A env h (.Subscript (.Name n p) slice pos) (itemAt ns i) := by
  refine fun s E Q e hQ => Subscript_ (wpAny_Name (wpAny_loadName_cell hk hl hc (e ▸ hcl) (hs s E _ e fun u tk => ?_)) hd)
  exact list_item (s := { s with toks := tk }) (e ▸ hi) h1 h2 hz (fun t => hQ t tk) (hss u)

theorem is_chain {env : Env} {l r1 r2 : Expr} {pos : Pos} {whole : Sem Value} {a b c : Int} {Q : Bool → Shared → Prop} (hl : EvI prog w A env s.heap l a) (h1 : EvI prog w A env s.heap r1 b) (h2 : EvI prog w A env s.heap r2 c)
    (h : ∀ tk, Q (decide (a < b) && decide (b < c)) { s with toks := tk }) (hm : lastMarks [.Lt, .Lt] [r1, r2] = false := by with_unfolding_all rfl) : wpAny (model prog w) A (isTrue (.Compare l [.Lt, .Lt] [r1, r2] pos) env whole) Q E s := by
  refine isTrue_chain (hl _ _ _ rfl fun _ tk => test_link (h1 { s with toks := tk } _ _ rfl fun _ tk₁ => lt_int (wpAny_truthy_bool ?_))) hm
  by_cases hab : a < b
  · rw [show decide (a < b) = true by simpa using hab, if_pos rfl]
    refine test_last (h2 { s with toks := tk₁ } _ _ rfl fun _ tk₂ => lt_int (wpAny_truthy_bool ?_))
    have := h tk₂
    rwa [show decide (a < b) = true by simpa using hab, Bool.true_and] at this
  · rw [show decide (a < b) = false by simpa using hab, if_neg Bool.false_ne_true]
    have := h tk₁
    rwa [show decide (a < b) = false by simpa using hab, Bool.false_and] at this

theorem call_extend {D b : Addr} {its its2 : Array Value} {ns ms : List Int} {Q : Value → Shared → Prop} (hD : s.heap.PlainList D its) (hb : s.heap.PlainList b its2) (hi : IntsAre its.toList ns) (hj : IntsAre its2.toList ms) (hz : ns.length + ms.length ≤ 10000)
    (h : ∀ h' its', h'.PlainList D its' → IntsAre its'.toList (ns ++ ms) → Heap.SameBut D s.heap h' → Q .none { s with heap := h' }) : wpAny (model prog w) A (call (.builtin "list.extend") [.ref D, .ref b]) Q E s := by
  obtain ⟨n, hD⟩ := hD
  obtain ⟨n2, hb⟩ := hb
  have hsz : its.size + its2.size ≤ sizeLine := by
    have e1 := hi.length; have e2 := hj.length
    simp only [Array.length_toList] at e1 e2
    have := sizeLine_eq; omega
  refine call_meets PySem.F.slot_list_extend ⟨_, hD, rfl⟩ PySem.F.entry_list_extend (PySem.F.args_list_extend_2 _ _) (AutoSeq1.list_extend_list_list_0 D its n b its2 n2 (extend_door hsz) (Nat.le_trans (Nat.le_add_right _ _) hsz)) ⟨hD, hb, ?_⟩
  have ho' : (s.heap.update D (Obj.mapSeq fun x => x ++ its2)).get? D = some { cls := .type "list", data := .seq (its ++ its2) (if (its ++ its2).size == its.size then n else n + 1) } := by
    rw [Heap.get?_update_self _ hD (by rw [mapSeq_app]; rfl), mapSeq_app]
  exact h _ (its ++ its2) ⟨_, ho'⟩ (by rw [Array.toList_append]; exact hi.append hj) (Heap.SameBut.update ..)
end
end Mine
namespace Mine
open PySem

theorem rep_ints {vs : List Value} {ns : List Int} (h : IntsAre vs ns) : ∀ k, IntsAre (List.replicate k vs).flatten (List.replicate k ns).flatten
  | 0 => .nil
  | k + 1 => by
    rw [List.replicate_succ, List.replicate_succ, List.flatten_cons, List.flatten_cons]
    exact h.append (rep_ints h k)
theorem strs_append {vs ws : List Value} {xs ys : List Str} (h : StrsAre vs xs) (k : StrsAre ws ys) : StrsAre (vs ++ ws) (xs ++ ys) := by
  induction h with
  | nil => exact k
  | cons y t _ ih => exact .cons y t ih
theorem rep_strs {vs : List Value} {ns : List Str} (h : StrsAre vs ns) : ∀ k, StrsAre (List.replicate k vs).flatten (List.replicate k ns).flatten
  | 0 => .nil
  | k + 1 => by
    rw [List.replicate_succ, List.replicate_succ, List.flatten_cons, List.flatten_cons]
    exact strs_append h (rep_strs h k)

section
variable {prog : Program} {w : World} {A : Around} {E : Value → Shared → Prop} {s : Shared}

/-- a list times an int; one more new list, D, stays as it is -/
theorem mul_items {h₀ : Heap} {L D l : Addr} {m : Str → Option Value} {dits items : Array Value} {x : Int} {u : Tok} {Q : Value → Shared → Prop} (hn : s.heap.Ns L m) (keep : ∀ b o, h₀.get? b = some o → s.heap.get? b = some o) (hL : h₀.objs.size ≤ L)
    (hD : s.heap.PlainList D dits) (hD₀ : h₀.get? D = none) (hl : s.heap.PlainList l items) (hne : items.isEmpty = false) (hlo : -1000 ≤ x) (hhi : x ≤ 1000) (hz : items.size ≤ 1000)
    (h : ∀ h', h'.Ns L m → (∀ b o, h₀.get? b = some o → h'.get? b = some o) → h'.PlainList D dits → h'.PlainList s.heap.objs.size (List.replicate x.toNat items.toList).flatten.toArray → Q (.ref s.heap.objs.size) { s with heap := h' }) :
    wpAny (model prog w) A (binaryOp .Mult (.ref l) (.int x u)) Q E s := by
  have hDL := plain_ne_ns hD hn
  obtain ⟨n, hl⟩ := hl
  obtain ⟨nd, hD⟩ := hD
  have F : Fr h₀ L s.heap m := ⟨hn, keep, hL⟩
  have N : News h₀ L s.heap [(D, { cls := .type "list", data := .seq dits nd })] := fun p hp => by
    rw [List.mem_singleton.mp hp]
    exact ⟨hD, hDL, hD₀⟩
  refine mul_list F N hl (by omega) (by omega) ?_ fun h' F' N' => ?_
  · have : items.size * x.toNat ≤ 1000 * 1000 := Nat.mul_le_mul hz (by omega)
    omega
  · have hI := (N' _ (.head _)).1
    rw [hne] at hI
    simp only [Bool.false_eq_true, if_false, listMul_foldl] at hI
    have hD' := (N' _ (.tail _ (.head _))).1
    refine h h' F'.ns F'.keep ⟨nd, hD'⟩ ⟨0, ?_⟩
    simpa using hI

/-- two lists, one behind the other -/
theorem add_items {l b : Addr} {its its2 : Array Value} {Q : Value → Shared → Prop} (hl : s.heap.PlainList l its) (hb : s.heap.PlainList b its2) (hz : its.size + its2.size ≤ 10000)
    (h : ∀ h', h'.PlainList s.heap.objs.size (its.toList ++ its2.toList).toArray → (∀ b o, s.heap.get? b = some o → h'.get? b = some o) → Q (.ref s.heap.objs.size) { s with heap := h' }) : wpAny (model prog w) A (binaryOp .Add (.ref l) (.ref b)) Q E s := by
  obtain ⟨n, ho⟩ := hl
  obtain ⟨n2, ho2⟩ := hb
  have e : its ++ its2 = (its.toList ++ its2.toList).toArray := by simp
  refine concat_meets ⟨_, ho, rfl⟩ ⟨_, ho2, rfl⟩ noFill_list_add seq_list_add PySem.F.slot_list_add PySem.F.entry_list_add (PySem.F.args_list_add_2 _ _) (list_addW l b its its2 n n2 _ _ _ _ (by have := sizeLine_eq; omega)) ⟨ho, ho2, ?_⟩
  rw [e]
  exact h _ ⟨0, Heap.get?_push_size _ rfl⟩ fun b o q => Heap.get?_push_of_some _ q

theorem slice_items {value slice : Expr} {l : Addr} {items : Array Value} {lo hi st : Option Int} {vl vu vk : Value} {ops : List Value} {Q : Value → Shared → Prop} {s : Shared} (hl : s.heap.IsList l items) (hz : items.size ≤ 1000) (pl : IsPart vl lo) (pu : IsPart vu hi) (pk : IsPart vk st) (hst : st ≠ some 0)
    (h : ∀ l' h', h'.PlainList l' (slicePick items lo hi st) → (∀ b o, s.heap.get? b = some o → h'.get? b = some o) → s.heap.get? l' = none → Q (.ref l') { s with heap := h' })
    (hs : subscripted slice false (.ref l) (.ref s.heap.objs.size) = operate ops (getItem (.ref l) (.ref s.heap.objs.size)) := by with_unfolding_all rfl)
    (ht : ∀ r, letTemporaryGo value (.ref l) r = pure () := by intro _; with_unfolding_all rfl) :
    wpAny (model prog w) A (subscriptTail value slice (.ref l) (.ref s.heap.objs.size)) Q E { s with heap := s.heap.push { cls := .type "slice", data := .fields #[vl, vu, vk] } } := by
  refine subscriptTail_ops (Heap.IsList.typeIs (s := { s with heap := s.heap.push { cls := .type "slice", data := .fields #[vl, vu, vk] } }) (hl.push _)) list_getitem_lookup
    (wpAny_getItem_list_slice (hl.push _) (Heap.IsSliceOf.new ..) pl pu pk hst ?_ ?_) hs ht
  · refine h _ _ ⟨0, Heap.get?_push_size _ rfl⟩ (fun b o q => Heap.get?_push_of_some _ (Heap.get?_push_of_some _ q)) ?_
    cases q : s.heap.get? (s.heap.push { cls := .type "slice", data := .fields #[vl, vu, vk] }).objs.size with
    | none => rfl
    | some o =>
      have q1 := Heap.lt_size q
      rw [Heap.size_push] at q1
      exact absurd q1 (Nat.not_lt.mpr (Nat.le_succ _))
  · have := sizeLine_eq; omega

/-- len(name) -/
theorem EvI.len {env : Env} {h base : Heap} {n : Str} {p1 p2 pos : Pos} {D : Addr} {items : Array Value} {m mg mb : Str → Option Value} (hk : env.scope.kind = .function) (hl : env.kindOf n = some .local) (hg0 : env.kindOf "len" = some .globalImplicit) (hn : h.Ns env.locals m) (hm : m n = some (.ref D)) (hD : h.PlainList D items) (hz : items.size ≤ 10000)
    (hg : base.Ns env.globals mg) (hg1 : mg "len" = none) (hbl : base.Ns env.builtins mb) (hbl1 : mb "len" = some (.builtin "len")) (hb : ∀ b o, base.get? b = some o → h.get? b = some o) (hd : (n == ("__debug__" : Str)) = false := by decide) :
    EvI prog w A env h (.Call (.Name "len" p1) [.Name n p2] [] pos) (items.size : Int) := by
  intro s E Q e hQ
  subst e
  refine Call_Name1 (Calls.Name_function_global hk hg0 (Calls.loadGlobal_builtin (hg.keeps hb) hg1 (hbl.keeps hb) hbl1 (Calls.callWith_builtin rfl (Calls.evalArgs_plain (Calls.spliced_cons (nm hk hl hn hm (Calls.spliced_nil (Calls.call_len_list hD.isList (by omega) (hQ _ _))) hd))))))
end
end Mine
namespace Mine
open PySem

/-- the items that the places 0, 1, .. give -/
def ItemsBy (F : Nat → Value → Prop) (cnt : Nat) (items : Array Value) : Prop := items.size = cnt ∧ ∀ j, j < cnt → ∃ v, items[j]? = some v ∧ F j v

theorem itemsBy_of {F : Nat → Value → Prop} {cnt : Nat} {vs : List Value} {ys : Array Value} (hlen : vs.length = cnt) (hvs : ∀ (j : Nat) (v : Value), vs[j]? = some v → ∃ t, v = Value.int ((0 : Int) + (j : Int) * 1) t)
    (hF : Paired (fun (v y : Value) => ∃ (j : Nat) (t : Tok), v = Value.int (j : Int) t ∧ F j y) vs ys.toList) : ItemsBy F cnt ys := by
  have l := hF.length
  refine ⟨by simpa [hlen] using l.symm, fun j hj => ?_⟩
  have hj' : j < ys.toList.length := by rw [← l, hlen]; exact hj
  obtain ⟨v, h1, i, t, h2, h3⟩ := paired_get hF (j := j) (b := ys.toList[j]) (by rw [List.getElem?_eq_getElem hj'])
  obtain ⟨t', h4⟩ := hvs j v h1
  rw [h2] at h4
  have : i = j := by
    have := (Value.int.inj h4).1
    omega
  subst this
  refine ⟨_, ?_, h3⟩
  rw [← Array.getElem?_toList, List.getElem?_eq_getElem hj']

theorem lookup_map_kind (g : Str → NameKind → NameKind) : ∀ (names : List (Str × NameKind)) (x : Str), (names.map fun p => (p.1, g p.1 p.2)).lookup x = (names.lookup x).map (g x)
  | [], _ => rfl
  | (n, k) :: r, x => by
    rw [List.map_cons, List.lookup_cons, List.lookup_cons]
    cases hx : x == n with
    | true =>
      have : x = n := by simpa using hx
      subst this; rfl
    | false => exact lookup_map_kind g r x
theorem relabel_lookup {scope : Scope} {env : Env} {cl : List (Str × Addr)} {C : Addr} {n : Str} {k : NameKind} (h : scope.names.lookup n = some k) :
    (compEnvC scope cl C env).kindOf n = some (if (k == .free && env.scope.kind == .function && env.kindOf n == some .cell) = true then .cell else k) := by
  show (relabel scope env).names.lookup n = _
  have e : (relabel scope env).names = scope.names.map fun p => (p.1, (fun n k => if (k == NameKind.free && env.scope.kind == .function && env.kindOf n == some .cell) = true then NameKind.cell else k) p.1 p.2) := by
    unfold relabel
    refine List.map_congr_left fun p _ => ?_
    obtain ⟨n, k⟩ := p
    dsimp only
    split <;> rfl
  rw [e]
  refine (lookup_map_kind (fun n k => if (k == NameKind.free && env.scope.kind == .function && env.kindOf n == some .cell) = true then NameKind.cell else k) scope.names n).trans ?_
  rw [h]
  rfl
theorem walks_bound {prog : Program} {w : World} {A : Around} {I : Addr} {fp wr : List Addr} {n : Nat} {P : Nat → Value → Prop} {St : Nat → Heap → Prop} (W : Walks prog w A I fp wr n P St) : Walks prog w A I fp wr n (fun i v => i < n ∧ P i v) St where
  sub := W.sub
  frame := W.frame
  item := fun i s Q E hi st hQ => W.item i s Q E hi st fun v h' tk hP => hQ v h' tk ⟨hi, hP⟩
  done := W.done
  self := W.self
theorem relabel_free {scope : Scope} {env : Env} {cl : List (Str × Addr)} {C : Addr} {n : Str} (h : scope.names.lookup n = some .free) (hk : env.scope.kind = .function) (hc : env.kindOf n = some .cell) : (compEnvC scope cl C env).kindOf n = some .cell := by
  rw [relabel_lookup h, if_pos (by rw [hk, hc]; rfl)]
theorem relabel_local {scope : Scope} {env : Env} {cl : List (Str × Addr)} {C : Addr} {n : Str} (h : scope.names.lookup n = some .local) : (compEnvC scope cl C env).kindOf n = some .local := by
  rw [relabel_lookup h, if_neg (by simp)]

theorem closureFor_1 {scope : Scope} {env : Env} {k x : Str} {c : Addr} (hsn : scope.names = [(Str.ofString ".0", .local), (k, .local), (x, .free)]) (hc : env.cells.lookup x = some c) : closureFor scope env = pure [(x, c)] := by
  unfold closureFor
  rw [hsn]
  simp only [List.forIn_cons, List.forIn_nil]
  unfold cellOf
  rw [hc]
  rfl
theorem closureFor_2 {scope : Scope} {env : Env} {k x z : Str} {c d : Addr} (hsn : scope.names = [(Str.ofString ".0", .local), (k, .local), (x, .free), (z, .free)]) (hc : env.cells.lookup x = some c) (hd : env.cells.lookup z = some d) : closureFor scope env = pure [(z, d), (x, c)] := by
  unfold closureFor
  rw [hsn]
  simp only [List.forIn_cons, List.forIn_nil]
  unfold cellOf
  rw [hc, hd]
  rfl

section
variable {prog : Program} {w : World} {A : Around} {E : Value → Shared → Prop} {s : Shared}

/-- what range(cnt) gives to a comprehension -/
theorem range_src {env : Env} {base : Heap} {elt : Expr} {cnt : Nat} {k : Str} {p9 p10 p11 : Pos} {c2 : Nat} {scope : Scope} {cl : List (Str × Addr)} {mg mb : Str → Option Value} {F : Nat → Value → Prop} {Q : Value → Shared → Prop}
    (hh : A.handled = none) (hk : env.scope.kind = .function) (hr : env.kindOf "range" = some .globalImplicit)
    (hbl : base.Ns env.builtins mb) (hb1 : mb "range" = some (.type "range")) (hg : base.Ns env.globals mg) (hg1 : mg "range" = none) (hb : ∀ b o, base.get? b = some o → s.heap.get? b = some o) (hcnt : cnt ≤ 1000)
    (hel : ∀ C j s₃ m₃ t E', j < cnt → (∀ b o, s.heap.get? b = some o → s₃.heap.get? b = some o) → s₃.heap.Ns C m₃ → m₃ k = some (.int ((j : Nat) : Int) t) → wpAny (model prog w) A (eval elt (compEnvC scope cl C env)) (fun y s₄ => F j y ∧ Keeps s₃ s₄) E' s₃)
    (h : ∀ s₂ I fp wr n P St, (∃ h' tk, s₂ = { s with heap := h', toks := tk }) → (∀ b o, s.heap.get? b = some o → s₂.heap.get? b = some o ∧ b ∉ wr) → Walks prog w A I fp wr n P St → n ≤ sizeLine → St 0 s₂.heap → (∀ b ∈ fp, b < s₂.heap.objs.size) →
      QuietOnC prog w A env scope cl k [] elt wr P (fun _ => true) (fun v y => ∃ (j : Nat) (t : Tok), v = Value.int (j : Int) t ∧ F j y) s₂ →
      (∀ (vs : List Value) (ys : Array Value), vs.length = n → (∀ j v, vs[j]? = some v → P j v) → Paired (fun (v y : Value) => ∃ (j : Nat) (t : Tok), v = Value.int (j : Int) t ∧ F j y) (vs.filter fun _ => true) ys.toList → ItemsBy F cnt ys) → Q (.ref I) s₂) :
    wpAny (model prog w) A (eval (.Call (.Name "range" p9) [.Constant (.int (cnt : Int)) c2 p10] [] p11) env) (fun xv s₁ => wpAny (model prog w) A (pyIter xv) Q E s₁) E s := by
  refine Call_Name1 (Calls.Name_function_global hk hr (Calls.loadGlobal_builtin (hg.keeps hb) hg1 (hbl.keeps hb) hb1 (PyProof.Rows.callWith_type rfl (Calls.evalArgs_plain (Calls.spliced_cons (wpAny_Constant_int (Calls.spliced_nil (call_range_1 ?_))))))))
  refine wpAny_pyIter_range (IsRange.new ..) (small_one (by decide) (by decide) (by omega) (by omega)) ?_
  have up : ∀ b o, s.heap.get? b = some o → ((s.heap.push { cls := .type "range", data := .fields #[.int 0 (s.toks + 1), .int cnt s.toks, .int 1 (s.toks + 1 + 1)] }).push { cls := .type "range_iterator", data := .fields #[rawInt 0, rawInt (Builtin.Range.rangeSize 0 cnt 1), rawInt 1] }).get? b = some o :=
    fun b o q => Heap.get?_push_of_some _ (Heap.get?_push_of_some _ q)
  have hrs : Builtin.Range.rangeSize 0 (cnt : Int) 1 = (cnt : Int) := by rw [rangeSize_one]; split <;> omega
  have nin : ∀ b o, s.heap.get? b = some o → b ∉ [(s.heap.push { cls := .type "range", data := .fields #[.int 0 (s.toks + 1), .int cnt s.toks, .int 1 (s.toks + 1 + 1)] }).objs.size] := fun b o q hb' => by
    have q1 := Heap.lt_size q
    rw [List.mem_singleton.mp hb', Heap.size_push] at q1
    exact absurd q1 (Nat.not_lt.mpr (Nat.le_succ _))
  refine h _ _ _ _ cnt _ _ ⟨_, _, rfl⟩ (fun b o q => ⟨up b o q, nin b o q⟩) (walks_bound (Walks.range hh _ 0 1 cnt)) (by have := sizeLine_eq; omega) ?_ ?_ ?_ ?_
  · show IsRangeIter _ _ _ _ _
    have := Heap.get?_push_size (s.heap.push { cls := .type "range", data := .fields #[.int 0 (s.toks + 1), .int cnt s.toks, .int 1 (s.toks + 1 + 1)] }) (o := { cls := .type "range_iterator", data := .fields #[rawInt 0, rawInt (Builtin.Range.rangeSize 0 cnt 1), rawInt 1] }) rfl
    rw [hrs] at this
    rw [hrs]
    simpa using this
  · intro b hb'
    rw [List.mem_singleton.mp hb']
    simp only [Heap.size_push]
    exact Nat.lt_succ_self _
  · refine ⟨fun _ _ _ _ _ _ _ _ _ _ _ _ => wpAny_tests_nil ⟨rfl, keeps_refl _⟩, ?_⟩
    rintro C i v s₃ m₃ E' hC ⟨hi, t, rfl⟩ - hn₃ hm₃ keep₃ -
    have up₃ : ∀ b o, s.heap.get? b = some o → s₃.heap.get? b = some o := fun b o q => keep₃ b o (nin b o q) (up b o q)
    refine wpAny_mono (hel C i s₃ m₃ t E' hi up₃ hn₃ (by rw [hm₃]; congr 2; omega)) (fun y s₄ hy => ?_) fun _ _ q => q
    exact ⟨⟨i, t, by congr 1; omega, hy.1⟩, hy.2⟩
  · intro vs ys hlen hvs hF
    rw [List.filter_eq_self.mpr (fun _ _ => rfl)] at hF
    exact itemsBy_of hlen (fun j v hj => (hvs j v hj).2) hF
end
end Mine
namespace Mine
open PySem

section
variable {prog : Program} {w : World} {A : Around} {E : Value → Shared → Prop} {s : Shared}

/-- [elt for k in range(cnt)] -/
theorem comp_range {env : Env} {base : Heap} {elt : Expr} {cnt : Nat} {k : Str} {p8 p9 p10 p11 p12 : Pos} {c2 : Nat} {scope : Scope} {cl : List (Str × Addr)} {mg mb : Str → Option Value} {F : Nat → Value → Prop} {Q : Value → Shared → Prop}
    (hh : A.handled = none) (hk : env.scope.kind = .function) (hr : env.kindOf "range" = some .globalImplicit)
    (hbl : base.Ns env.builtins mb) (hb1 : mb "range" = some (.type "range")) (hg : base.Ns env.globals mg) (hg1 : mg "range" = none) (hb : ∀ b o, base.get? b = some o → s.heap.get? b = some o) (hcnt : cnt ≤ 1000)
    (hclos : closureFor scope env = pure cl) (hcell : ∀ y ∈ scope.names, y.2 ≠ .cell) (hkind : scope.kind = .function) (hnames : ∀ y ∈ scope.names, y.2 = .local → scope.names.lookup y.1 = some .local) (hx : scope.names.lookup k = some .local)
    (hel : ∀ C j s₃ m₃ t E', j < cnt → (∀ b o, s.heap.get? b = some o → s₃.heap.get? b = some o) → s₃.heap.Ns C m₃ → m₃ k = some (.int ((j : Nat) : Int) t) → wpAny (model prog w) A (eval elt (compEnvC scope cl C env)) (fun y s₄ => F j y ∧ Keeps s₃ s₄) E' s₃)
    (h : ∀ D h' tk ys, s.heap.get? D = none → h'.PlainList D ys → ItemsBy F cnt ys → (∀ b o, s.heap.get? b = some o → h'.get? b = some o) → Q (.ref D) { s with heap := h', toks := tk }) :
    wpAny (model prog w) A (eval (.ListComp elt [⟨.Name k p8, .Call (.Name "range" p9) [.Constant (.int (cnt : Int)) c2 p10] [] p11, [], 0⟩] scope p12) env) Q E s := by
  refine wpAny_ListComp_free (fun _ => true) (fun v y => ∃ (j : Nat) (t : Tok), v = Value.int (j : Int) t ∧ F j y) hclos hcell hkind hnames hx (range_src (k := k) (scope := scope) (cl := cl) (F := F) hh hk hr hbl hb1 hg hg1 hb hcnt hel ?_)
  rintro s₂ I fp wr n P St ⟨h₂, tk₂, rfl⟩ keep W hn hst hfp hq hit
  refine ⟨I, fp, wr, n, P, St, rfl, W, hn, hst, hfp, hq, fun D h' tk ys vs hD hyl hypl hlen hvs hF hk' => ?_⟩
  refine h D h' tk ys ?_ hypl (hit vs ys hlen hvs hF) fun b o q => hk' b o (keep b o q).2 (keep b o q).1
  cases q : s.heap.get? D with
  | none => rfl
  | some o => exact absurd ((keep D o q).1.symm.trans hD) (by simp)

/-- y = [elt for k in range(cnt)] -/
theorem assign_comp_range {env : Env} {base : Heap} {elt : Expr} {cnt : Nat} {k y : Str} {p8 p9 p10 p11 p12 p13 spos : Pos} {c2 : Nat} {scope : Scope} {cl : List (Str × Addr)} {m mg mb : Str → Option Value} {F : Nat → Value → Prop} {Q : Flow → Shared → Prop}
    (hh : A.handled = none) (hk : env.scope.kind = .function) (hr : env.kindOf "range" = some .globalImplicit) (hy : env.kindOf y = some .local) (hn : s.heap.Ns env.locals m)
    (hbl : base.Ns env.builtins mb) (hb1 : mb "range" = some (.type "range")) (hg : base.Ns env.globals mg) (hg1 : mg "range" = none) (hb : ∀ b o, base.get? b = some o → s.heap.get? b = some o) (hcnt : cnt ≤ 1000)
    (hclos : closureFor scope env = pure cl) (hcell : ∀ y ∈ scope.names, y.2 ≠ .cell) (hkind : scope.kind = .function) (hnames : ∀ y ∈ scope.names, y.2 = .local → scope.names.lookup y.1 = some .local) (hx : scope.names.lookup k = some .local)
    (hline : (p13.line == p12.line) = true) (hany : (scope.names.any fun (n, kk) => n == y && (kk == .local || kk == .cell)) = false)
    (hel : ∀ C j s₃ m₃ t E', j < cnt → (∀ b o, s.heap.get? b = some o → s₃.heap.get? b = some o) → s₃.heap.Ns C m₃ → m₃ k = some (.int ((j : Nat) : Int) t) → wpAny (model prog w) A (eval elt (compEnvC scope cl C env)) (fun y s₄ => F j y ∧ Keeps s₃ s₄) E' s₃)
    (h : ∀ D h' tk ys, s.heap.get? D = none → h'.PlainList D ys → ItemsBy F cnt ys → h'.Ns env.locals (fun z => if z = y then some (.ref D) else m z) → Up env.locals s.heap h' → Q .next { s with heap := h', toks := tk }) :
    wpAny (model prog w) A (exec (.Assign [.Name y p13] (.ListComp elt [⟨.Name k p8, .Call (.Name "range" p9) [.Constant (.int (cnt : Int)) c2 p10] [] p11, [], 0⟩] scope p12) spos) env) Q E s := by
  have hbk : env.blockKind = .function := by simp [Env.blockKind, hk, ScopeKind.isAnnotationScope]
  have hsw : swapsWith (.ListComp elt [⟨.Name k p8, .Call (.Name "range" p9) [.Constant (.int (cnt : Int)) c2 p10] [] p11, [], 0⟩] scope p12) (some (.Name y p13)) spos.line env = pure true := by
    show (pure (env.blockKind == .function && env.kindOf y == some .local && p13.line == p12.line && !(scope.names.any fun (n, kk) => n == y && (kk == .local || kk == .cell))) : Sem Bool) = pure true
    rw [hbk, hy, hline, hany]
    rfl
  refine wpAny_Assign_ListComp_free (fun _ => true) (fun v y => ∃ (j : Nat) (t : Tok), v = Value.int (j : Int) t ∧ F j y) hsw hclos hcell hkind hnames hx hy (plainScope hk) (range_src (k := k) (scope := scope) (cl := cl) (F := F) hh hk hr hbl hb1 hg hg1 hb hcnt hel ?_)
  rintro s₂ I fp wr n P St ⟨h₂, tk₂, rfl⟩ keep W hn0 hst hfp hq hit
  obtain ⟨oL, _, _, hoL, _⟩ := id hn
  refine ⟨I, fp, wr, n, P, St, m, rfl, W, hn0, hst, hfp, (keep _ _ hoL).2, hn.at' fun o q => (keep _ o q).1, hq, fun D h' tk ys vs hD hyl hypl hlen hvs hF hn' hk' => ?_⟩
  refine h D h' tk ys ?_ hypl (hit vs ys hlen hvs hF) hn' fun b o hbL q => hk' b o hbL (keep b o q).2 (keep b o q).1
  cases q : s.heap.get? D with
  | none => rfl
  | some o => exact absurd ((keep D o q).1.symm.trans hD) (by simp)
end
end Mine
namespace Mine
open PySem

def pieceAt (boxes : List Int) (dress : List Str) (p : Nat) : Str := dress.getD p (Str.ofString "") ++ (if boxes.getD p 0 ≠ 0 then Str.ofString "(" else Str.ofString ")")
def piecesOf (boxes : List Int) (dress : List Str) : List Str := (List.range 16).map (pieceAt boxes dress)

theorem strs_of_items {xs : Nat → Str} {cnt : Nat} {items : Array Value} (h : ItemsBy (fun j v => ∃ t, v = Value.str (xs j) t) cnt items) : StrsAre items.toList ((List.range cnt).map xs) := by
  obtain ⟨hs, hi⟩ := h
  have key : ∀ (k : Nat) (l : List Value) (off : Nat), l.length = k → (∀ j, j < k → ∃ t, l[j]? = some (Value.str (xs (off + j)) t)) → StrsAre l ((List.range k).map fun j => xs (off + j)) := by
    intro k
    induction k with
    | zero =>
      intro l off hl _
      have : l = [] := List.length_eq_zero_iff.mp hl
      subst this
      exact .nil
    | succ k ih =>
      intro l off hl hget
      cases l with
      | nil => simp at hl
      | cons v r =>
        obtain ⟨t, e⟩ := hget 0 (by omega)
        simp at e
        subst e
        rw [List.range_succ_eq_map, List.map_cons, List.map_map]
        refine .cons _ t ?_
        have := ih r (off + 1) (by simpa using hl) fun j hj => by
          obtain ⟨t, e⟩ := hget (j + 1) (by omega)
          refine ⟨t, ?_⟩
          rw [List.getElem?_cons_succ] at e
          rw [e]; congr 3; omega
        have e2 : ((fun j => xs (off + j)) ∘ Nat.succ) = fun j => xs (off + 1 + j) := by
          funext j; simp only [Function.comp]; congr 1; omega
        rw [e2]
        exact this
  have := key cnt items.toList 0 (by simpa using hs) fun j hj => by
    obtain ⟨v, h1, t, rfl⟩ := hi j hj
    refine ⟨t, ?_⟩
    rw [← Array.getElem?_toList] at h1
    rw [h1, Nat.zero_add]
  simpa using this

theorem z1 : ¬ (Str.ofString "boxes" = Str.ofString "dress") := by decide

section
variable {prog : Program} {w : World} {A : Around} {E : Value → Shared → Prop} {s : Shared}

theorem strs_item {value slice : Expr} {l : Addr} {xs : List Str} {i : Nat} {u : Tok} {Q : Value → Shared → Prop} (hl : StrsIn s.heap l xs) (hi : i < xs.length) (hz : xs.length ≤ 1000) (h : ∀ t, Q (.str (xs.getD i (Str.ofString "")) t) s)
    (hs : subscripted slice false (.ref l) (.int (i : Int) u) = operate [.ref l, .int (i : Int) u] (getItem (.ref l) (.int (i : Int) u)) := by with_unfolding_all rfl) :
    wpAny (model prog w) A (subscriptTail value slice (.ref l) (.int (i : Int) u)) Q E s := by
  obtain ⟨vs, hL, hx⟩ := hl
  obtain ⟨t, ht⟩ := strs_get hx i (xs.getD i (Str.ofString "")) (by rw [List.getD_eq_getElem?_getD, List.getElem?_eq_getElem hi]; rfl)
  exact tail_any hL.typeIs slot_list_getitem.lookup (wpAny_getItem_list hL (by omega) (by omega) (by simpa using ht) (h t)) hs

structure RangeNames (base : Heap) : Prop where
  glob : ∃ mg, base.Ns mainGlobals mg ∧ mg "range" = none
  blt : ∃ mb, base.Ns builtinsNs mb ∧ mb "range" = some (.type "range")

set_option maxHeartbeats 1000000 in
theorem pieces_stmt {env : Env} {L cb cd lb ld : Addr} {base : Heap} {boxes : List Int} {dress : List Str} {m : Str → Option Value} {Q : Flow → Shared → Prop} (e : EnvFor env (stmtAt atTurned) L) (hh : A.handled = none) (N : RangeNames base) (hb : ∀ b o, base.get? b = some o → s.heap.get? b = some o)
    (hn : s.heap.Ns L m) (hcb : env.cells.lookup (Str.ofString "boxes") = some cb) (hcd : env.cells.lookup (Str.ofString "dress") = some cd) (hclb : s.heap.IsCell cb (some (.ref lb))) (hcld : s.heap.IsCell cd (some (.ref ld)))
    (hB : IntsIn s.heap lb boxes) (hD : StrsIn s.heap ld dress) (lenB : boxes.length = 16) (lenD : dress.length = 16) (hsm : ∀ y ∈ dress, y.length ≤ 100)
    (h : ∀ P h' tk, s.heap.get? P = none → StrsIn h' P (piecesOf boxes dress) → h'.Ns L (fun z => if z = Str.ofString "pieces" then some (.ref P) else m z) → Up L s.heap h' → Q .next { s with heap := h', toks := tk }) :
    wpAny (model prog w) A (exec (nthS (defBody (stmtAt atTurned)) 0) env) Q E s := by
  have hk : env.scope.kind = .function := e.kind rfl
  have kn : ∀ {n : Str} {q : NameKind}, (defScope (stmtAt atTurned)).names.lookup n = some q → env.kindOf n = some q := fun {n q} hq => by
    show env.scope.names.lookup n = _
    rw [e.scope]; exact hq
  obtain ⟨mg, hg, hg1⟩ := N.glob
  obtain ⟨mb, hbl, hbl1⟩ := N.blt
  rw [← e.locals] at hn
  refine assign_comp_range (cnt := 16) (k := "place") (base := base) (cl := [(Str.ofString "dress", cd), (Str.ofString "boxes", cb)]) (F := fun j v => ∃ t, v = Value.str (pieceAt boxes dress j) t) hh hk (kn (by decide)) (kn (by decide)) hn (e.builtins ▸ hbl) hbl1 (e.globals ▸ hg) hg1 hb (by decide)
    (closureFor_2 rfl hcb hcd) (by decide) rfl (by decide) (by decide) rfl (by decide) ?_ ?_
  · intro C j s₃ m₃ t E' hj keep₃ hn₃ hm₃
    refine wpAny_BinOp (Subscript_ (wpAny_Name (wpAny_loadName_cell rfl (relabel_free (by decide) hk (kn (by decide))) (c := cd) (by simp [compEnvC, List.lookup]) (hcld.keeps keep₃) ?_) (by decide)))
    refine nm rfl (relabel_local (by decide)) hn₃ hm₃ (strs_item (hD.keeps fun o q => keep₃ _ o q) (by omega) (by omega) fun t₂ => ?_) (by decide)
    refine wpAny_IfExp (isTrue_plain ?_)
    refine EvI.itemC (n := Str.ofString "boxes") (c := cb) (l := lb) (ns := boxes) (i := (j : Int)) rfl (relabel_free (by decide) hk (kn (by decide))) (by simp [compEnvC, List.lookup, beqF z1]) (hclb.keeps keep₃) (hB.keeps fun o q => keep₃ _ o q)
      (.name (t := t) rfl (relabel_local (by decide)) hn₃ hm₃) (by omega) (by omega) (by omega) (fun _ => by with_unfolding_all rfl) (by decide) _ _ _ rfl fun t₃ tk₃ => truthy_int ?_
    have ei : itemAt boxes (j : Int) = boxes.getD j 0 := by
      unfold itemAt
      rw [if_neg (by omega)]
      simp
    rw [ei]
    have hlen : (dress.getD j (Str.ofString "")).length ≤ 100 := by
      rw [List.getD_eq_getElem?_getD, List.getElem?_eq_getElem (show j < dress.length by omega)]
      exact hsm _ (List.getElem_mem _)
    by_cases hb0 : boxes.getD j 0 = 0
    · rw [hb0]
      rw [if_neg (by simp)]
      refine litStr (add_str (fun t' tk' => ?_) ?_)
      · refine ⟨⟨t', ?_⟩, _, _, rfl, fun _ _ q => q⟩
        unfold pieceAt
        rw [if_neg (fun q => q hb0)]
      · have := sizeLine_eq; rw [show (Str.ofString ")").length = 1 from by decide]; omega
    · rw [if_pos (by simpa using hb0)]
      refine litStr (add_str (fun t' tk' => ?_) ?_)
      · refine ⟨⟨t', ?_⟩, _, _, rfl, fun _ _ q => q⟩
        unfold pieceAt
        rw [if_pos hb0]
      · have := sizeLine_eq; rw [show (Str.ofString "(").length = 1 from by decide]; omega
  · intro P h' tk ys hP hpl hit hn' u'
    rw [e.locals] at hn' u'
    exact h P h' tk hP ⟨ys.toList, by simpa using hpl.isList, strs_of_items hit⟩ hn' u'
end
end Mine
namespace Mine
open PySem

/-- a slice of a list, whatever its items -/
def pickOf {α : Type} (xs : List α) (lo hi st : Option Int) : List α :=
  (sliceRange (sliceBounds lo hi st xs.length).1 (sliceBounds lo hi st xs.length).2.1 (sliceBounds lo hi st xs.length).2.2).filterMap (xs[·]?)

theorem pickOf_map {α β : Type} (f : α → β) (xs : List α) (lo hi st : Option Int) : pickOf (xs.map f) lo hi st = (pickOf xs lo hi st).map f := by
  unfold pickOf
  rw [List.length_map, List.map_filterMap]
  congr 1
  funext j
  rw [List.getElem?_map]

theorem pickOf_ints (ns : List Int) (lo hi st : Option Int) : pickOf ns lo hi st = pickNums ns lo hi st := rfl

theorem strs_places {vs : List Value} {xs : List Str} (h : StrsAre vs xs) : ∀ js : List Nat, StrsAre (js.filterMap (vs[·]?)) (js.filterMap (xs[·]?))
  | [] => .nil
  | j :: js => by
    have ih := strs_places h js
    cases hn : xs[j]? with
    | some n =>
      obtain ⟨t, hv⟩ := strs_get h j n hn
      simp only [List.filterMap_cons, hn, hv]
      exact .cons n t ih
    | none =>
      have hv : vs[j]? = none := by
        rw [List.getElem?_eq_none_iff] at hn ⊢
        rw [strs_len h]; exact hn
      simp only [List.filterMap_cons, hn, hv]
      exact ih

theorem strs_pick {vs : List Value} {xs : List Str} (h : StrsAre vs xs) (lo hi st : Option Int) : StrsAre (slicePick vs.toArray lo hi st).toList (pickOf xs lo hi st) := by
  have e : (slicePick vs.toArray lo hi st).toList = (sliceRange (sliceBounds lo hi st xs.length).1 (sliceBounds lo hi st xs.length).2.1 (sliceBounds lo hi st xs.length).2.2).filterMap (vs[·]?) := by
    simp [slicePick, strs_len h]
  rw [e]
  exact strs_places h _

theorem pick_mem {α : Type} {xs : List α} {lo hi st : Option Int} {y : α} (h : y ∈ pickOf xs lo hi st) : y ∈ xs := by
  unfold pickOf at h
  obtain ⟨j, _, hj⟩ := List.mem_filterMap.mp h
  exact List.mem_of_getElem? hj
theorem pick_len {vs : List Value} {xs : List Str} (h : StrsAre vs xs) (lo hi st : Option Int) : (pickOf xs lo hi st).length ≤ xs.length := by
  have e := strs_len (strs_pick h lo hi st)
  have l := slicePick_size_le vs.toArray lo hi st
  have k := strs_len h
  simp only [Array.length_toList, List.size_toArray] at e l
  omega

theorem join_len {l : List Str} {b : Nat} (h : ∀ y ∈ l, y.length ≤ b) : (Str.join (Str.ofString "") l).length ≤ b * l.length := by
  have e : (Str.join (Str.ofString "") l).length = (Str.join (Str.ofString "") l).cps.toList.length := by simp [Str.length]
  rw [e, join_empty]
  induction l with
  | nil => simp
  | cons y r ih =>
    have h1 := h y (by simp)
    have h2 := ih (fun z hz => h z (by simp [hz])) (by simp [Str.length])
    rw [List.map_cons, List.flatten_cons, List.length_append, List.length_cons, Nat.mul_succ]
    have h3 : y.cps.toList.length = y.length := by simp [Str.length]
    omega

def takenAt (ps : List Str) (a b : Int) : Bool := chk (Str.join (Str.ofString "") (pickOf ps (some a) (some b) none))
def endGo (ps : List Str) (longest : Bool) : Nat → Int → Int → Int
  | 0, _, e => e
  | f + 1, st, e => if st < e ∧ e < 17 ∧ takenAt ps st e = false then endGo ps longest f st (if longest then e + -1 else e + 1) else e
def turnGo (boxes : List Int) (ps : List Str) (longest : Bool) : Nat → List Int → List Int
  | 0, done => done
  | f + 1, done => if (pickNums boxes (some (done.length : Int)) none none).any (· == 1) = true then
      let st : Int := done.length
      let en := endGo ps longest 20 st (if longest then 16 else st + 1)
      if st < en ∧ en < 17 then turnGo boxes ps longest f (done ++ (pickNums boxes (some st) (some en) none).map fun b => 1 - b) else turnGo boxes ps longest f (done ++ [itemAt boxes st])
    else done
def turnOf (boxes : List Int) (ps : List Str) (longest : Bool) : List Int :=
  turnGo boxes ps longest 17 [] ++ (List.replicate ((16 : Int) - (turnGo boxes ps longest 17 []).length).toNat [0]).flatten
end Mine
namespace Mine
open PySem

def turnWhile : Stmt := nthS (defBody (stmtAt atTurned)) 2
def innerWhile : Stmt := nthS (whileBody turnWhile) 2

structure TurnNames (base : Heap) (f fT : Addr) : Prop where
  def_ : FnIs base (stmtAt atTurned) f
  glob : ∃ mg, base.Ns mainGlobals mg ∧ mg "range" = none ∧ mg "len" = none ∧ mg "_law_taken" = some (.ref fT)
  blt : ∃ mb, base.Ns builtinsNs mb ∧ mb "range" = some (.type "range") ∧ mb "len" = some (.builtin "len")

theorem s1 : ¬ (Str.ofString "start" = Str.ofString "end") := by decide
theorem s2 : ¬ (Str.ofString "longest" = Str.ofString "end") := by decide
theorem s3 : ¬ (Str.ofString "pieces" = Str.ofString "end") := by decide

section
variable {prog : Program} {w : World} {A : Around} {E : Value → Shared → Prop} {s : Shared}

set_option maxHeartbeats 2000000 in
theorem inner_while {env : Env} {L P : Addr} {base : Heap} {fI fS fC fT f : Addr} {ps : List Str} {lg : Bool} {st en : Int} {t1 t2 : Tok} {m : Str → Option Value} {Q : Flow → Shared → Prop} (e : EnvFor env (stmtAt atTurned) L) (hh : A.handled = none) (hroom : A.depth + 3 < recursionLimit)
    (N : Names base fI fS fC) (N2 : TakenNames base fC fT) (N3 : TurnNames base f fT) (hb : ∀ b o, base.get? b = some o → s.heap.get? b = some o) (hLb : base.get? L = none)
    (hn : s.heap.Ns L m) (m1 : m "start" = some (.int st t1)) (m2 : m "end" = some (.int en t2)) (m3 : m "longest" = some (.bool lg)) (m4 : m "pieces" = some (.ref P)) (hP : StrsIn s.heap P ps) (hPL : P ≠ L) (lenP : ps.length = 16) (hsm : ∀ y ∈ ps, y.length ≤ 50)
    (hst : 0 ≤ st ∧ st ≤ 16) (hen : 0 ≤ en ∧ en ≤ 17)
    (h : ∀ s' m' t', s'.heap.Ns L m' → (∀ n, ¬ n = Str.ofString "end" → m' n = m n) → m' "end" = some (.int (endGo ps lg 20 st en) t') → Up L s.heap s'.heap → s'.os = s.os → (AllBare s.gens → AllBare s'.gens) → Q .next s') :
    wpAny (model prog w) A (exec innerWhile env) Q E s := by
  have hk : env.scope.kind = .function := e.kind rfl
  have kn : ∀ {n : Str} {q : NameKind}, (defScope (stmtAt atTurned)).names.lookup n = some q → env.kindOf n = some q := fun {n q} hq => by
    show env.scope.names.lookup n = _
    rw [e.scope]; exact hq
  obtain ⟨mg, hg, _, _, hg3⟩ := N3.glob
  have heL := e.locals
  refine wpAny_While (codeAny_whileLoop (fun k s' => ∃ en' t' m', s'.heap.Ns L m' ∧ (∀ n, ¬ n = Str.ofString "end" → m' n = m n) ∧ m' "end" = some (.int en' t') ∧ Up L s.heap s'.heap ∧ s'.os = s.os ∧ (AllBare s.gens → AllBare s'.gens) ∧
    endGo ps lg (k + 1) st en' = endGo ps lg 20 st en ∧ 0 ≤ en' ∧ en' ≤ 17 ∧ (if lg = true then en' ≤ st + k else 17 - en' ≤ k)) ?_ 19 ?_)
  · rintro k s' ⟨en', t', m', hn', q1, q2, u', q3, q4, q5, q6, q7, q8⟩
    have p1 : m' "start" = some (.int st t1) := (q1 _ s1).trans m1
    have p3 : m' "longest" = some (.bool lg) := (q1 _ s2).trans m3
    have p4 : m' "pieces" = some (.ref P) := (q1 _ s3).trans m4
    have hP' : StrsIn s'.heap P ps := hP.keeps fun o q => u' _ o hPL q
    have hb' := base_up hb hLb u'
    have hnE : s'.heap.Ns env.locals m' := heL ▸ hn'
    have stop : ∀ s'' : Shared, s''.heap.Ns L m' → Up L s'.heap s''.heap → s''.os = s'.os → (AllBare s'.gens → AllBare s''.gens) → ¬ (st < en' ∧ en' < 17 ∧ takenAt ps st en' = false) → Q .next s'' := by
      intro s'' hn'' u'' ho hba hc
      refine h s'' m' t' hn'' q1 ?_ (u'.trans u'') (ho.trans q3) fun q => hba (q4 q)
      rw [q2, ← q5]
      show _ = some (Value.int (if st < en' ∧ en' < 17 ∧ takenAt ps st en' = false then _ else en') t')
      rw [if_neg hc]
    refine isTrue_and (is_chain (.name hk (kn (by decide)) hnE p1) (.name hk (kn (by decide)) hnE q2) .const fun tk₁ => ?_)
    by_cases hc1 : st < en' ∧ en' < 17
    · rw [show (decide (st < en') && decide (en' < 17)) = true by simp [hc1.1, hc1.2], if_pos rfl]
      refine isTrue_and (isTrue_not (isTrue_plain ?_))
      refine callDef1 hk (kn (by decide)) (e.globals ▸ hg) hg3 N2.def_ hb' ?_
      refine Call_method1 rfl rfl rfl (litStr ?_)
      refine ⟨"str", "str.join", F.plainAttrs_str, F.slot_str_join, F.type_str_join, typeIs_str _ _ _, (fun _ e => nomatch e), ?_⟩
      refine Calls.callWith_builtin rfl (Calls.evalArgs_plain (Calls.spliced_cons ?_))
      refine Subscript_ (nm hk (kn (by decide)) hnE p4 (wpAny_Slice (wpAny_evalPart_some (nm hk (kn (by decide)) hnE p1 (wpAny_evalPart_some (nm hk (kn (by decide)) hnE q2 (wpAny_evalPart_none ?_)))))))
      obtain ⟨vs, hL, hx⟩ := hP'
      refine slice_items (s := { s' with toks := tk₁ + 1 }) hL (by simp [strs_len hx, lenP]) (IsPart.int _ _) (IsPart.int _ _) .none (by simp) fun l' h' hl' keep' hfr' => ?_
      have hps := strs_pick hx (some st) (some en') none
      have hjl := join_len (l := pickOf ps (some st) (some en') none) (b := 50) fun y hy => hsm y (pick_mem hy)
      have hpl := pick_len hx (some st) (some en') none
      refine Calls.spliced_nil (join_list (ys := pickOf ps (some st) (some en') none) hl'.isList hps ?_ fun t₄ tk₄ => ?_)
      · have h1 := sum_small 50 (pickOf ps (some st) (some en') none) fun y hy => hsm y (pick_mem hy)
        have h0 : (Str.ofString "").length = 0 := by decide
        rw [h0, Nat.mul_zero, Nat.add_zero]
        have : 50 * (pickOf ps (some st) (some en') none).length ≤ 50 * 16 := Nat.mul_le_mul_left _ (by omega)
        omega
      · have ej : Txt.join (Str.ofString "") (pickOf ps (some st) (some en') none) = Str.join (Str.ofString "") (pickOf ps (some st) (some en') none) := PySem.StrLaws.glued_eq_join _ _
        rw [ej]
        have hb₄ : ∀ b o, base.get? b = some o → h'.get? b = some o := fun b o q => keep' b o (hb' b o q)
        refine ⟨hb₄, call_taken N N2 hb₄ hh hroom (by
          have : 50 * (pickOf ps (some st) (some en') none).length ≤ 50 * 16 := Nat.mul_le_mul_left _ (by omega)
          omega) fun s₅ x₅ => wpAny_truthy_bool ?_⟩
        have k₅ : ∀ b o, s'.heap.get? b = some o → s₅.heap.get? b = some o := fun b o q => x₅.keep b o (keep' b o q)
        have o₅ : s₅.os = s'.os := x₅.os
        have b₅ : AllBare s'.gens → AllBare s₅.gens := x₅.bare
        have hn₅ : s₅.heap.Ns L m' := hn'.keeps k₅
        have etk : chk (Str.join (Str.ofString "") (pickOf ps (some st) (some en') none)) = takenAt ps st en' := rfl
        rw [etk]
        cases htk : takenAt ps st en' with
        | true =>
          show if (!true) = true then _ else _
          rw [if_neg (by decide), if_neg Bool.false_ne_true]
          exact wpAny_execs_nil (stop s₅ hn₅ (.of_keep k₅) o₅ b₅ fun q => by rw [htk] at q; cases q.2.2)
        | false =>
          show if (!false) = true then _ else _
          rw [if_pos (by decide)]
          refine isTrue_and_nil ?_
          rw [if_pos rfl]
          have hcc : st < en' ∧ en' < 17 ∧ takenAt ps st en' = false := ⟨hc1.1, hc1.2, htk⟩
          have eg : endGo ps lg (k + 1) st en' = endGo ps lg k st (if lg = true then en' + -1 else en' + 1) := by
            show (if st < en' ∧ en' < 17 ∧ takenAt ps st en' = false then endGo ps lg k st _ else en') = _
            rw [if_pos hcc]
          rw [eg] at q5
          have hnE₅ : s₅.heap.Ns env.locals m' := heL ▸ hn₅
          have hev : EvI prog w A env s₅.heap (match nthS (whileBody innerWhile) 0 with | .AugAssign _ _ v _ => v | _ => default) (if lg = true then -1 else 1) := by
            intro s₆ E₆ Q₆ e₆ hQ₆
            refine wpAny_IfExp (isTrue_plain (nm hk (kn (by decide)) (e₆ ▸ hnE₅) p3 (wpAny_truthy_bool ?_)))
            cases lg with
            | true =>
              rw [if_pos rfl]
              exact wpAny_UnaryOp (wpAny_Constant_int (neg_int (hQ₆ _ _)))
            | false =>
              rw [if_neg Bool.false_ne_true]
              exact wpAny_Constant_int (hQ₆ _ _)
          refine wpAny_execs_cons (aug_add hk (kn (by decide)) hnE₅ q2 hev fun h₆ t₆ tk₆ hn₆ u₆ => wpAny_execs_nil ?_)
          rw [heL] at hn₆ u₆
          have ex : (if lg = true then en' + -1 else en' + 1) = en' + (if lg = true then -1 else 1) := by cases lg <;> rfl
          rw [ex] at q5
          cases k with
          | zero =>
            exfalso
            cases lg with
            | true => simp at q8; omega
            | false => simp at q8; omega
          | succ k =>
            refine ⟨k, Nat.lt_succ_self _, en' + (if lg = true then -1 else 1), t₆, _, hn₆, fun n hne => by rw [if_neg hne]; exact q1 n hne, by simp, (u'.trans (.of_keep k₅)).trans u₆, o₅.trans q3, fun q => b₅ (q4 q), q5, ?_, ?_, ?_⟩
            · cases lg <;> simp <;> omega
            · cases lg <;> simp <;> omega
            · cases lg with
              | true => simp at q8 ⊢; omega
              | false => simp at q8 ⊢; omega
    · rw [show (decide (st < en') && decide (en' < 17)) = false by
        rw [← Bool.not_eq_true]; simpa using fun a b => hc1 ⟨a, b⟩, if_neg Bool.false_ne_true, if_neg Bool.false_ne_true]
      exact wpAny_execs_nil (stop _ hn' .refl rfl id fun q => hc1 ⟨q.1, q.2.1⟩)
  · refine ⟨en, t2, m, hn, fun _ _ => rfl, m2, .refl, rfl, id, rfl, hen.1, hen.2, ?_⟩
    cases lg <;> simp <;> omega
end
end Mine
namespace Mine
open PySem

theorem ints_of_paired {g : Int → Int} : ∀ {vs ys : List Value} {ns : List Int}, IntsAre vs ns → Paired (fun (v y : Value) => ∃ n t t', v = Value.int n t ∧ y = Value.int (g n) t') vs ys → IntsAre ys (ns.map g)
  | _, _, _, .nil, .nil => .nil
  | _, _, _, .cons n t r, .cons q p => by
    obtain ⟨n', t1, t2, e1, rfl⟩ := q
    cases e1
    exact .cons _ _ (ints_of_paired r p)

section
variable {prog : Program} {w : World} {A : Around} {E : Value → Shared → Prop} {s : Shared}

/-- [elt for k in a list of ints], no names from around it -/
theorem comp_ints {env : Env} {elt iter : Expr} {k : Str} {p8 p12 : Pos} {scope : Scope} {ns : List Int} {g : Int → Int} {Q : Value → Shared → Prop} (hh : A.handled = none)
    (hfree : ∀ x ∈ scope.names, x.2 ≠ .free) (hcell : ∀ y ∈ scope.names, y.2 ≠ .cell) (hkind : scope.kind = .function) (hnames : ∀ y ∈ scope.names, y.2 = .local → scope.names.lookup y.1 = some .local) (hx : scope.names.lookup k = some .local) (hz : ns.length ≤ 1000)
    (hit : wpAny (model prog w) A (eval iter env) (fun v s₁ => ∃ l, v = .ref l ∧ IntsIn s₁.heap l ns ∧ Keeps s s₁) E s)
    (hel : ∀ C v t h m', h.Ns C m' → m' k = some (.int v t) → EvI prog w A (compEnvC scope [] C env) h elt (g v))
    (h : ∀ D s' items, Keeps s s' → s.heap.get? D = none → s'.heap.PlainList D items → IntsAre items.toList (ns.map g) → Q (.ref D) s')
    (hs : ∀ x, foldedSetIterable iter env x = pure x := by intro _; rfl) :
    wpAny (model prog w) A (eval (.ListComp elt [⟨.Name k p8, iter, [], 0⟩] scope p12) env) Q E s := by
  refine wpAny_ListComp_free (fun _ => true) (fun v y => ∃ n t t', v = Value.int n t ∧ y = Value.int (g n) t') (closureFor_none hfree) hcell hkind hnames hx (wpAny_mono hit (fun xv s₁ hv => ?_) fun _ _ q => q) hs
  obtain ⟨l, rfl, ⟨vs, hL, hi⟩, ⟨h₁, tk₁, rfl, keep₁⟩⟩ := hv
  replace hL : h₁.IsList l vs.toArray := hL
  have hll : l < h₁.objs.size := by obtain ⟨o, ho, _⟩ := hL; exact Heap.lt_size ho
  have hlen := hi.length
  refine wpAny_pyIter_list hL ?_
  refine ⟨_, _, _, _, _, _, rfl, Walks.list (A := A) hh _ l (Nat.ne_of_lt hll) vs.toArray, by have := sizeLine_eq; simp; omega, ⟨⟨_, Heap.get?_push_size _ rfl, rfl, rfl⟩, (by obtain ⟨o, ho, r⟩ := hL; exact ⟨o, Heap.get?_push_of_some _ ho, r⟩)⟩, ?_, ?_, ?_⟩
  · intro b hb
    rw [Heap.size_push]
    simp only [List.mem_cons, List.not_mem_nil, or_false] at hb
    rcases hb with rfl | rfl
    · exact Nat.lt_succ_self _
    · exact Nat.lt_succ_of_lt hll
  · refine ⟨fun _ _ _ _ _ _ _ _ _ _ _ _ => wpAny_tests_nil ⟨rfl, keeps_refl _⟩, ?_⟩
    rintro C i v s₃ m₃ E' hC hP - hn₃ hm₃ keep₃ -
    have hv : vs[i]? = some v := by simpa using hP
    have hlt : i < ns.length := by rw [← hlen]; exact (List.getElem?_eq_some_iff.mp hv).1
    obtain ⟨t, ht⟩ := hi.get i ns[i] (List.getElem?_eq_getElem hlt)
    rw [hv] at ht
    cases ht
    exact hel C _ t s₃.heap m₃ hn₃ hm₃ _ _ _ rfl fun t' tk' => ⟨⟨_, _, _, rfl, rfl⟩, _, _, rfl, fun _ _ q => q⟩
  · intro D h' tk ys vs' hD hyl hypl hlen' hvs' hF hk'
    rw [List.filter_eq_self.mpr (fun _ _ => rfl)] at hF
    have evs : vs' = vs := by
      refine List.ext_getElem? fun j => ?_
      cases q : vs'[j]? with
      | some v => have := hvs' j v q; simpa using this.symm
      | none =>
        have : vs'.length ≤ j := List.getElem?_eq_none_iff.mp q
        exact (List.getElem?_eq_none (by simp at hlen'; omega)).symm
    subst evs
    have old : ∀ b o, s.heap.get? b = some o → h'.get? b = some o := fun b o q => by
      have q₁ := keep₁ b o q
      refine hk' b o (fun hb => ?_) (Heap.get?_push_of_some _ q₁)
      have e := List.mem_singleton.mp hb
      exact absurd (Heap.lt_size q₁) (by rw [e]; exact Nat.lt_irrefl _)
    refine h D _ ys ⟨h', tk, rfl, old⟩ ?_ hypl (ints_of_paired hi hF)
    cases q : s.heap.get? D with
    | none => rfl
    | some o =>
      have := Heap.get?_push_of_some { cls := .type "list_iterator", data := .fields #[.ref l, .int 0 0] } (keep₁ D o q)
      exact absurd (this.symm.trans hD) (by simp)
end
end Mine
namespace Mine
open PySem

theorem ints_exist : ∀ ns : List Int, IntsAre (ns.map fun n => Value.int n 0) ns
  | [] => .nil
  | n :: r => .cons n 0 (ints_exist r)
theorem run_len (ns : List Int) {a b : Nat} (hab : a ≤ b) (hb : b ≤ ns.length) : (pickNums ns (some (a : Int)) (some (b : Int)) none).length = b - a := by
  have h := (ints_exist ns).pick (some (a : Int)) (some (b : Int)) none
  have e := h.length
  rw [slicePick_run _ a b (by simpa using hb) hab] at e
  simp at e
  omega
theorem from_nil (ns : List Int) {a : Nat} (ha : ns.length ≤ a) : pickNums ns (some (a : Int)) none none = [] := by
  have h := (ints_exist ns).pick (some (a : Int)) none none
  have e := h.length
  rw [slicePick_from' _ a] at e
  simp at e
  exact List.length_eq_zero_iff.mp (by omega)
end Mine
namespace Mine
open PySem

def endOf (ps : List Str) (lg : Bool) (st : Int) : Int := endGo ps lg 20 st (if lg = true then 16 else st + 1)
def turnStep (boxes : List Int) (ps : List Str) (lg : Bool) (done : List Int) : List Int :=
  if (done.length : Int) < endOf ps lg done.length ∧ endOf ps lg done.length < 17 then done ++ (pickNums boxes (some (done.length : Int)) (some (endOf ps lg done.length)) none).map fun b => 1 - b else done ++ [itemAt boxes done.length]

theorem r1 : ¬ (Str.ofString "turned" = Str.ofString "start") := by decide
theorem r2 : ¬ (Str.ofString "turned" = Str.ofString "end") := by decide
theorem r3 : ¬ (Str.ofString "longest" = Str.ofString "start") := by decide
theorem r4 : ¬ (Str.ofString "longest" = Str.ofString "end") := by decide
theorem r5 : ¬ (Str.ofString "pieces" = Str.ofString "start") := by decide
theorem r6 : ¬ (Str.ofString "pieces" = Str.ofString "end") := by decide
theorem r7 : ¬ (Str.ofString "start" = Str.ofString "end") := by decide

section
variable {prog : Program} {w : World} {A : Around} {E : Value → Shared → Prop} {s : Shared}

set_option maxHeartbeats 4000000 in
theorem turn_body {env : Env} {L P D cb lb : Addr} {base : Heap} {fI fS fC fT f : Addr} {boxes done : List Int} {ps : List Str} {lg : Bool} {items : Array Value} {m : Str → Option Value} (e : EnvFor env (stmtAt atTurned) L) (hh : A.handled = none) (hroom : A.depth + 3 < recursionLimit)
    (N : Names base fI fS fC) (N2 : TakenNames base fC fT) (N3 : TurnNames base f fT) (hb : ∀ b o, base.get? b = some o → s.heap.get? b = some o) (hLb : base.get? L = none)
    (hn : s.heap.Ns L m) (m1 : m "turned" = some (.ref D)) (m2 : m "longest" = some (.bool lg)) (m3 : m "pieces" = some (.ref P))
    (hcb : env.cells.lookup (Str.ofString "boxes") = some cb) (hcl : s.heap.IsCell cb (some (.ref lb))) (hcbL : cb ≠ L) (hB : IntsIn s.heap lb boxes) (hlbD : lb ≠ D) (lenB : boxes.length = 16)
    (hD : s.heap.PlainList D items) (hI : IntsAre items.toList done) (hPs : StrsIn s.heap P ps) (hPL : P ≠ L) (lenP : ps.length = 16) (hsm : ∀ y ∈ ps, y.length ≤ 50) (hdone : done.length < 16)
    (hend : (done.length : Int) < endOf ps lg done.length → endOf ps lg done.length < 17 → endOf ps lg done.length ≤ 16) :
    wpAny (model prog w) A (execs (whileBody turnWhile) env) (fun f s₂ => f = .next ∧ (∀ b o, b ≠ L → b ≠ D → s.heap.get? b = some o → s₂.heap.get? b = some o) ∧ s₂.os = s.os ∧ (AllBare s.gens → AllBare s₂.gens) ∧
      ∃ m₂ items', s₂.heap.Ns L m₂ ∧ m₂ "turned" = some (.ref D) ∧ m₂ "longest" = some (.bool lg) ∧ m₂ "pieces" = some (.ref P) ∧ s₂.heap.PlainList D items' ∧ IntsAre items'.toList (turnStep boxes ps lg done)) E s := by
  have hk : env.scope.kind = .function := e.kind rfl
  have kn : ∀ {n : Str} {q : NameKind}, (defScope (stmtAt atTurned)).names.lookup n = some q → env.kindOf n = some q := fun {n q} hq => by
    show env.scope.names.lookup n = _
    rw [e.scope]; exact hq
  obtain ⟨mg, hg, _, hg2, hg3⟩ := N3.glob
  obtain ⟨mb, hbl, _, hbl2⟩ := N3.blt
  have heL := e.locals
  have hDL := plain_ne_ns hD hn
  have hlbL := hB.ne hn
  have ilen : items.size = done.length := by
    have := hI.length
    simpa using this
  -- start
  refine wpAny_execs_cons (assign_int (v := (done.length : Int)) hk (kn (by decide)) (heL ▸ hn) ((EvI.len (base := base) hk (kn (by decide)) (kn (by decide)) (heL ▸ hn) m1 hD (by omega) (e.globals ▸ hg) hg2 (e.builtins ▸ hbl) hbl2 hb).as (by rw [ilen])) fun h₁ t₁ tk₁ hn₁ u₁ => ?_)
  rw [heL] at hn₁ u₁
  obtain ⟨M₁, a₁, hn₁⟩ := forget hn₁
  have b1 : M₁ "start" = some (.int (done.length : Int) t₁) := by rw [a₁]; simp
  have b2 : M₁ "turned" = some (.ref D) := by rw [a₁]; simp [r1, m1]
  have b3 : M₁ "longest" = some (.bool lg) := by rw [a₁]; simp [r3, m2]
  have b4 : M₁ "pieces" = some (.ref P) := by rw [a₁]; simp [r5, m3]
  -- end
  have hev : EvI prog w A env h₁ (match nthS (whileBody turnWhile) 1 with | .Assign _ v _ => v | _ => default) (if lg = true then 16 else (done.length : Int) + 1) := by
    intro s₆ E₆ Q₆ e₆ hQ₆
    refine wpAny_IfExp (isTrue_plain (nm hk (kn (by decide)) (e₆ ▸ heL ▸ hn₁) b3 (wpAny_truthy_bool ?_)))
    cases lg with
    | true =>
      rw [if_pos rfl]
      exact wpAny_Constant_int (hQ₆ _ _)
    | false =>
      rw [if_neg Bool.false_ne_true]
      exact EvI.add (.name hk (kn (by decide)) (heL ▸ hn₁) b1) .const _ _ _ e₆ hQ₆
  refine wpAny_execs_cons (assign_int hk (kn (by decide)) (heL ▸ hn₁) hev fun h₂ t₂ tk₂ hn₂ u₂ => ?_)
  rw [heL] at hn₂ u₂
  replace u₂ : Up L h₁ h₂ := u₂
  obtain ⟨M₂, a₂, hn₂⟩ := forget hn₂
  have c1 : M₂ "start" = some (.int (done.length : Int) t₁) := by rw [a₂]; simp [r7, b1]
  have c2 : M₂ "turned" = some (.ref D) := by rw [a₂]; simp [r2, b2]
  have c3 : M₂ "longest" = some (.bool lg) := by rw [a₂]; simp [r4, b3]
  have c4 : M₂ "pieces" = some (.ref P) := by rw [a₂]; simp [r6, b4]
  have c5 : M₂ "end" = some (.int (if lg = true then 16 else (done.length : Int) + 1) t₂) := by rw [a₂]; simp
  have U₂ : Up L s.heap h₂ := u₁.trans u₂
  -- the inner loop
  refine wpAny_execs_cons (inner_while e hh hroom N N2 N3 (base_up hb hLb U₂) hLb hn₂ c1 c5 c3 c4 (hPs.keeps fun o q => U₂ _ o hPL q) hPL lenP hsm ⟨by omega, by omega⟩ (by cases lg <;> simp <;> omega) fun s₃ M₃ t₃ hn₃ hM₃ hend₃ u₃ hos₃ hba₃ => ?_)
  replace u₃ : Up L h₂ s₃.heap := u₃
  replace hos₃ : s₃.os = s.os := hos₃
  replace hba₃ : AllBare s.gens → AllBare s₃.gens := hba₃
  have een : endGo ps lg 20 (done.length : Int) (if lg = true then 16 else (done.length : Int) + 1) = endOf ps lg done.length := rfl
  rw [een] at hend₃
  have U₃ : Up L s.heap s₃.heap := U₂.trans u₃
  have d1 : M₃ "start" = some (.int (done.length : Int) t₁) := (hM₃ _ r7).trans c1
  have d2 : M₃ "turned" = some (.ref D) := (hM₃ _ r2).trans c2
  have d3 : M₃ "longest" = some (.bool lg) := (hM₃ _ r4).trans c3
  have d4 : M₃ "pieces" = some (.ref P) := (hM₃ _ r6).trans c4
  have hD₃ : s₃.heap.PlainList D items := hD.at fun o q => U₃ _ o hDL q
  have hB₃ : IntsIn s₃.heap lb boxes := hB.up U₃ hlbL
  have hcl₃ : s₃.heap.IsCell cb (some (.ref lb)) := cell_up hcl U₃ hcbL
  have hnE : s₃.heap.Ns env.locals M₃ := heL ▸ hn₃
  refine wpAny_execs_cons (wpAny_If (is_chain (.name hk (kn (by decide)) hnE d1) (.name hk (kn (by decide)) hnE hend₃) .const fun tk₄ => ?_))
  by_cases hc : (done.length : Int) < endOf ps lg done.length ∧ endOf ps lg done.length < 17
  · have hstep : turnStep boxes ps lg done = done ++ (pickNums boxes (some (done.length : Int)) (some (endOf ps lg done.length)) none).map fun b => 1 - b := if_pos hc
    rw [hstep, show (decide ((done.length : Int) < endOf ps lg done.length) && decide (endOf ps lg done.length < 17)) = true by simp [hc.1, hc.2], if_pos rfl]
    refine wpAny_execs_cons (wpAny_Expr ?_ e.inter rfl)
    refine Call_method1 rfl rfl rfl (nm hk (kn (by decide)) hnE d2 ?_)
    refine ⟨"list", "list.extend", PySem.F.plainAttrs_list, PySem.F.slot_list_extend, PySem.F.type_list_extend, hD₃.isList.typeIs, (fun a q => by
      cases q
      obtain ⟨n, hn'⟩ := hD₃
      exact ⟨_, hn', rfl⟩), ?_⟩
    refine Calls.callWith_builtin rfl (Calls.evalArgs_plain (Calls.spliced_cons ?_))
    refine comp_ints (k := "ball") (ns := pickNums boxes (some (done.length : Int)) (some (endOf ps lg done.length)) none) (g := fun b => 1 - b) hh (by decide) (by decide) rfl (by decide) (by decide) ?_ ?_ ?_ ?_
    · obtain ⟨vs, _, hv⟩ := hB
      have := length_pickNums_le hv (some (done.length : Int)) (some (endOf ps lg done.length)) none
      omega
    · refine Subscript_ (wpAny_Name (wpAny_loadName_cell hk (kn (by decide)) hcb hcl₃ ?_) (by decide))
      refine wpAny_Slice (wpAny_evalPart_some (nm hk (kn (by decide)) hnE d1 (wpAny_evalPart_some (nm hk (kn (by decide)) hnE hend₃ (wpAny_evalPart_none ?_)))))
      exact slice_ints (s := { s₃ with toks := tk₄ }) hB₃ (by omega) (IsPart.int _ _) (IsPart.int _ _) .none (by simp) fun l' h' hl' keep' hfr' => ⟨l', rfl, hl', h', _, rfl, keep'⟩
    · intro C v t h m' hnc hmc
      exact .sub .const (.name rfl (relabel_local (by decide)) hnc hmc)
    · rintro D' s₅ items' ⟨h₅, tk₅, rfl, keep₅⟩ - hD' hI'
      replace keep₅ : ∀ b o, s₃.heap.get? b = some o → h₅.get? b = some o := keep₅
      have hle : (pickNums boxes (some (done.length : Int)) (some (endOf ps lg done.length)) none).length ≤ 16 := by
        obtain ⟨vs, _, hv⟩ := hB
        have := length_pickNums_le hv (some (done.length : Int)) (some (endOf ps lg done.length)) none
        omega
      refine Calls.spliced_nil (call_extend (hD₃.at fun o q => keep₅ _ o q) hD' hI hI' (by rw [List.length_map]; omega) fun h₆ its₆ hD₆ hI₆ hs₆ => wpAny_execs_nil (wpAny_execs_nil ?_))
      replace hs₆ : Heap.SameBut D h₅ h₆ := hs₆
      exact ⟨rfl, fun b o x1 x2 q => hs₆.extBut b o x2 (keep₅ b o (U₃ b o x1 q)), hos₃, hba₃, M₃, its₆, (hn₃.keeps keep₅).sameBut hs₆ (Ne.symm hDL), d2, d3, d4, hD₆, hI₆⟩
  · have hstep : turnStep boxes ps lg done = done ++ [itemAt boxes done.length] := if_neg hc
    rw [hstep, show (decide ((done.length : Int) < endOf ps lg done.length) && decide (endOf ps lg done.length < 17)) = false by
      rw [← Bool.not_eq_true]; simp only [Bool.and_eq_true, decide_eq_true_eq]; exact hc, if_neg Bool.false_ne_true]
    refine wpAny_execs_cons (append_int hk (kn (by decide)) hnE d2 hD₃ hI (by omega) (EvI.itemC hk (kn (by decide)) hcb hcl₃ hB₃ (.name hk (kn (by decide)) hnE d1) (by omega) (by omega) (by omega)) (fun h₅ tk₅ items' hD₅ hI₅ hs₅ => wpAny_execs_nil (wpAny_execs_nil ?_)) e.inter rfl)
    replace hs₅ : Heap.SameBut D s₃.heap h₅ := hs₅
    exact ⟨rfl, fun b o x1 x2 q => hs₅.extBut b o x2 (U₃ b o x1 q), hos₃, hba₃, M₃, items', hn₃.sameBut hs₅ (Ne.symm hDL), d2, d3, d4, hD₅, hI₅⟩
end
end Mine
namespace Mine
open PySem

theorem turnStep_len {boxes : List Int} {ps : List Str} {lg : Bool} {done : List Int} (hB : boxes.length = 16) (hd : done.length < 16) : done.length < (turnStep boxes ps lg done).length ∧ (turnStep boxes ps lg done).length ≤ 16 := by
  unfold turnStep
  by_cases hc : (done.length : Int) < endOf ps lg done.length ∧ endOf ps lg done.length < 17
  · rw [if_pos hc]
    obtain ⟨n, hn⟩ : ∃ n : Nat, endOf ps lg done.length = (n : Int) := ⟨_, (Int.toNat_of_nonneg (by omega)).symm⟩
    rw [hn] at hc ⊢
    rw [List.length_append, List.length_map, run_len boxes (by omega) (by omega)]
    omega
  · rw [if_neg hc, List.length_append, List.length_singleton]
    omega
theorem turnGo_step {boxes : List Int} {ps : List Str} {lg : Bool} {done : List Int} {k : Nat} : turnGo boxes ps lg (k + 1) done = if (pickNums boxes (some (done.length : Int)) none none).any (· == 1) = true then turnGo boxes ps lg k (turnStep boxes ps lg done) else done := by
  show (if _ then _ else done) = _
  split
  · show (if (done.length : Int) < endOf ps lg done.length ∧ endOf ps lg done.length < 17 then turnGo boxes ps lg k (done ++ (pickNums boxes (some (done.length : Int)) (some (endOf ps lg done.length)) none).map fun b => 1 - b) else turnGo boxes ps lg k (done ++ [itemAt boxes done.length])) = _
    unfold turnStep
    by_cases hc : (done.length : Int) < endOf ps lg done.length ∧ endOf ps lg done.length < 17
    · rw [if_pos hc, if_pos hc]
    · rw [if_neg hc, if_neg hc]
  · rfl

theorem o1 : ¬ (Str.ofString "longest" = Str.ofString "pieces") := by decide
theorem o2 : ¬ (Str.ofString "longest" = Str.ofString "turned") := by decide
theorem o3 : ¬ (Str.ofString "pieces" = Str.ofString "turned") := by decide

section
variable {prog : Program} {w : World} {A : Around} {E : Value → Shared → Prop} {s : Shared}

set_option maxHeartbeats 4000000 in
theorem call_turned {base : Heap} {fI fS fC fT f lb ld : Addr} {boxes : List Int} {dress : List Str} {lg : Bool} {Q : Value → Shared → Prop} (N : Names base fI fS fC) (N2 : TakenNames base fC fT) (N3 : TurnNames base f fT) (hh : A.handled = none) (hroom : A.depth + 4 < recursionLimit)
    (hb : ∀ b o, base.get? b = some o → s.heap.get? b = some o) (hB : IntsIn s.heap lb boxes) (hDr : StrsIn s.heap ld dress) (lenB : boxes.length = 16) (lenD : dress.length = 16) (hsm : ∀ y ∈ dress, y.length ≤ 40)
    (h : ∀ R s', Ext s s' → IntsIn s'.heap R (turnOf boxes (piecesOf boxes dress) lg) → Q (.ref R) s') :
    wpAny (model prog w) A (call (.ref f) [.ref lb, .ref ld, .bool lg]) Q E s := by
  refine enterCells (cs := fun L => cellsFrom L (defScope (stmtAt atTurned)).names []) (binds := [("boxes", .ref lb), ("dress", .ref ld), ("longest", .bool lg)]) (by omega) N3.def_ N.lim hb ?_ (fun _ => rfl) ?_ rfl rfl rfl fun env h₁ tk₁ e1 e2 e3 e4 e5 e6 hcells hapart hn hk₁ => ?_
  · rintro ⟨name, qualname, params, body, scope, globals, closure, defaults, kwdefaults, doc, pyModule, anns, code, closureTuple, builtins⟩ h1 h2 h3
    dsimp only at h1 h2 h3
    subst h1 h2 h3
    rfl
  · intro L y hy
    rcases List.mem_cons.mp hy with rfl | hy
    · exact .inr ⟨rfl, rfl⟩
    rcases List.mem_cons.mp hy with rfl | hy
    · exact .inr ⟨rfl, rfl⟩
    rcases List.mem_cons.mp hy with rfl | hy
    · exact .inl rfl
    cases hy
  have e : EnvFor env (stmtAt atTurned) s.heap.objs.size := ⟨e1, e2, e3, e4, e5⟩
  have hk : env.scope.kind = .function := e.kind rfl
  have kn : ∀ {n : Str} {q : NameKind}, (defScope (stmtAt atTurned)).names.lookup n = some q → env.kindOf n = some q := fun {n q} hq => by
    show env.scope.names.lookup n = _
    rw [e.scope]; exact hq
  have hh' : (A.deeper env).handled = none := hh
  have hroom' : (A.deeper env).depth + 3 < recursionLimit := by show A.depth + 1 + 3 < _; omega
  obtain ⟨L, hL⟩ : ∃ L, L = s.heap.objs.size := ⟨_, rfl⟩
  have hLs : s.heap.get? L = none := hL ▸ getAbove _
  have hLsz : s.heap.objs.size ≤ L := by rw [hL]; exact Nat.le_refl _
  rw [← hL] at e hn
  have heL := e.locals
  have hLb : base.get? L = none := by
    cases q : base.get? L with
    | none => rfl
    | some o => rw [hb _ _ q] at hLs; cases hLs
  have lcb : env.cells.lookup (Str.ofString "boxes") = some (s.heap.objs.size + 1) := by rw [e6]; rfl
  have lcd : env.cells.lookup (Str.ofString "dress") = some (s.heap.objs.size + 1 + 1) := by rw [e6]; rfl
  obtain ⟨hcbL, hcb0, hclb⟩ := hcells _ _ lcb
  obtain ⟨hcdL, hcd0, hcld⟩ := hcells _ _ lcd
  replace hcbL : s.heap.objs.size + 1 ≠ L := by rw [hL]; exact hcbL
  replace hclb : h₁.IsCell (s.heap.objs.size + 1) (some (.ref lb)) := hclb
  replace hcld : h₁.IsCell (s.heap.objs.size + 1 + 1) (some (.ref ld)) := hcld
  obtain ⟨M₁, a₁, hn₁⟩ := forget hn
  have b₁ : M₁ "longest" = some (.bool lg) := by rw [a₁]; rfl
  have hb₁ : ∀ b o, base.get? b = some o → h₁.get? b = some o := fun b o q => hk₁ b o (hb b o q)
  obtain ⟨mg, hg, hg1, hg2, hg3⟩ := N3.glob
  obtain ⟨mb, hbl, hbl1, hbl2⟩ := N3.blt
  have hpsm : ∀ y ∈ piecesOf boxes dress, y.length ≤ 50 := by
    intro y hy
    obtain ⟨j, hj, rfl⟩ := List.mem_map.mp hy
    have hj' : j < 16 := List.mem_range.mp hj
    unfold pieceAt
    rw [Str.length_append]
    have h1 : (dress.getD j (Str.ofString "")).length ≤ 40 := by
      rw [List.getD_eq_getElem?_getD, List.getElem?_eq_getElem (show j < dress.length by omega)]
      exact hsm _ (List.getElem_mem _)
    have h2 : (if boxes.getD j 0 ≠ 0 then Str.ofString "(" else Str.ofString ")").length ≤ 1 := by
      split <;> decide
    omega
  -- pieces
  refine wpAny_execs_cons (pieces_stmt e hh' ⟨⟨mg, hg, hg1⟩, ⟨mb, hbl, hbl1⟩⟩ hb₁ hn₁ lcb lcd hclb hcld (hB.keeps fun o q => hk₁ _ o q) (hDr.keeps fun o q => hk₁ _ o q) lenB lenD (fun y hy => by have := hsm y hy; omega) fun P h₂ tk₂ hP₀ hP hn₂ u₂ => ?_)
  replace u₂ : Up L h₁ h₂ := u₂
  obtain ⟨M₂, a₂, hn₂⟩ := forget hn₂
  have U₂ : Up L s.heap h₂ := (Up.of_keep hk₁).trans u₂
  have hPL : P ≠ L := by
    rintro rfl
    obtain ⟨o, _, _, q, _⟩ := hn
    rw [q] at hP₀; cases hP₀
  -- turned
  refine wpAny_execs_cons (wpAny_Assign_Name (wpAny_List_spliced (Calls.spliced_nil ⟨Nat.zero_le _, wpAny_storeName_local (kn (by decide)) (heL ▸ hn₂.push _) (fun h₃ hn₃ hs₃ => ?_) (plainScope hk)⟩)))
  rw [heL] at hn₃ hs₃
  replace hs₃ : Heap.SameBut L (h₂.push { cls := .type "list", data := .seq ([] : List Value).toArray }) h₃ := hs₃
  have u₃ : Up L h₂ h₃ := fun b o hb q => hs₃.extBut b o hb (Heap.get?_push_of_some _ q)
  obtain ⟨D, hD⟩ : ∃ D, D = h₂.objs.size := ⟨_, rfl⟩
  have hDL : D ≠ L := hD ▸ Nat.ne_of_gt hn₂.lt
  have hD₃ : h₃.PlainList D #[] := ⟨0, hs₃.extBut _ _ hDL (hD ▸ Heap.get?_push_size _ rfl)⟩
  have U₃ : Up L s.heap h₃ := U₂.trans u₃
  have hnone : ∀ b o, h₂.get? b = some o → b ≠ D := fun b o q => hD ▸ Nat.ne_of_lt (Heap.lt_size q)
  have hD₀ : s.heap.get? D = none := by
    cases q : s.heap.get? D with
    | none => rfl
    | some o => exact absurd rfl (hnone _ _ (U₂ _ o hDL q))
  have hPD : P ≠ D := by obtain ⟨_, ⟨o, q, _⟩, _⟩ := hP; exact hnone _ _ q
  have hcD : s.heap.objs.size + 1 ≠ D := by obtain ⟨o, q, _⟩ := cell_up hclb u₂ hcbL; exact hnone _ _ q
  have hlbL : lb ≠ L := by rintro rfl; obtain ⟨_, ⟨o, q, _⟩, _⟩ := hB; rw [hLs] at q; cases q
  have hlbD : lb ≠ D := by rintro rfl; obtain ⟨_, ⟨o, q, _⟩, _⟩ := hB; rw [hD₀] at q; cases q
  obtain ⟨M₃, a₃, hn₃⟩ := forget hn₃
  have c1 : M₃ "turned" = some (.ref D) := by rw [a₃, hD]; simp
  have c2 : M₃ "longest" = some (.bool lg) := by rw [a₃, a₂]; simp [o1, o2, b₁]
  have c3 : M₃ "pieces" = some (.ref P) := by rw [a₃, a₂]; simp [o3]
  have hP₃ : StrsIn h₃ P (piecesOf boxes dress) := hP.keeps fun o q => u₃ _ o hPL q
  have hcl₃ : h₃.IsCell (s.heap.objs.size + 1) (some (.ref lb)) := cell_up (cell_up hclb u₂ hcbL) u₃ hcbL
  have hB₃ : IntsIn h₃ lb boxes := hB.up U₃ hlbL
  -- the outer loop
  refine wpAny_execs_cons (wpAny_While (codeAny_whileLoop (fun k s' => ∃ m' items done, s'.heap.Ns L m' ∧ m' "turned" = some (.ref D) ∧ m' "longest" = some (.bool lg) ∧ m' "pieces" = some (.ref P) ∧ (∀ b o, b ≠ L → b ≠ D → h₃.get? b = some o → s'.heap.get? b = some o) ∧ s'.os = s.os ∧ (AllBare s.gens → AllBare s'.gens) ∧
    s'.heap.PlainList D items ∧ IntsAre items.toList done ∧ done.length ≤ 16 ∧ 16 ≤ done.length + k ∧ turnGo boxes (piecesOf boxes dress) lg (k + 1) done = turnGo boxes (piecesOf boxes dress) lg 17 []) ?_ 16 ⟨M₃, #[], [], hn₃, c1, c2, c3, fun _ _ _ _ q => q, rfl, id, hD₃, .nil, by decide, by decide, rfl⟩))
  rintro k s' ⟨m', items, done, hn', q1, q2, q3, keep', q4, q5, hD', hI', q6, q7, q8⟩
  have hcl' : s'.heap.IsCell (s.heap.objs.size + 1) (some (.ref lb)) := let ⟨o, ho, r⟩ := hcl₃; ⟨o, keep' _ o hcbL hcD ho, r⟩
  have hB' : IntsIn s'.heap lb boxes := hB₃.keeps fun o q => keep' _ o hlbL hlbD q
  have hP' : StrsIn s'.heap P (piecesOf boxes dress) := hP₃.keeps fun o q => keep' _ o hPL hPD q
  have old' : ∀ b o, s.heap.get? b = some o → s'.heap.get? b = some o := fun b o q => keep' b o (fun z => by rw [z, hLs] at q; cases q) (fun z => by rw [z, hD₀] at q; cases q) (U₃ b o (fun z => by rw [z, hLs] at q; cases q) q)
  have hb' : ∀ b o, base.get? b = some o → s'.heap.get? b = some o := fun b o q => old' b o (hb b o q)
  have hnE : s'.heap.Ns env.locals m' := heL ▸ hn'
  have ilen : items.size = done.length := by have := hI'.length; simpa using this
  refine wpAny_isTrue_Compare1 (wpAny_Constant_int (Subscript_ (wpAny_Name (wpAny_loadName_cell hk (kn (by decide)) lcb hcl' ?_) (by decide))))
  refine wpAny_Slice (wpAny_evalPart_some ?_)
  refine (EvI.len (base := base) hk (kn (by decide)) (kn (by decide)) hnE q1 hD' (by omega) (e3 ▸ hg) hg2 (e4 ▸ hbl) hbl2 hb').as (show (items.size : Int) = (done.length : Int) by rw [ilen]) _ _ _ rfl fun t₄ tk₄ => wpAny_evalPart_none (wpAny_evalPart_none ?_)
  refine slice_ints (s := { s' with toks := tk₄ }) hB' (by omega) (IsPart.int _ _) .none .none (by simp) fun l' h' hl' keep₄ hfr' => ?_
  replace keep₄ : ∀ b o, s'.heap.get? b = some o → h'.get? b = some o := keep₄
  obtain ⟨vs, hL', hv'⟩ := hl'
  refine in_list_ints hL' hv' (wpAny_truthy_bool ?_)
  by_cases hany : (pickNums boxes (some (done.length : Int)) none none).any (· == 1) = true
  · rw [hany, if_pos rfl]
    have hd16 : done.length < 16 := by
      rcases Nat.lt_or_ge done.length 16 with q | q
      · exact q
      · rw [from_nil boxes (by omega)] at hany; cases hany
    refine wpAny_mono (turn_body (P := P) (lb := lb) e hh' hroom' N N2 N3 (fun b o q => keep₄ b o (hb' b o q)) hLb (hn'.keeps keep₄) q1 q2 q3 lcb (hcl'.keeps keep₄) hcbL (hB'.keeps fun o q => keep₄ _ o q) hlbD lenB (hD'.at fun o q => keep₄ _ o q) hI' (hP'.keeps fun o q => keep₄ _ o q) hPL (by simp [piecesOf]) hpsm hd16 (fun _ q => by omega)) (fun fl s₅ hf => ?_) fun _ _ q => q
    obtain ⟨rfl, k₅, o₅, ba₅, m₅, items₅, p1, p2, p3, p4, p5, p6⟩ := hf
    have hl := turnStep_len (ps := piecesOf boxes dress) (lg := lg) lenB hd16
    rw [turnGo_step, if_pos hany] at q8
    cases k with
    | zero => exact absurd q7 (by omega)
    | succ k => exact ⟨k, Nat.lt_succ_self _, m₅, items₅, _, p1, p2, p3, p4, fun b o x1 x2 q => k₅ b o x1 x2 (keep₄ b o (keep' b o x1 x2 q)), o₅.trans q4, fun q => ba₅ (q5 q), p5, p6, hl.2, by omega, q8⟩
  · rw [show (pickNums boxes (some (done.length : Int)) none none).any (· == 1) = false from Bool.eq_false_iff.mpr hany, if_neg Bool.false_ne_true]
    rw [turnGo_step, if_neg hany] at q8
    have hn₄ : h'.Ns L m' := hn'.keeps keep₄
    have hD₄ : h'.PlainList D items := hD'.at fun o q => keep₄ _ o q
    refine wpAny_execs_nil (wpAny_execs_cons (wpAny_Return_some (wpAny_BinOp (nm hk (kn (by decide)) (heL ▸ hn₄) q1 (wpAny_BinOp (wpAny_List_spliced (spliced_more (wpAny_Constant_int (Calls.spliced_nil ⟨by show 1 ≤ sizeLine; decide, ?_⟩)))))))))
    have upZ : ∀ (o' : Obj) b o, h'.get? b = some o → (h'.push o').get? b = some o := fun o' b o q => Heap.get?_push_of_some _ q
    refine EvI.sub .const ((EvI.len (base := base) hk (kn (by decide)) (kn (by decide)) (heL ▸ hn₄.push _) q1 (hD₄.at fun o q => upZ _ _ o q) (by omega) (e3 ▸ hg) hg2 (e4 ▸ hbl) hbl2 (fun b o q => upZ _ b o (keep₄ b o (hb' b o q)))).as (show (items.size : Int) = (done.length : Int) by rw [ilen])) _ _ _ rfl fun t₆ tk₆ => ?_
    refine mul_items (h₀ := s.heap) (D := D) (hn₄.push _) (fun b o q => upZ _ b o (keep₄ b o (old' b o q))) hLsz (hD₄.at fun o q => upZ _ _ o q) hD₀ ⟨0, Heap.get?_push_size _ rfl⟩ rfl (by omega) (by omega) (by simp) fun h₇ hn₇ keep₇ hD₇ hR₇ => ?_
    refine add_items hD₇ hR₇ ?_ fun h₈ hR₈ keep₈ => ?_
    · have e1 : items.size ≤ 16 := by omega
      simp
      omega
    · have edone : done = turnGo boxes (piecesOf boxes dress) lg 17 [] := q8
      refine h _ _ ⟨fun b o q => keep₈ b o (keep₇ b o q), q4, q5⟩ (.of_plain hR₈ ?_)
      unfold turnOf
      rw [← edone]
      simpa using hI'.append (rep_ints (IntsAre.cons 0 _ .nil) ((16 : Int) - (done.length : Int)).toNat)
end
end Mine
namespace Mine
open PySem

theorem join_tokens (l : List (List Tk)) : Str.join (Str.ofString "") (l.map strOf) = strOf l.flatten := by
  have hs : ∀ s : Str, s = ⟨s.cps.toList.toArray⟩ := fun s => by cases s; simp
  rw [hs (Str.join _ _), join_empty]
  unfold strOf cpsOf
  congr 2
  rw [List.map_map]
  induction l with
  | nil => rfl
  | cons x r ih =>
    rw [List.map_cons, List.flatten_cons, List.flatten_cons, List.flatMap_append, ih]
    simp
def Tk.still : Tk → Bool
  | .op => false
  | .cl => false
  | _ => true
theorem bal_still : ∀ (d r : List Tk) (n : Int), (∀ t ∈ d, t.still = true) → bal (d ++ r) n = bal r n
  | [], _, _, _ => rfl
  | t :: d, r, n, h => by
    have hd := fun t' ht' => h t' (List.mem_cons_of_mem t ht')
    have ht := h t (by simp)
    cases t with
    | op => cases ht
    | cl => cases ht
    | esc c => exact bal_still d r n hd
    | quo l => exact bal_still d r n hd
theorem taken_tokens (f : Nat → List Tk) (hf : ∀ p, ∀ t ∈ f p, t.ok) (l : List Nat) (a b : Int) : takenAt (l.map fun p => strOf (f p)) a b = bal ((pickOf l (some a) (some b) none).map f).flatten 0 := by
  unfold takenAt
  rw [pickOf_map, show (pickOf l (some a) (some b) none).map (fun p => strOf (f p)) = ((pickOf l (some a) (some b) none).map f).map strOf by rw [List.map_map]; rfl, join_tokens]
  refine chk_tokens fun t ht => ?_
  obtain ⟨x, hx, htx⟩ := List.mem_flatten.mp ht
  obtain ⟨p, _, rfl⟩ := List.mem_map.mp hx
  exact hf p t htx
theorem bal_dressed (d x : Nat → List Tk) (hd : ∀ p, ∀ t ∈ d p, t.still = true) : ∀ (l : List Nat) (n : Int), bal ((l.map fun p => d p ++ x p).flatten) n = bal ((l.map x).flatten) n := by
  have key : ∀ (y r r' : List Tk) (n : Int), (∀ n, bal r n = bal r' n) → bal (y ++ r) n = bal (y ++ r') n := by
    intro y
    induction y with
    | nil => intro r r' n h; exact h n
    | cons t y ih =>
      intro r r' n h
      cases t with
      | op => exact ih r r' _ h
      | cl =>
        show (if n - 1 < 0 then false else bal (y ++ r) (n - 1)) = (if n - 1 < 0 then false else bal (y ++ r') (n - 1))
        rw [ih r r' _ h]
      | esc c => exact ih r r' _ h
      | quo l => exact ih r r' _ h
  intro l
  induction l with
  | nil => intro n; rfl
  | cons p l ih =>
    intro n
    rw [List.map_cons, List.map_cons, List.flatten_cons, List.flatten_cons, List.append_assoc, bal_still _ _ _ (hd p)]
    exact key _ _ _ n ih
end Mine
namespace Mine
open PySem
def atLaw : Nat := 12
def lawStmt (i : Nat) : Stmt := nthS (defBody (stmtAt atLaw)) i
def strConst : Expr → Str
  | .Constant (.str x) _ _ => x
  | _ => Str.ofString ""
/-- the five dresses, as the law's own row has them -/
def dresses : List Str := match lawStmt 2 with
  | .Assign _ (.BinOp (.ListComp (.Subscript (.List es _) _ _) _ _ _) _ _ _) _ => es.map strConst
  | _ => []
def dtok : Nat → List Tk
  | 1 => [.esc 40]
  | 2 => [.esc 34]
  | 3 => [.esc 41]
  | 4 => [.quo [41, 40]]
  | _ => []
theorem dress_tok : dresses.length = 5 ∧ ∀ i, i < 5 → dresses.getD i (Str.ofString "") = strOf (dtok i) := by decide +kernel
end Mine
namespace Mine
open PySem

theorem ints_of_items {xs : Nat → Int} {cnt : Nat} {items : Array Value} (h : ItemsBy (fun j v => ∃ t, v = Value.int (xs j) t) cnt items) : IntsAre items.toList ((List.range cnt).map xs) := by
  obtain ⟨hs, hi⟩ := h
  have key : ∀ (k : Nat) (l : List Value) (off : Nat), l.length = k → (∀ j, j < k → ∃ t, l[j]? = some (Value.int (xs (off + j)) t)) → IntsAre l ((List.range k).map fun j => xs (off + j)) := by
    intro k
    induction k with
    | zero =>
      intro l off hl _
      have : l = [] := List.length_eq_zero_iff.mp hl
      subst this
      exact .nil
    | succ k ih =>
      intro l off hl hget
      cases l with
      | nil => simp at hl
      | cons v r =>
        obtain ⟨t, e⟩ := hget 0 (by omega)
        simp at e
        subst e
        rw [List.range_succ_eq_map, List.map_cons, List.map_map]
        refine .cons _ t ?_
        have := ih r (off + 1) (by simpa using hl) fun j hj => by
          obtain ⟨t, e⟩ := hget (j + 1) (by omega)
          refine ⟨t, ?_⟩
          rw [List.getElem?_cons_succ] at e
          rw [e]; congr 3; omega
        have e2 : ((fun j => xs (off + j)) ∘ Nat.succ) = fun j => xs (off + 1 + j) := by
          funext j; simp only [Function.comp]; congr 1; omega
        rw [e2]
        exact this
  have := key cnt items.toList 0 (by simpa using hs) fun j hj => by
    obtain ⟨v, h1, t, rfl⟩ := hi j hj
    refine ⟨t, ?_⟩
    rw [← Array.getElem?_toList] at h1
    rw [h1, Nat.zero_add]
  simpa using this

/-- a list display of written texts -/
def litsAre : List Expr → List Str → Bool
  | [], [] => true
  | .Constant (.str y) _ _ :: es, x :: xs => y == x && litsAre es xs
  | _, _ => false

section
variable {prog : Program} {w : World} {A : Around} {E : Value → Shared → Prop} {s : Shared}

theorem lits_spliced {env : Env} {pos : Pos} : ∀ {es : List Expr} {xs : List Str}, litsAre es xs = true → ∀ {s : Shared} {Q : List Value → Shared → Prop},
    (∀ vs tk, StrsAre vs xs → Q vs { s with toks := tk }) → wpAny (model prog w) A (spliced (backTo pos (starEach es env))) Q E s
  | [], [], _, s, Q, hQ => Calls.spliced_nil (hQ [] s.toks .nil)
  | .Constant (.str y) _ _ :: es, x :: xs, h, s, Q, hQ => by
    have h : (y == x && litsAre es xs) = true := h
    rw [Bool.and_eq_true] at h
    obtain ⟨h1, h3⟩ := h
    have h1 := eq_of_beq h1
    subst h1
    exact spliced_more (litStr (lits_spliced (es := es) (xs := xs) h3 (s := { s with toks := s.toks + 1 }) fun vs tk' hvs => hQ _ tk' (.cons _ _ hvs)))

/-- [..] * k: what stood stands -/
theorem mul_keep {l : Addr} {items : Array Value} {x : Int} {u : Tok} {Q : Value → Shared → Prop} (hl : s.heap.PlainList l items) (hne : items.isEmpty = false) (hlo : -1000 ≤ x) (hhi : x ≤ 1000) (hz : items.size ≤ 1000)
    (h : ∀ h', h'.PlainList s.heap.objs.size (List.replicate x.toNat items.toList).flatten.toArray → (∀ b o, s.heap.get? b = some o → h'.get? b = some o) → Q (.ref s.heap.objs.size) { s with heap := h' }) :
    wpAny (model prog w) A (binaryOp .Mult (.ref l) (.int x u)) Q E s := by
  obtain ⟨k, hl⟩ := hl
  have hsz : items.size * x.toNat ≤ 2 ^ 24 := by
    have : items.size * x.toNat ≤ 1000 * 1000 := Nat.mul_le_mul hz (by omega)
    omega
  refine wpAny_binaryOp_repeat_ref (T := "list") (U := "int") (by decide) ⟨_, hl, rfl⟩ (fun s' => typeIs_int s' x u) noFill_list_mul F.fills_int_mul F.slot_int_rmul repeat_list F.slot_int_index.lookup
    (call_meets F.slot_int_rmul (typeIs_int s x u) F.entry_int_rmul (F.args_int_rmul_2 _ _) (int___rmul___int_list x u l items k) ⟨hl, rfl, ⟨_, hl, rfl⟩, ?_⟩)
  refine call_meets F.slot_list_mul ⟨_, hl, rfl⟩ F.entry_list_mul (F.args_list_mul_2 _ _) (AutoListH.list___mul___list_int_3 l items k x u (by simp [Builtin.List.listFitsIndex]; omega) (by omega) (by simp [Builtin.List.listTooLong, sizeLine]; omega)) ⟨hl, ?_⟩
  refine h _ ⟨0, ?_⟩ fun b o q => Heap.get?_push_of_some _ q
  rw [hne]
  simp only [Bool.false_eq_true, if_false, listMul_foldl]
  rw [Heap.get?_push_size _ rfl]
  simp

/-- [a, b, ..][i], whole numbers -/
theorem ints_display_item {env : Env} {es : List Expr} {slice : Expr} {p1 p2 : Pos} {ns : List Int} {i : Int} {Q : Value → Shared → Prop}
    (he : Paired (fun e n => EvI prog w A env s.heap e n ∧ ∀ rest, starEach (e :: rest) env = (false, eval e env) :: starEach rest env) es ns) (hz : ns.length ≤ 1000)
    (hs : ∀ h', (∀ b o, s.heap.get? b = some o → h'.get? b = some o) → EvI prog w A env h' slice i) (h1 : 0 ≤ i) (h2 : i < ns.length)
    (h : ∀ h' tk t, (∀ b o, s.heap.get? b = some o → h'.get? b = some o) → Q (.int (itemAt ns i) t) { s with heap := h', toks := tk })
    (hss : ∀ l u, subscripted slice false (.ref l) (.int i u) = operate [.ref l, .int i u] (getItem (.ref l) (.int i u)) := by intro _ _; with_unfolding_all rfl) :
    wpAny (model prog w) A (eval (.Subscript (.List es p1) slice p2) env) Q E s := by
  have up : ∀ (o' : Obj) b o, s.heap.get? b = some o → (s.heap.push o').get? b = some o := fun o' b o q => Heap.get?_push_of_some _ q
  refine Subscript_ (wpAny_List_spliced (ints_spliced he rfl fun vs tk hvs => ⟨?_, ?_⟩))
  · have := hvs.length; have := sizeLine_eq; omega
  · refine hs _ (up _) _ _ _ rfl fun t tk' => ?_
    exact list_item (ns := ns) (IntsIn.new hvs) (by omega) h2 hz (fun t' => h _ _ t' (up _)) (hss _ _)

/-- [a, b, ..][i], written texts -/
theorem strs_display_item {env : Env} {es : List Expr} {slice : Expr} {p1 p2 : Pos} {xs : List Str} {i : Nat} {Q : Value → Shared → Prop}
    (he : litsAre es xs = true) (hz : xs.length ≤ 1000)
    (hs : ∀ h', (∀ b o, s.heap.get? b = some o → h'.get? b = some o) → EvI prog w A env h' slice (i : Int)) (h2 : i < xs.length)
    (h : ∀ h' tk t, (∀ b o, s.heap.get? b = some o → h'.get? b = some o) → Q (.str (xs.getD i (Str.ofString "")) t) { s with heap := h', toks := tk })
    (hss : ∀ l u, subscripted slice false (.ref l) (.int (i : Int) u) = operate [.ref l, .int (i : Int) u] (getItem (.ref l) (.int (i : Int) u)) := by intro _ _; with_unfolding_all rfl) :
    wpAny (model prog w) A (eval (.Subscript (.List es p1) slice p2) env) Q E s := by
  have up : ∀ (o' : Obj) b o, s.heap.get? b = some o → (s.heap.push o').get? b = some o := fun o' b o q => Heap.get?_push_of_some _ q
  refine Subscript_ (wpAny_List_spliced (lits_spliced he fun vs tk hvs => ⟨?_, ?_⟩))
  · have := strs_len hvs; have := sizeLine_eq; omega
  · refine hs _ (up _) _ _ _ rfl fun t tk' => ?_
    exact strs_item (xs := xs) ⟨vs, ⟨_, Heap.get?_push_size _ rfl, rfl, _, rfl⟩, hvs⟩ h2 hz (fun t' => h _ _ t' (up _)) (hss _ _)

/-- y = [sum(x[k::step]) for k in range(cnt)]; x and y are cells -/
theorem adds_cell {env : Env} {base : Heap} {c cy l : Addr} {v₀ : Option Value} {ns : List Int} {cnt : Nat} {step : Int} {x k y : Str} {p1 p2 p3 p4 p5 p6 p7 p8 p9 p10 p11 p12 p13 : Pos} {c1 c2 : Nat} {scope : Scope} {mg mb : Str → Option Value} {Q : Flow → Shared → Prop}
    (hh : A.handled = none) (hk : env.scope.kind = .function) (hx : env.kindOf x = some .cell) (hc : env.cells.lookup x = some c) (hy : env.kindOf y = some .cell) (hcy : env.cells.lookup y = some cy) (hr : env.kindOf "range" = some .globalImplicit)
    (hsn : scope.names = compNames k x .free) (hkind : scope.kind = .function) (hkx : ¬ k = x) (hk0 : ¬ k = Str.ofString ".0") (hks : ¬ k = Str.ofString "sum") (hx0 : ¬ x = Str.ofString ".0") (hxs : ¬ x = Str.ofString "sum")
    (hbl : base.Ns env.builtins mb) (hb1 : mb "range" = some (.type "range")) (hb2 : mb "sum" = some (.builtin "sum")) (hg : base.Ns env.globals mg) (hg1 : mg "range" = none) (hg2 : mg "sum" = none)
    (hb : ∀ b o, base.get? b = some o → s.heap.get? b = some o) (hcl : s.heap.IsCell c (some (.ref l))) (hcly : s.heap.IsCell cy v₀) (hl : IntsIn s.heap l ns) (hz : ns.length ≤ 1000) (hst : step ≠ 0) (hcnt : cnt ≤ 1000)
    (hdk : (k == ("__debug__" : Str)) = false) (hdx : (x == ("__debug__" : Str)) = false)
    (h : ∀ D h' tk, s.heap.get? D = none → D ≠ cy → IntsIn h' D (addsOf ns cnt step) → h'.IsCell cy (some (.ref D)) → (∀ b o, b ≠ cy → s.heap.get? b = some o → h'.get? b = some o) → Q .next { s with heap := h', toks := tk })
    {spos : Pos} :
    wpAny (model prog w) A (exec (.Assign [.Name y p13] (.ListComp (.Call (.Name "sum" p1) [.Subscript (.Name x p2) (.Slice (some (.Name k p3)) none (some (.Constant (.int step) c1 p4)) p5) p6] [] p7) [⟨.Name k p8, .Call (.Name "range" p9) [.Constant (.int (cnt : Int)) c2 p10] [] p11, [], 0⟩] scope p12) spos) env) Q E s := by
  have hbk : env.blockKind = .function := by simp [Env.blockKind, hk, ScopeKind.isAnnotationScope]
  have lkk : scope.names.lookup k = some .local := by rw [hsn]; unfold compNames; simp [List.lookup, beqF hk0]
  have lks : scope.names.lookup (Str.ofString "sum") = some .globalImplicit := by rw [hsn]; unfold compNames; simp [List.lookup, beqF (fun h : (Str.ofString "sum") = k => hks h.symm), beqF (show ¬ Str.ofString "sum" = Str.ofString ".0" by decide)]
  have lkx : scope.names.lookup x = some .free := by rw [hsn]; unfold compNames; simp [List.lookup, beqF hx0, beqF hxs, beqF (fun h : x = k => hkx h.symm)]
  refine wpAny_Assign_Name (comp_range (cnt := cnt) (k := k) (base := base) (cl := [(x, c)]) (F := fun j v => ∃ t, v = Value.int (pickNums ns (some (j : Int)) none (some step)).sum t) hh hk hr hbl hb1 hg hg1 hb hcnt (closureFor_one hsn hc) ?_ hkind ?_ lkk ?_ ?_) ?_
  · rw [hsn]; unfold compNames; intro z hz; simp at hz; rcases hz with rfl | rfl | rfl | rfl <;> exact fun h => by cases h
  · rw [hsn]; unfold compNames; intro z hz hz2; simp at hz
    rcases hz with rfl | rfl | rfl | rfl
    · rfl
    · simp [List.lookup, beqF hk0]
    · cases hz2
    · cases hz2
  · intro C j s₃ m₃ t E' hj keep₃ hn₃ hm₃
    have hcl₃ : s₃.heap.IsCell c (some (.ref l)) := hcl.keeps keep₃
    have ckind : (compEnvC scope [(x, c)] C env).scope.kind = .function := hkind
    have ksum : (compEnvC scope [(x, c)] C env).kindOf (Str.ofString "sum") = some .globalImplicit := by rw [relabel_lookup lks]; rfl
    refine Call_Name1 (Calls.Name_function_global ckind ksum (Calls.loadGlobal_builtin (hg.keeps fun b o q => keep₃ b o (hb b o q)) hg2 (hbl.keeps fun b o q => keep₃ b o (hb b o q)) hb2 (Calls.callWith_builtin rfl (Calls.evalArgs_plain (Calls.spliced_cons ?_)))))
    refine Subscript_ (wpAny_Name (wpAny_loadName_cell ckind (relabel_free lkx hk hx) (by simp [compEnvC]) hcl₃ ?_) hdx)
    refine wpAny_Slice (wpAny_evalPart_some (nm ckind (relabel_local lkk) hn₃ hm₃ (wpAny_evalPart_none (wpAny_evalPart_some (wpAny_Constant_int ?_))) hdk))
    refine sum_slice (s := { s₃ with toks := s₃.toks + 1 }) (hl.keeps fun o q => keep₃ _ o q) hz hst fun l' h' hl' keep' hfr' => Calls.spliced_nil (sum_keep hh hl' fun h'' tk'' t' keep'' => ?_)
    exact ⟨⟨_, rfl⟩, h'', tk'', rfl, fun b o q => keep'' b o (keep' b o q)⟩
  · intro D h' tk ys hD hpl hit keep'
    have hcl' : h'.IsCell cy v₀ := hcly.keeps keep'
    have hDc : D ≠ cy := by
      rintro rfl
      obtain ⟨o, ho, _⟩ := hcly
      rw [ho] at hD; cases hD
    refine wpAny_storeName_cell hk hy hcy hcl' fun h'' hc'' hs'' => ?_
    replace hs'' : Heap.SameBut cy h' h'' := hs''
    refine h D h'' _ hD hDc ?_ hc'' fun b o hb' q => hs''.extBut b o hb' (keep' b o q)
    exact (IntsIn.of_plain hpl (ints_of_items hit)).keeps fun o q => hs''.extBut _ o hDc q
  · show (pure (env.blockKind == .function && env.kindOf y == some .local && p13.line == p12.line && !(scope.names.any fun (n, kk) => n == y && (kk == .local || kk == .cell))) : Sem Bool) = pure false
    rw [hbk, hy]
    rfl
end
end Mine
namespace Mine
open PySem

def firstAt (ad : List Int) (k : Nat) : Int := (itemAt [1, 1, 1, 0, 1, 0] (k : Int) + itemAt ad (k : Int)).fmod 2
def firstOf (ad : List Int) : List Int := (List.range 6).map (firstAt ad) ++ (List.replicate (10 : Int).toNat [0]).flatten
def dressIx (ad : List Int) (k : Nat) : Int := ((itemAt ad (k : Int)).fdiv 2).fmod 5
def dressAt (ad : List Int) (k : Nat) : Str := dresses.getD (dressIx ad k).toNat (Str.ofString "")
def dressOf (ad : List Int) : List Str := (List.range 6).map (dressAt ad) ++ (List.replicate (10 : Int).toNat [Str.ofString ""]).flatten

section
variable {prog : Program} {w : World} {A : Around} {E : Value → Shared → Prop} {s : Shared}

theorem oneC {n : Int} {k : Nat} {pos : Pos} {env : Env} {h : Heap} : EvI prog w A env h (.Constant (.int n) k pos) n ∧ ∀ rest, starEach (.Constant (.int n) k pos :: rest) env = (false, eval (.Constant (.int n) k pos) env) :: starEach rest env := ⟨.const, fun _ => rfl⟩

set_option maxHeartbeats 1000000 in
theorem first_stmt {env : Env} {L cA D : Addr} {base : Heap} {ad : List Int} {m : Str → Option Value} {Q : Flow → Shared → Prop} (e : EnvFor env (stmtAt atLaw) L) (hh : A.handled = none) (N : RangeNames base) (hb : ∀ b o, base.get? b = some o → s.heap.get? b = some o)
    (hn : s.heap.Ns L m) (hc : env.cells.lookup (Str.ofString "adds") = some cA) (hcl : s.heap.IsCell cA (some (.ref D))) (hD : IntsIn s.heap D ad) (len : ad.length = 6)
    (h : ∀ F h' tk, s.heap.get? F = none → IntsIn h' F (firstOf ad) → h'.Ns L (fun z => if z = Str.ofString "first" then some (.ref F) else m z) → Up L s.heap h' → Q .next { s with heap := h', toks := tk }) :
    wpAny (model prog w) A (exec (lawStmt 1) env) Q E s := by
  have hk : env.scope.kind = .function := e.kind rfl
  have kn : ∀ {n : Str} {q : NameKind}, (defScope (stmtAt atLaw)).names.lookup n = some q → env.kindOf n = some q := fun {n q} hq => by
    show env.scope.names.lookup n = _
    rw [e.scope]; exact hq
  obtain ⟨mg, hg, hg1⟩ := N.glob
  obtain ⟨mb, hbl, hbl1⟩ := N.blt
  rw [← e.locals] at hn
  refine wpAny_Assign_Name (wpAny_BinOp (comp_range (cnt := 6) (k := "k") (base := base) (cl := [(Str.ofString "adds", cA)]) (F := fun j v => ∃ t, v = Value.int (firstAt ad j) t) hh hk (kn (by decide)) (e.builtins ▸ hbl) hbl1 (e.globals ▸ hg) hg1 hb (by decide)
    (closureFor_1 rfl hc) (by decide) rfl (by decide) (by decide) ?_ ?_))
  · intro C j s₃ m₃ t E' hj keep₃ hn₃ hm₃
    refine wpAny_BinOp (wpAny_BinOp (ints_display_item (ns := [1, 1, 1, 0, 1, 0]) (i := (j : Int)) (.cons oneC (.cons oneC (.cons oneC (.cons oneC (.cons oneC (.cons oneC .nil)))))) (by decide) (fun h' k' => .name (t := t) rfl (relabel_local (by decide)) (hn₃.keeps k') hm₃) (by omega) (by simp only [List.length_cons, List.length_nil]; omega) fun h₄ tk₄ t₄ keep₄ => ?_))
    have up : ∀ b o, s.heap.get? b = some o → h₄.get? b = some o := fun b o q => keep₄ b o (keep₃ b o q)
    refine EvI.itemC (n := Str.ofString "adds") (c := cA) (l := D) (ns := ad) (i := (j : Int)) rfl (relabel_free (by decide) hk (kn (by decide))) (by simp [compEnvC]) (hcl.keeps up) (hD.keeps fun o q => up _ o q) (.name (t := t) rfl (relabel_local (by decide)) (hn₃.keeps keep₄) hm₃) (by omega) (by omega) (by omega) (fun _ => by with_unfolding_all rfl) (by decide) _ _ _ rfl fun t₅ tk₅ => ?_
    exact add_int (wpAny_Constant_int (mod_int (by decide) ⟨⟨_, rfl⟩, _, _, rfl, keep₄⟩))
  · intro P h' tk ys hP hpl hit keep'
    refine wpAny_BinOp (wpAny_List_spliced (ints_spliced (.cons oneC .nil) rfl fun vs tk₂ hvs => ⟨?_, ?_⟩))
    · have := hvs.length; have := sizeLine_eq; simp at *; omega
    have hvl := hvs.length
    refine wpAny_Constant_int (mul_keep (items := vs.toArray) (x := 10) ⟨0, Heap.get?_push_size _ rfl⟩ ?_ (by decide) (by decide) ?_ fun h₃ hR keep₃ => ?_)
    · cases vs with
      | nil => simp at hvl
      | cons => rfl
    · simp at hvl ⊢; omega
    have up₃ : ∀ b o, h'.get? b = some o → h₃.get? b = some o := fun b o q => keep₃ b o (Heap.get?_push_of_some _ q)
    refine add_items (hpl.at fun o q => up₃ _ o q) hR ?_ fun h₄ hF keep₄ => ?_
    · have h1 := hit.1
      rw [h1]
      simp at hvl ⊢; omega
    have up₄ : ∀ b o, s.heap.get? b = some o → h₄.get? b = some o := fun b o q => keep₄ b o (up₃ b o (keep' b o q))
    refine wpAny_storeName_local (kn (by decide)) (hn.keeps up₄) (fun h₅ hn₅ hs₅ => ?_) (plainScope hk)
    rw [e.locals] at hn₅ hs₅
    replace hs₅ : Heap.SameBut L h₄ h₅ := hs₅
    refine h _ h₅ _ ?_ (IntsIn.up (.of_plain hF ?_) (.of_same hs₅) ?_) hn₅ ((Up.of_keep up₄).trans (.of_same hs₅))
    · cases q : s.heap.get? h₃.objs.size with
      | none => rfl
      | some o => exact absurd (Heap.lt_size (up₃ _ _ (keep' _ _ q))) (Nat.lt_irrefl _)
    · have := (ints_of_items hit).append (rep_ints hvs (10 : Int).toNat)
      simpa [firstOf] using this
    · have := (hn.keeps fun b o q => up₃ b o (keep' b o q)).lt
      rw [e.locals] at this
      exact Nat.ne_of_gt this

set_option maxHeartbeats 1000000 in
theorem dress_stmt {env : Env} {L cA D : Addr} {base : Heap} {ad : List Int} {m : Str → Option Value} {Q : Flow → Shared → Prop} (e : EnvFor env (stmtAt atLaw) L) (hh : A.handled = none) (N : RangeNames base) (hb : ∀ b o, base.get? b = some o → s.heap.get? b = some o)
    (hn : s.heap.Ns L m) (hc : env.cells.lookup (Str.ofString "adds") = some cA) (hcl : s.heap.IsCell cA (some (.ref D))) (hD : IntsIn s.heap D ad) (len : ad.length = 6)
    (h : ∀ F h' tk, s.heap.get? F = none → StrsIn h' F (dressOf ad) → h'.Ns L (fun z => if z = Str.ofString "dress" then some (.ref F) else m z) → Up L s.heap h' → Q .next { s with heap := h', toks := tk }) :
    wpAny (model prog w) A (exec (lawStmt 2) env) Q E s := by
  have hk : env.scope.kind = .function := e.kind rfl
  have kn : ∀ {n : Str} {q : NameKind}, (defScope (stmtAt atLaw)).names.lookup n = some q → env.kindOf n = some q := fun {n q} hq => by
    show env.scope.names.lookup n = _
    rw [e.scope]; exact hq
  obtain ⟨mg, hg, hg1⟩ := N.glob
  obtain ⟨mb, hbl, hbl1⟩ := N.blt
  rw [← e.locals] at hn
  refine wpAny_Assign_Name (wpAny_BinOp (comp_range (cnt := 6) (k := "k") (base := base) (cl := [(Str.ofString "adds", cA)]) (F := fun j v => ∃ t, v = Value.str (dressAt ad j) t) hh hk (kn (by decide)) (e.builtins ▸ hbl) hbl1 (e.globals ▸ hg) hg1 hb (by decide)
    (closureFor_1 rfl hc) (by decide) rfl (by decide) (by decide) ?_ ?_))
  · intro C j s₃ m₃ t E' hj keep₃ hn₃ hm₃
    have r0 : 0 ≤ dressIx ad j := Int.fmod_nonneg_of_pos _ (show (0 : Int) < 5 by decide)
    have r1 : dressIx ad j < 5 := Int.fmod_lt_of_pos _ (show (0 : Int) < 5 by decide)
    have hix : ((dressIx ad j).toNat : Int) = dressIx ad j := Int.toNat_of_nonneg r0
    refine strs_display_item (xs := dresses) (i := (dressIx ad j).toNat) (by decide) (by decide) (fun h₄ keep₄ => ?_) (by rw [dress_tok.1]; omega) fun h₄ tk₄ t₄ keep₄ => ⟨⟨_, rfl⟩, _, _, rfl, keep₄⟩
    rw [hix]
    have up : ∀ b o, s.heap.get? b = some o → h₄.get? b = some o := fun b o q => keep₄ b o (keep₃ b o q)
    refine .fmod (.fdiv (.itemC (n := Str.ofString "adds") (c := cA) (l := D) (ns := ad) (i := (j : Int)) rfl (relabel_free (by decide) hk (kn (by decide))) (by simp [compEnvC]) (hcl.keeps up) (hD.keeps fun o q => up _ o q) (.name (t := t) rfl (relabel_local (by decide)) (hn₃.keeps keep₄) hm₃) (by omega) (by omega) (by omega) (fun _ => by with_unfolding_all rfl) (by decide)) .const (by decide) (by decide)) .const (by decide)
  · intro P h' tk ys hP hpl hit keep'
    refine wpAny_BinOp (wpAny_List_spliced (lits_spliced (xs := [Str.ofString ""]) (by decide) fun vs tk₂ hvs => ⟨?_, ?_⟩))
    · have := strs_len hvs; have := sizeLine_eq; simp at *; omega
    have hvl := strs_len hvs
    refine wpAny_Constant_int (mul_keep (items := vs.toArray) (x := 10) ⟨0, Heap.get?_push_size _ rfl⟩ ?_ (by decide) (by decide) ?_ fun h₃ hR keep₃ => ?_)
    · cases vs with
      | nil => simp at hvl
      | cons => rfl
    · simp at hvl ⊢; omega
    have up₃ : ∀ b o, h'.get? b = some o → h₃.get? b = some o := fun b o q => keep₃ b o (Heap.get?_push_of_some _ q)
    refine add_items (hpl.at fun o q => up₃ _ o q) hR ?_ fun h₄ hF keep₄ => ?_
    · have h1 := hit.1
      rw [h1]
      simp at hvl ⊢; omega
    have up₄ : ∀ b o, s.heap.get? b = some o → h₄.get? b = some o := fun b o q => keep₄ b o (up₃ b o (keep' b o q))
    refine wpAny_storeName_local (kn (by decide)) (hn.keeps up₄) (fun h₅ hn₅ hs₅ => ?_) (plainScope hk)
    rw [e.locals] at hn₅ hs₅
    replace hs₅ : Heap.SameBut L h₄ h₅ := hs₅
    have hFL : h₃.objs.size ≠ L := by
      have := (hn.keeps fun b o q => up₃ b o (keep' b o q)).lt
      rw [e.locals] at this
      exact Nat.ne_of_gt this
    refine h _ h₅ _ ?_ (StrsIn.keeps ⟨_, hF.isList, ?_⟩ fun o q => hs₅.extBut _ o hFL q) hn₅ ((Up.of_keep up₄).trans (.of_same hs₅))
    · cases q : s.heap.get? h₃.objs.size with
      | none => rfl
      | some o => exact absurd (Heap.lt_size (up₃ _ _ (keep' _ _ q))) (Nat.lt_irrefl _)
    · have := strs_append (strs_of_items hit) (rep_strs hvs (10 : Int).toNat)
      simpa [dressOf] using this

theorem most_stmt {env : Env} {L c l : Addr} {base : Heap} {ns : List Int} {m : Str → Option Value} {Q : Flow → Shared → Prop} (e : EnvFor env (stmtAt atLaw) L) (hh : A.handled = none) (hb : ∀ b o, base.get? b = some o → s.heap.get? b = some o)
    (hg : ∃ mg, base.Ns mainGlobals mg ∧ mg "sum" = none) (hbl : ∃ mb, base.Ns builtinsNs mb ∧ mb "sum" = some (.builtin "sum"))
    (hn : s.heap.Ns L m) (hc : env.cells.lookup (Str.ofString "script") = some c) (hcl : s.heap.IsCell c (some (.ref l))) (hl : IntsIn s.heap l ns)
    (h : ∀ h' t tk, h'.Ns L (fun z => if z = Str.ofString "most" then some (.int (2 + (ns.sum.fdiv 4).fmod 2) t) else m z) → Up L s.heap h' → Q .next { s with heap := h', toks := tk }) :
    wpAny (model prog w) A (exec (lawStmt 3) env) Q E s := by
  have hk : env.scope.kind = .function := e.kind rfl
  have kn : ∀ {n : Str} {q : NameKind}, (defScope (stmtAt atLaw)).names.lookup n = some q → env.kindOf n = some q := fun {n q} hq => by
    show env.scope.names.lookup n = _
    rw [e.scope]; exact hq
  obtain ⟨mg, hg, hg1⟩ := hg
  obtain ⟨mb, hbl, hbl1⟩ := hbl
  rw [← e.locals] at hn
  refine wpAny_Assign_Name (wpAny_BinOp (wpAny_Constant_int (wpAny_BinOp (wpAny_BinOp (Call_Name1 (Calls.Name_function_global hk (kn (by decide)) (Calls.loadGlobal_builtin (e.globals ▸ hg.keeps hb) hg1 (e.builtins ▸ hbl.keeps hb) hbl1 (Calls.callWith_builtin rfl (Calls.evalArgs_plain (Calls.spliced_cons ?_))))))))))
  refine wpAny_Name (wpAny_loadName_cell hk (kn (by decide)) hc hcl ?_) (by decide)
  refine Calls.spliced_nil (sum_keep hh hl fun h₂ tk₂ t₂ keep₂ => wpAny_Constant_int (floordiv_int (by decide) (wpAny_Constant_int (mod_int (by decide) (add_int ?_))) (.inl (PyProof.noPylong_of_log2 (by decide)))))
  refine wpAny_storeName_local (kn (by decide)) (hn.keeps keep₂) (fun h₃ hn₃ hs₃ => ?_) (plainScope hk)
  rw [e.locals] at hn₃ hs₃
  exact h h₃ _ _ hn₃ ((Up.of_keep keep₂).trans (.of_same hs₃))
end
end Mine
namespace Mine
open PySem

structure WordNames (base : Heap) (fA fB : Addr) : Prop where
  glob : ∃ mg, base.Ns mainGlobals mg ∧ mg "Int2AP" = some (.ref fA) ∧ mg "isinstance" = none ∧ mg "bytes" = none ∧ mg "_law_below_the_top" = some (.ref fB)
  blt : ∃ mb, base.Ns builtinsNs mb ∧ mb "isinstance" = some (.builtin "isinstance") ∧ mb "bytes" = some (.type "bytes")

theorem v1 : ¬ (Str.ofString "first" = Str.ofString "word") := by decide

section
variable {prog : Program} {w : World} {A : Around} {E : Value → Shared → Prop} {s : Shared}

set_option maxHeartbeats 1000000 in
/-- Int2AP(less) and Int2AP(-less) are both held against _law_below_the_top(first) -/
theorem word_stmt {env : Env} {L F : Addr} {fA fB : Addr} {base : Heap} {cut : Int} {bx : List Int} {tc : Tok} {m : Str → Option Value} {Q : Flow → Shared → Prop} (e : EnvFor env (stmtAt atLaw) L) (hh : A.handled = none) (hroom : A.depth + 1 < recursionLimit) (hu : A.units + 3 < cLine)
    (NI : IntNames base fA) (NB : BelowNames base fB) (N : WordNames base fA fB) (hb : ∀ b o, base.get? b = some o → s.heap.get? b = some o) (hLb : base.get? L = none) (hn : s.heap.Ns L m) (hcut : m "less" = some (.int cut tc)) (hf : m "first" = some (.ref F)) (hF : IntsIn s.heap F bx) (hFL : F ≠ L)
    (hz : bx.length ≤ 1000) (hvb : ∀ n ∈ bx, -1000 ≤ n ∧ n ≤ 1000) (hr : ∀ n ∈ belOf bx, 0 ≤ n ∧ n < 256)
    (hap : (ap cut.natAbs).toArray = byteArr (belOf bx)) (hsz : cut.natAbs < 16 ^ 64)
    (h : ∀ s' m', s'.heap.Ns L m' → (∀ n, ¬ n = Str.ofString "word" → m' n = m n) → Up L s.heap s'.heap → s'.os = s.os → (AllBare s.gens → AllBare s'.gens) → Q .next s') :
    wpAny (model prog w) A (exec (lawStmt 6) env) Q E s := by
  have hk : env.scope.kind = .function := e.kind rfl
  have kn : ∀ {n : Str} {q : NameKind}, (defScope (stmtAt atLaw)).names.lookup n = some q → env.kindOf n = some q := fun {n q} hq => by
    show env.scope.names.lookup n = _
    rw [e.scope]; exact hq
  obtain ⟨mg, hg, hg1, hg2, hg3, hg4⟩ := N.glob
  obtain ⟨mb, hbl, hbl2, hbl3⟩ := N.blt
  rw [← e.locals] at hn
  refine wpAny_For (wpAny_List_spliced ?_)
  refine spliced_more (callDef1 hk (kn (by decide)) (e.globals ▸ hg) hg1 NI.def_ hb (nm hk (kn (by decide)) hn hcut ⟨hb, call_int NI hb hh hroom hsz fun t1 s₁ x₁ => ?_⟩))
  have hb₁ : ∀ b o, base.get? b = some o → s₁.heap.get? b = some o := fun b o q => x₁.keep b o (hb b o q)
  have hn₁ := hn.keeps x₁.keep
  refine spliced_more (callDef1 hk (kn (by decide)) (e.globals ▸ hg) hg1 NI.def_ hb₁ (wpAny_UnaryOp (nm hk (kn (by decide)) hn₁ hcut (neg_int ⟨hb₁, call_int NI hb₁ hh hroom (by rw [Int.natAbs_neg]; exact hsz) fun t2 s₂ x₂ => ?_⟩))))
  rw [Int.natAbs_neg]
  have keep₂ : ∀ b o, s.heap.get? b = some o → s₂.heap.get? b = some o := fun b o q => x₂.keep b o (x₁.keep b o q)
  have hos₂ : s₂.os = s.os := x₂.os.trans x₁.os
  have hbare₂ : AllBare s.gens → AllBare s₂.gens := fun q => x₂.bare (x₁.bare q)
  have hn₂ : s₂.heap.Ns env.locals m := hn.keeps keep₂
  refine Calls.spliced_nil ⟨by show 2 ≤ sizeLine; decide, ?_⟩
  refine wpAny_pyIter_list ⟨_, Heap.get?_push_size _ rfl, rfl, _, rfl⟩ ?_
  obtain ⟨items, hitems⟩ : ∃ items : Array Value, items = #[.bytes (ap cut.natAbs).toArray t1, .bytes (ap cut.natAbs).toArray t2] := ⟨_, rfl⟩
  have hLlt := hn₂.lt
  have hBL : s₂.heap.objs.size ≠ env.locals := Nat.ne_of_gt hLlt
  have hIL : s₂.heap.objs.size + 1 ≠ env.locals := Nat.ne_of_gt (Nat.lt_succ_of_lt hLlt)
  have hBI : s₂.heap.objs.size ≠ s₂.heap.objs.size + 1 := Nat.ne_of_lt (Nat.lt_succ_self _)
  have hI₀ : s₂.heap.get? (s₂.heap.objs.size + 1) = none := by
    cases q : s₂.heap.get? (s₂.heap.objs.size + 1) with
    | none => rfl
    | some o => exact absurd (Heap.lt_size q) (Nat.not_lt.mpr (Nat.le_succ _))
  have hbare := hbare₂
  have eSz : (s₂.heap.push { cls := .type "list", data := .seq items }).objs.size = s₂.heap.objs.size + 1 := Heap.size_push ..
  show codeAny _ _ (.forLoop _ (.ref (s₂.heap.push { cls := .type "list", data := .seq #[.bytes (ap cut.natAbs).toArray t1, .bytes (ap cut.natAbs).toArray t2] }).objs.size) _ _ _) _ { s₂ with heap := (s₂.heap.push { cls := .type "list", data := .seq #[.bytes (ap cut.natAbs).toArray t1, .bytes (ap cut.natAbs).toArray t2] }).push _ }
  rw [← hitems, eSz]
  have up₃ : ∀ b o, s₂.heap.get? b = some o → ((s₂.heap.push { cls := .type "list", data := .seq items }).push { cls := .type "list_iterator", data := .fields #[.ref s₂.heap.objs.size, .int 0 0] }).get? b = some o :=
    fun b o q => Heap.get?_push_of_some _ (Heap.get?_push_of_some _ q)
  have hB₃ : ((s₂.heap.push { cls := .type "list", data := .seq items }).push { cls := .type "list_iterator", data := .fields #[.ref s₂.heap.objs.size, .int 0 0] }).get? s₂.heap.objs.size = some { cls := .type "list", data := .seq items } := Heap.get?_push_of_some _ (Heap.get?_push_size _ rfl)
  have hI₃ : ((s₂.heap.push { cls := .type "list", data := .seq items }).push { cls := .type "list_iterator", data := .fields #[.ref s₂.heap.objs.size, .int 0 0] }).get? (s₂.heap.objs.size + 1) = some { cls := .type "list_iterator", data := .fields #[.ref s₂.heap.objs.size, .int 0 0] } := by
    rw [← eSz]; exact Heap.get?_push_size _ rfl
  obtain ⟨H₃, hH₃⟩ : ∃ H, H = ((s₂.heap.push { cls := .type "list", data := .seq items }).push { cls := .type "list_iterator", data := .fields #[.ref s₂.heap.objs.size, .int 0 0] }) := ⟨_, rfl⟩
  rw [← hH₃] at up₃ hB₃ hI₃ ⊢
  refine codeAny_forLoop (fun k s' => ∃ j h' tk m', k = 3 - j ∧ j ≤ 2 ∧ s' = { s₂ with heap := h', toks := tk } ∧ (∀ b o, b ≠ env.locals → s₂.heap.get? b = some o → h'.get? b = some o) ∧ h'.IsListIter (s₂.heap.objs.size + 1) s₂.heap.objs.size j ∧
    h'.get? s₂.heap.objs.size = some { cls := .type "list", data := .seq items } ∧ h'.Ns env.locals m' ∧ (∀ n, ¬ n = Str.ofString "word" → m' n = m n)) ?_ 3 ⟨0, H₃, s₂.toks, m, rfl, by decide, rfl, fun b o _ q => up₃ b o q, ⟨_, hI₃, rfl, rfl⟩, hB₃, hn₂.keeps up₃, fun _ _ => rfl⟩
  rintro k s' ⟨j, h', tk, m', rfl, hj, rfl, p1, p2, p3, p4, p5⟩
  have hBl : h'.IsList s₂.heap.objs.size items := ⟨_, p3, rfl, _, rfl⟩
  by_cases hj2 : j = 2
  · subst hj2
    refine wpAny_pyNext_list_end hh p2 hBl (by rw [hitems]; rfl) fun h₁ hx₁ => wpAny_execs_nil ?_
    replace hx₁ : Heap.ExtBut (s₂.heap.objs.size + 1) h' h₁ := hx₁
    refine h _ m' (e.locals ▸ p4.at' fun o q => hx₁ _ o (Ne.symm hIL) q) p5 (fun b o hbL q => ?_) hos₂ hbare₂
    rw [← e.locals] at hbL
    have q₂ := keep₂ b o q
    exact hx₁ b o (fun z => by rw [z, hI₀] at q₂; cases q₂) (p1 b o hbL q₂)
  · obtain ⟨t, hv⟩ : ∃ t, items[j]? = some (.bytes (ap cut.natAbs).toArray t) := by
      have : j = 0 ∨ j = 1 := by omega
      rcases this with rfl | rfl
      · exact ⟨t1, by rw [hitems]; rfl⟩
      · exact ⟨t2, by rw [hitems]; rfl⟩
    refine wpAny_pyNext_list_item p2 hBl hv fun h₁ hit₁ hs₁ => ?_
    replace hs₁ : Heap.SameBut (s₂.heap.objs.size + 1) h' h₁ := hs₁
    refine wpAny_assign_Name (wpAny_storeName_local (kn (by decide)) (p4.sameBut hs₁ (Ne.symm hIL)) (fun h₂ hn₂ hs₂ => ?_) (plainScope hk))
    replace hs₂ : Heap.SameBut env.locals h₁ h₂ := hs₂
    have up₂ : ∀ b o, b ≠ env.locals → s₂.heap.get? b = some o → h₂.get? b = some o := fun b o hbL q => hs₂.extBut b o hbL (hs₁.extBut b o (fun z => by rw [z, hI₀] at q; cases q) (p1 b o hbL q))
    have hb₂ : ∀ b o, base.get? b = some o → h₂.get? b = some o := fun b o q => up₂ b o (fun z => by rw [z, e.locals, hLb] at q; cases q) (x₂.keep b o (hb₁ b o q))
    have hF₂ : IntsIn h₂ F bx := hF.keeps fun o q => up₂ F o (fun z => hFL (z.trans e.locals)) (keep₂ F o q)
    refine wpAny_execs_cons (wpAny_If (isTrue_or (isTrue_not (isTrue_plain (Call_Name2 ?_)))))
    refine Calls.Name_function_global hk (kn (by decide)) (Calls.loadGlobal_builtin (e.globals ▸ hg.keeps hb₂) hg2 (e.builtins ▸ hbl.keeps hb₂) hbl2 ?_)
    refine Calls.callWith_builtin rfl (Calls.evalArgs_plain (Calls.spliced_cons ?_))
    refine nm hk (kn (by decide)) hn₂ (v := .bytes (ap cut.natAbs).toArray t) (by simp) (Calls.spliced_cons ?_)
    refine Calls.Name_function_global hk (kn (by decide)) (Calls.loadGlobal_builtin (e.globals ▸ hg.keeps hb₂) hg3 (e.builtins ▸ hbl.keeps hb₂) hbl3 ?_)
    refine Calls.spliced_nil (isi_bytes (wpAny_truthy_bool ?_))
    show if false = true then _ else _
    rw [if_neg Bool.false_ne_true]
    refine isTrue_or (wpAny_isTrue_Compare1 (nm hk (kn (by decide)) hn₂ (v := .bytes (ap cut.natAbs).toArray t) (by simp) ?_))
    refine callDef1 (base := base) hk (kn (by decide)) (e.globals ▸ hg) hg4 NB.def_ hb₂ (nm hk (kn (by decide)) hn₂ (v := .ref F) (by simp [v1, p5 _ v1, hf]) ⟨hb₂, call_below NB hb₂ hh (by omega) hu hF₂ hz hvb hr fun t₅ s₅ x₅ => ?_⟩)
    obtain ⟨h₅, tk₅, rfl, keep₅⟩ := x₅
    rw [← hap]
    refine ne_bytes (wpAny_truthy_bool ?_)
    have hne : ((ap cut.natAbs).toArray.toList != (ap cut.natAbs).toArray.toList) = false := by simp
    rw [hne, if_neg Bool.false_ne_true]
    refine isTrue_or_nil ?_
    rw [if_neg Bool.false_ne_true]
    refine wpAny_execs_nil (wpAny_execs_nil ?_)
    replace keep₅ : ∀ b o, h₂.get? b = some o → h₅.get? b = some o := keep₅
    refine ⟨3 - (j + 1), by omega, j + 1, h₅, _, _, rfl, by omega, rfl, fun b o hbL q => keep₅ b o (up₂ b o hbL q), ?_, ?_, hn₂.keeps keep₅, fun n hnw => ?_⟩
    · obtain ⟨o, ho, r⟩ := hit₁
      exact ⟨o, keep₅ _ _ (hs₂.extBut _ _ hIL ho), r⟩
    · exact keep₅ _ _ (hs₂.extBut _ _ hBL (hs₁.extBut _ _ hBI p3))
    · rw [if_neg hnw]; exact p5 n hnw
end
end Mine
namespace Mine
open PySem

def secondOf (ad : List Int) : List Int := turnOf (firstOf ad) (piecesOf (firstOf ad) (dressOf ad)) true
def lessOf (ad : List Int) : Int := numOf (firstOf ad) - numOf (secondOf ad)

structure Facts (ad : List Int) (most : Int) : Prop where
  small : ∀ n ∈ firstOf ad, -1000 ≤ n ∧ n ≤ 1000
  below : ∀ n ∈ belOf (firstOf ad), 0 ≤ n ∧ n < 256
  word : (ap (lessOf ad).natAbs).toArray = byteArr (belOf (firstOf ad))
  size : (lessOf ad).natAbs < 16 ^ 64
  len2 : (secondOf ad).length = 16
  lenC : (carOf most (firstOf ad)).length = 16
  swap : turnOf (carOf most (firstOf ad)) (piecesOf (carOf most (firstOf ad)) (dressOf ad)) false = carOf most (secondOf ad)

structure TopNames (base : Heap) (fL fU fR fN : Addr) : Prop where
  def_ : FnIs base (stmtAt atLaw) fL
  carDef : FnIs base (stmtAt atCarried) fR
  numDef : FnIs base (stmtAt atNumber) fN
  glob : ∃ mg, base.Ns mainGlobals mg ∧ mg "range" = none ∧ mg "sum" = none ∧ mg "_law_turned" = some (.ref fU) ∧ mg "_law_number" = some (.ref fN) ∧ mg "_law_carried" = some (.ref fR)
  blt : ∃ mb, base.Ns builtinsNs mb ∧ mb "range" = some (.type "range") ∧ mb "sum" = some (.builtin "sum")

theorem x1 : ¬ (Str.ofString "first" = Str.ofString "dress") := by decide
theorem x2 : ¬ (Str.ofString "first" = Str.ofString "most") := by decide
theorem x3 : ¬ (Str.ofString "dress" = Str.ofString "most") := by decide
theorem x4 : ¬ (Str.ofString "first" = Str.ofString "second") := by decide
theorem x5 : ¬ (Str.ofString "dress" = Str.ofString "second") := by decide
theorem x6 : ¬ (Str.ofString "most" = Str.ofString "second") := by decide
theorem x7 : ¬ (Str.ofString "first" = Str.ofString "less") := by decide
theorem x8 : ¬ (Str.ofString "dress" = Str.ofString "less") := by decide
theorem x9 : ¬ (Str.ofString "most" = Str.ofString "less") := by decide
theorem x10 : ¬ (Str.ofString "second" = Str.ofString "less") := by decide
theorem x11 : ¬ (Str.ofString "dress" = Str.ofString "word") := by decide
theorem x12 : ¬ (Str.ofString "most" = Str.ofString "word") := by decide
theorem x13 : ¬ (Str.ofString "second" = Str.ofString "word") := by decide

theorem StrsIn.up {L l : Addr} {h h' : Heap} {xs : List Str} (x : StrsIn h l xs) (u : Up L h h') (hl : l ≠ L) : StrsIn h' l xs := x.keeps fun o q => u l o hl q
theorem StrsIn.ne {l L : Addr} {h : Heap} {xs : List Str} {m : Str → Option Value} (x : StrsIn h l xs) (hn : h.Ns L m) : l ≠ L := by
  rintro rfl
  obtain ⟨vs, ⟨o, ho, hc, n, hd⟩, _⟩ := x
  obtain ⟨o', _, _, ho', hd', _⟩ := hn
  rw [ho] at ho'
  cases ho'
  rw [hd] at hd'
  cases hd'

theorem dressOf_len (ad : List Int) : (dressOf ad).length = 16 := by simp [dressOf]
theorem dressOf_small (ad : List Int) : ∀ y ∈ dressOf ad, y.length ≤ 40 := by
  have key : ∀ y ∈ dresses, y.length ≤ 40 := by decide +kernel
  intro y hy
  rcases List.mem_append.mp hy with h | h
  · obtain ⟨j, _, rfl⟩ := List.mem_map.mp h
    unfold dressAt
    rw [List.getD_eq_getElem?_getD]
    cases q : dresses[(dressIx ad j).toNat]? with
    | none => decide
    | some y => exact key y (List.mem_of_getElem? q)
  · have : y = Str.ofString "" := by simpa using h
    subst this
    decide

theorem addsOf_len (ns : List Int) (cnt : Nat) (st : Int) : (addsOf ns cnt st).length = cnt := by simp [addsOf]

section
variable {prog : Program} {w : World} {A : Around} {E : Value → Shared → Prop} {s : Shared}

theorem callDefN {env : Env} {f : Str} {p pos : Pos} {e : Expr} {es : List Expr} {a : Addr} {st : Stmt} {base : Heap} {mg : Str → Option Value} {Q : Value → Shared → Prop} (hk : env.scope.kind = .function) (hx : env.kindOf f = some .globalImplicit)
    (hg : base.Ns env.globals mg) (hv : mg f = some (.ref a)) (fn : FnIs base st a) (hb : ∀ b o, base.get? b = some o → s.heap.get? b = some o)
    (h : wpAny (model prog w) A (eval e env) (fun v s₁ => wpAny (model prog w) A (spliced (backTo pos (starEach es env))) (fun vs s₂ => (∀ b o, base.get? b = some o → s₂.heap.get? b = some o) ∧ wpAny (model prog w) A (call (.ref a) (v :: vs)) Q E s₂) E s₁) E s)
    (he : starEach (e :: es) env = (false, eval e env) :: starEach es env := by rfl) (hd : (f == ("__debug__" : Str)) = false := by decide) :
    wpAny (model prog w) A (eval (.Call (.Name f p) (e :: es) [] pos) env) Q E s := by
  obtain ⟨o, fd, h1, h2, _⟩ := fn.out
  refine Call_Name (trees := (false, eval e env) :: backTo pos (starEach es env)) (by rw [he]; rfl) (Calls.Name_function_global hk hx (Calls.loadGlobal_global (hg.keeps hb) hv ?_) hd)
  exact Calls.callWith_function (o := o) (fd := fd) (Calls.evalArgs_plain (Calls.spliced_cons (wpAny_mono h (fun v s₁ h₁ => wpAny_mono h₁ (fun vs s₂ h₂ => ⟨⟨h₂.1 _ _ h1, h2⟩, h₂.2⟩) fun _ _ e => e) fun _ _ e => e)))

set_option maxHeartbeats 4000000 in
theorem call_law {base : Heap} {fI fS fC fT fA fB fL fU fR fN l : Addr} {ns : List Int} {Q : Value → Shared → Prop} (HF : ∀ ad most, ad.length = 6 → (most = 2 ∨ most = 3) → Facts ad most)
    (N : Names base fI fS fC) (N2 : TakenNames base fC fT) (N3 : TurnNames base fU fT) (NI : IntNames base fA) (NB : BelowNames base fB) (NW : WordNames base fA fB) (N5 : TopNames base fL fU fR fN) (hh : A.handled = none) (hroom : A.depth + 5 < recursionLimit) (hu : A.units + 6 < cLine)
    (hb : ∀ b o, base.get? b = some o → s.heap.get? b = some o) (hl : IntsIn s.heap l ns) (hz : ns.length ≤ 1000) (h : ∀ s', Ext s s' → Q (.bool true) s') :
    wpAny (model prog w) A (call (.ref fL) [.ref l]) Q E s := by
  refine enterCells (cs := fun L => cellsFrom L (defScope (stmtAt atLaw)).names []) (binds := [("script", .ref l)]) (by omega) N5.def_ N.lim hb ?_ (fun _ => rfl) ?_ rfl rfl rfl fun env h₁ tk₁ e1 e2 e3 e4 e5 e6 hcells hapart hn hk₁ => ?_
  · rintro ⟨name, qualname, params, body, scope, globals, closure, defaults, kwdefaults, doc, pyModule, anns, code, closureTuple, builtins⟩ h1 h2 h3
    dsimp only at h1 h2 h3
    subst h1 h2 h3
    rfl
  · intro L y hy
    rcases List.mem_cons.mp hy with rfl | hy
    · exact .inr ⟨rfl, rfl⟩
    cases hy
  have e : EnvFor env (stmtAt atLaw) s.heap.objs.size := ⟨e1, e2, e3, e4, e5⟩
  have hk : env.scope.kind = .function := e.kind rfl
  have kn : ∀ {n : Str} {q : NameKind}, (defScope (stmtAt atLaw)).names.lookup n = some q → env.kindOf n = some q := fun {n q} hq => by
    show env.scope.names.lookup n = _
    rw [e.scope]; exact hq
  have hh' : (A.deeper env).handled = none := hh
  have hroom' : (A.deeper env).depth + 4 < recursionLimit := by show A.depth + 1 + 4 < _; omega
  have hu' : (A.deeper env).units + 3 < cLine := by show A.units + 3 + 3 < _; omega
  obtain ⟨L, hL⟩ : ∃ L, L = s.heap.objs.size := ⟨_, rfl⟩
  have hLs : s.heap.get? L = none := hL ▸ getAbove _
  have lcs : env.cells.lookup (Str.ofString "script") = some (s.heap.objs.size + 1) := by rw [e6]; rfl
  have lca : env.cells.lookup (Str.ofString "adds") = some (s.heap.objs.size + 1 + 1) := by rw [e6]; rfl
  obtain ⟨hcsL, hcs0, hcls⟩ := hcells _ _ lcs
  obtain ⟨hcaL, hca0, hcla⟩ := hcells _ _ lca
  have hcsa := hapart _ _ _ _ lcs lca (by decide)
  obtain ⟨cS, hcS⟩ : ∃ c, c = s.heap.objs.size + 1 := ⟨_, rfl⟩
  obtain ⟨cA, hcA⟩ : ∃ c, c = s.heap.objs.size + 1 + 1 := ⟨_, rfl⟩
  rw [← hcA] at lca hcaL hca0 hcla hcsa
  rw [← hcS] at lcs hcsL hcs0 hcls hcsa
  rw [← hL] at e hn hcsL hcaL
  replace hcls : h₁.IsCell cS (some (.ref l)) := hcls
  have heL := e.locals
  have hLb : base.get? L = none := by
    cases q : base.get? L with
    | none => rfl
    | some o => rw [hb _ _ q] at hLs; cases hLs
  obtain ⟨mg, hg, hg1, hg2, hg3, hg4, hg5⟩ := N5.glob
  obtain ⟨mb, hbl, hbl1, hbl2⟩ := N5.blt
  have hb₁ : ∀ b o, base.get? b = some o → h₁.get? b = some o := fun b o q => hk₁ b o (hb b o q)
  have hlL : l ≠ L := by rintro rfl; obtain ⟨_, ⟨o, q, _⟩, _⟩ := hl; rw [hLs] at q; cases q
  have hlA : l ≠ cA := by rintro rfl; obtain ⟨_, ⟨o, q, _⟩, _⟩ := hl; rw [hca0] at q; cases q
  have old : ∀ {b o}, s.heap.get? b = some o → b ≠ L ∧ b ≠ cA := fun {b o} q => ⟨fun z => (by rw [z, hLs] at q; cases q), fun z => (by rw [z, hca0] at q; cases q)⟩
  obtain ⟨M₁, a₁, hn₁⟩ := forget hn
  -- adds
  refine wpAny_execs_cons (adds_cell (cnt := 6) (c := cS) (cy := cA) (l := l) (ns := ns) (base := base) hh' hk (kn (by decide)) lcs (kn (by decide)) lca (kn (by decide)) rfl rfl (by decide) (by decide) (by decide) (by decide) (by decide) (e.builtins ▸ hbl) hbl1 hbl2 (e.globals ▸ hg) hg1 hg2 hb₁ hcls hcla (hl.keeps fun o q => hk₁ _ o q) hz (by decide) (by decide) (by decide) (by decide)
    fun D h₂ tk₂ hD₀ hDA hD hcl₂ u₂ => ?_)
  replace u₂ : ∀ b o, b ≠ cA → h₁.get? b = some o → h₂.get? b = some o := u₂
  replace hD₀ : h₁.get? D = none := hD₀
  obtain ⟨ad, had⟩ : ∃ ad, ad = addsOf ns 6 6 := ⟨_, rfl⟩
  have len : ad.length = 6 := had ▸ addsOf_len _ _ _
  rw [← had] at hD
  have hn₂ : h₂.Ns L M₁ := hn₁.at' fun o q => u₂ L o (Ne.symm hcaL) q
  have hDL : D ≠ L := hD.ne hn₂
  have U₂ : ∀ b o, s.heap.get? b = some o → h₂.get? b = some o := fun b o q => u₂ b o (old q).2 (hk₁ b o q)
  have hclS₂ : h₂.IsCell cS (some (.ref l)) := let ⟨o, ho, r⟩ := hcls; ⟨o, u₂ _ o hcsa ho, r⟩
  have F := HF ad (2 + (ns.sum.fdiv 4).fmod 2) len (by
    have h1 := Int.fmod_nonneg_of_pos (ns.sum.fdiv 4) (show (0 : Int) < 2 by decide)
    have h2 := Int.fmod_lt_of_pos (ns.sum.fdiv 4) (show (0 : Int) < 2 by decide)
    omega)
  -- first
  refine wpAny_execs_cons (first_stmt e hh' ⟨⟨mg, hg, hg1⟩, ⟨mb, hbl, hbl1⟩⟩ (fun b o q => U₂ b o (hb b o q)) hn₂ lca hcl₂ hD len fun Fa h₃ tk₃ hF₀ hF hn₃ u₃ => ?_)
  replace u₃ : Up L h₂ h₃ := u₃
  have U₃ : Up L s.heap h₃ := fun b o hb' q => u₃ b o hb' (U₂ b o q)
  obtain ⟨M₃, a₃, hn₃⟩ := forget hn₃
  have hFL : Fa ≠ L := hF.ne hn₃
  -- dress
  refine wpAny_execs_cons (dress_stmt e hh' ⟨⟨mg, hg, hg1⟩, ⟨mb, hbl, hbl1⟩⟩ (base_up hb hLb U₃) hn₃ lca (cell_up hcl₂ u₃ hcaL) (hD.up u₃ hDL) len fun Da h₄ tk₄ hW₀ hW hn₄ u₄ => ?_)
  replace u₄ : Up L h₃ h₄ := u₄
  have U₄ := U₃.trans u₄
  obtain ⟨M₄, a₄, hn₄⟩ := forget hn₄
  have hWL : Da ≠ L := hW.ne hn₄
  -- most
  refine wpAny_execs_cons (most_stmt (base := base) e hh' (base_up hb hLb U₄) ⟨mg, hg, hg2⟩ ⟨mb, hbl, hbl2⟩ hn₄ lcs (cell_up (cell_up hclS₂ u₃ hcsL) u₄ hcsL) (hl.up U₄ hlL) fun h₅ t₅ tk₅ hn₅ u₅ => ?_)
  replace u₅ : Up L h₄ h₅ := u₅
  have U₅ := U₄.trans u₅
  obtain ⟨M₅, a₅, hn₅⟩ := forget hn₅
  obtain ⟨most, hmost⟩ : ∃ most, most = 2 + (ns.sum.fdiv 4).fmod 2 := ⟨_, rfl⟩
  have b1 : M₅ "first" = some (.ref Fa) := by rw [a₅, a₄, a₃]; simp [x1, x2]
  have b2 : M₅ "dress" = some (.ref Da) := by rw [a₅, a₄]; simp [x3]
  have b3 : M₅ "most" = some (.int most t₅) := by rw [a₅, hmost]; simp
  rw [← hmost] at F
  have hF₅ : IntsIn h₅ Fa (firstOf ad) := (hF.up u₄ hFL).up u₅ hFL
  have hW₅ : StrsIn h₅ Da (dressOf ad) := hW.up u₅ hWL
  have hb₅ := base_up hb hLb U₅
  have lenF : (firstOf ad).length = 16 := by simp [firstOf]
  clear a₃ a₄ a₅
  -- second
  refine wpAny_execs_cons (wpAny_Assign_Name (callDefN (base := base) hk (kn (by decide)) (e.globals ▸ hg) hg3 N3.def_ hb₅ ?_))
  refine (nm hk (kn (by decide)) (heL ▸ hn₅) b1 (spliced_more (nm hk (kn (by decide)) (heL ▸ hn₅) b2 (spliced_more (wpAny_Constant_bool (Calls.spliced_nil ⟨hb₅, ?_⟩))))))
  refine call_turned N N2 N3 hh' hroom' hb₅ hF₅ hW₅ lenF (dressOf_len ad) (dressOf_small ad) fun S s₆ x₆ hS => ?_
  have keep₆ : ∀ b o, h₅.get? b = some o → s₆.heap.get? b = some o := x₆.keep
  have hn₆ : s₆.heap.Ns L M₅ := hn₅.keeps keep₆
  have hSL : S ≠ L := hS.ne hn₆
  refine wpAny_storeName_local (kn (by decide)) (heL ▸ hn₆) (fun h₇ hn₇ hs₇ => ?_) (plainScope hk)
  rw [heL] at hn₇ hs₇
  have u₇ : Up L s₆.heap h₇ := .of_same hs₇
  obtain ⟨M₇, a₇, hn₇⟩ := forget hn₇
  have U₇ : Up L s.heap h₇ := (U₅.trans (.of_keep keep₆)).trans u₇
  have v57 : Up L h₅ h₇ := (Up.of_keep keep₆).trans u₇
  have c1 : M₇ "first" = some (.ref Fa) := by rw [a₇]; simp [x4, b1]
  have c2 : M₇ "dress" = some (.ref Da) := by rw [a₇]; simp [x5, b2]
  have c3 : M₇ "most" = some (.int most t₅) := by rw [a₇]; simp [x6, b3]
  have c4 : M₇ "second" = some (.ref S) := by rw [a₇]; simp
  have hS₇ : IntsIn h₇ S (secondOf ad) := hS.up u₇ hSL
  have hF₇ := hF₅.up v57 hFL
  have hW₇ := hW₅.up v57 hWL
  have hb₇ := base_up hb hLb U₇
  have os₇ : s₆.os = s.os := x₆.os
  have bare₇ : AllBare s.gens → AllBare s₆.gens := x₆.bare
  clear a₇
  -- less
  refine wpAny_execs_cons (wpAny_Assign_Name (wpAny_BinOp (callDef1 (base := base) hk (kn (by decide)) (e.globals ▸ hg) hg4 N5.numDef hb₇ (nm hk (kn (by decide)) (heL ▸ hn₇) c1 ⟨hb₇, call_number N5.numDef N.lim hb₇ hh' (by omega) hF₇ fun t₈ s₈ x₈ => ?_⟩))))
  obtain ⟨h₈, tk₈, rfl, keep₈⟩ := x₈
  replace keep₈ : ∀ b o, h₇.get? b = some o → h₈.get? b = some o := keep₈
  have hb₈ : ∀ b o, base.get? b = some o → h₈.get? b = some o := fun b o q => keep₈ b o (hb₇ b o q)
  have hn₈ : h₈.Ns L M₇ := hn₇.keeps keep₈
  refine callDef1 (base := base) hk (kn (by decide)) (e.globals ▸ hg) hg4 N5.numDef hb₈ (nm hk (kn (by decide)) (heL ▸ hn₈) c4 ⟨hb₈, call_number N5.numDef N.lim hb₈ hh' (by omega) (hS₇.keeps fun o q => keep₈ _ o q) fun t₉ s₉ x₉ => ?_⟩)
  obtain ⟨h₉, tk₉, rfl, keep₉⟩ := x₉
  replace keep₉ : ∀ b o, h₈.get? b = some o → h₉.get? b = some o := keep₉
  have hn₉ : h₉.Ns L M₇ := hn₈.keeps keep₉
  refine sub_int (wpAny_storeName_local (kn (by decide)) (heL ▸ hn₉) (fun h₀ hn₀ hs₀ => ?_) (plainScope hk))
  rw [heL] at hn₀ hs₀
  replace hs₀ : Heap.SameBut L h₉ h₀ := hs₀
  have u₀ : Up L h₇ h₀ := fun b o hb' q => hs₀.extBut b o hb' (keep₉ b o (keep₈ b o q))
  obtain ⟨M₀, a₀, hn₀⟩ := forget hn₀
  have d1 : M₀ "first" = some (.ref Fa) := by rw [a₀]; simp [x7, c1]
  have d2 : M₀ "dress" = some (.ref Da) := by rw [a₀]; simp [x8, c2]
  have d3 : M₀ "most" = some (.int most t₅) := by rw [a₀]; simp [x9, c3]
  have d4 : M₀ "second" = some (.ref S) := by rw [a₀]; simp [x10, c4]
  obtain ⟨t₀, d5⟩ : ∃ t, M₀ "less" = some (.int (lessOf ad) t) := ⟨_, by rw [a₀]; exact if_pos rfl⟩
  have hS₀ := hS₇.up u₀ hSL
  have hF₀ := hF₇.up u₀ hFL
  have hW₀ := hW₇.up u₀ hWL
  have U₀ := U₇.trans u₀
  have hb₀ := base_up hb hLb U₀
  clear a₀
  -- the words
  refine wpAny_execs_cons (word_stmt (F := Fa) (bx := firstOf ad) e hh' (by omega) hu' NI NB NW hb₀ hLb hn₀ d5 d1 hF₀ hFL (by omega) F.small F.below F.word F.size fun s₁₁ m₁₁ hn₁₁ a₁₁ u₁₁ os₁₁ bare₁₁ => ?_)
  replace u₁₁ : Up L h₀ s₁₁.heap := u₁₁
  have g1 : m₁₁ "first" = some (.ref Fa) := (a₁₁ _ v1).trans d1
  have g2 : m₁₁ "dress" = some (.ref Da) := (a₁₁ _ x11).trans d2
  have g3 : m₁₁ "most" = some (.int most t₅) := (a₁₁ _ x12).trans d3
  have g4 : m₁₁ "second" = some (.ref S) := (a₁₁ _ x13).trans d4
  have hS₁₁ := hS₀.up u₁₁ hSL
  have hF₁₁ := hF₀.up u₁₁ hFL
  have hW₁₁ := hW₀.up u₁₁ hWL
  have U₁₁ := U₀.trans u₁₁
  have hb₁₁ := base_up hb hLb U₁₁
  -- the last
  refine wpAny_execs_cons (wpAny_Return_some (wpAny_Compare1 (callDefN (base := base) hk (kn (by decide)) (e.globals ▸ hg) hg3 N3.def_ hb₁₁ (callDefN (base := base) hk (kn (by decide)) (e.globals ▸ hg) hg5 N5.carDef hb₁₁ ?_))))
  refine (nm hk (kn (by decide)) (heL ▸ hn₁₁) g1 (spliced_more (nm hk (kn (by decide)) (heL ▸ hn₁₁) g3 (Calls.spliced_nil ⟨hb₁₁, ?_⟩))))
  refine call_carried N5.carDef N.lim hb₁₁ hh' (by omega) hF₁₁ (by omega) fun C s₁₂ x₁₂ hC => ?_
  obtain ⟨h₁₂, tk₁₂, rfl, keep₁₂⟩ := x₁₂
  have hb₁₂ : ∀ b o, base.get? b = some o → h₁₂.get? b = some o := fun b o q => keep₁₂ b o (hb₁₁ b o q)
  have hn₁₂ : h₁₂.Ns L m₁₁ := hn₁₁.keeps keep₁₂
  refine spliced_more (nm hk (kn (by decide)) (heL ▸ hn₁₂) g2 (spliced_more (wpAny_Constant_bool (Calls.spliced_nil ⟨hb₁₂, ?_⟩))))
  refine call_turned N N2 N3 hh' hroom' hb₁₂ hC (hW₁₁.keeps fun o q => keep₁₂ _ o q) F.lenC (dressOf_len ad) (dressOf_small ad) fun R s₁₃ x₁₃ hR => ?_
  have keep₁₃ : ∀ b o, h₁₂.get? b = some o → s₁₃.heap.get? b = some o := x₁₃.keep
  have hb₁₃ : ∀ b o, base.get? b = some o → s₁₃.heap.get? b = some o := fun b o q => keep₁₃ b o (hb₁₂ b o q)
  have hn₁₃ : s₁₃.heap.Ns L m₁₁ := hn₁₂.keeps keep₁₃
  refine callDefN (base := base) hk (kn (by decide)) (e.globals ▸ hg) hg5 N5.carDef hb₁₃ (nm hk (kn (by decide)) (heL ▸ hn₁₃) g4 (spliced_more (nm hk (kn (by decide)) (heL ▸ hn₁₃) g3 (Calls.spliced_nil ⟨hb₁₃, ?_⟩))))
  refine call_carried N5.carDef N.lim hb₁₃ hh' (by omega) (hS₁₁.keeps fun o q => keep₁₃ _ o (keep₁₂ _ o q)) (by rw [F.len2]; decide) fun C₂ s₁₄ x₁₄ hC₂ => ?_
  obtain ⟨h₁₄, tk₁₄, rfl, keep₁₄⟩ := x₁₄
  replace keep₁₄ : ∀ b o, s₁₃.heap.get? b = some o → h₁₄.get? b = some o := keep₁₄
  refine eq_ints (hR.keeps fun o q => keep₁₄ _ o q) hC₂ (by omega) ?_
  rw [decide_eq_true F.swap]
  refine h _ ⟨fun b o q => keep₁₄ b o (keep₁₃ b o (keep₁₂ b o (U₁₁ b o (old q).1 q))), x₁₃.os.trans (os₁₁.trans os₇), fun q => x₁₃.bare (bare₁₁ (bare₇ q))⟩
end
end Mine
namespace Mine
open PySem

def endP (tk : Int → Int → Bool) (longest : Bool) : Nat → Int → Int → Int
  | 0, _, e => e
  | f + 1, st, e => if st < e ∧ e < 17 ∧ tk st e = false then endP tk longest f st (if longest then e + -1 else e + 1) else e
def turnGoP (boxes : List Int) (tk : Int → Int → Bool) (longest : Bool) : Nat → List Int → List Int
  | 0, done => done
  | f + 1, done => if (pickNums boxes (some (done.length : Int)) none none).any (· == 1) = true then
      let st : Int := done.length
      let en := endP tk longest 20 st (if longest then 16 else st + 1)
      if st < en ∧ en < 17 then turnGoP boxes tk longest f (done ++ (pickNums boxes (some st) (some en) none).map fun b => 1 - b) else turnGoP boxes tk longest f (done ++ [itemAt boxes st])
    else done
def turnP (boxes : List Int) (tk : Int → Int → Bool) (longest : Bool) : List Int :=
  turnGoP boxes tk longest 17 [] ++ (List.replicate ((16 : Int) - (turnGoP boxes tk longest 17 []).length).toNat [0]).flatten

theorem endGo_P (ps : List Str) (lg : Bool) : ∀ (f : Nat) (st e : Int), endGo ps lg f st e = endP (takenAt ps) lg f st e
  | 0, _, _ => rfl
  | f + 1, st, e => by
    show (if _ then endGo ps lg f st _ else e) = (if _ then endP _ lg f st _ else e)
    rw [endGo_P ps lg f]
theorem turnGo_P (boxes : List Int) (ps : List Str) (lg : Bool) : ∀ (f : Nat) (done : List Int), turnGo boxes ps lg f done = turnGoP boxes (takenAt ps) lg f done
  | 0, _ => rfl
  | f + 1, done => by
    unfold turnGo turnGoP
    simp only [endGo_P, turnGo_P boxes ps lg f]
theorem turnOf_P (boxes : List Int) (ps : List Str) (lg : Bool) : turnOf boxes ps lg = turnP boxes (takenAt ps) lg := by
  unfold turnOf turnP
  rw [turnGo_P]

def balI : List Int → Int → Bool
  | [], n => n == 0
  | b :: r, n => if b ≠ 0 then balI r (n + 1) else if n - 1 < 0 then false else balI r (n - 1)
def balAt (boxes : List Int) (a b : Int) : Bool := balI (pickNums boxes (some a) (some b) none) 0

theorem bal_boxes (g : Nat → Int) : ∀ (l : List Nat) (n : Int), bal ((l.map fun p => [if g p ≠ 0 then Tk.op else Tk.cl]).flatten) n = balI (l.map g) n
  | [], _ => rfl
  | p :: l, n => by
    rw [List.map_cons, List.map_cons, List.flatten_cons, List.singleton_append]
    by_cases h : g p ≠ 0
    · rw [if_pos h]
      show bal _ (n + 1) = if g p ≠ 0 then _ else _
      rw [if_pos h, bal_boxes g l]
    · rw [if_neg h]
      show (if n - 1 < 0 then false else bal _ (n - 1)) = if g p ≠ 0 then _ else _
      rw [if_neg h, bal_boxes g l]

theorem strOf_append (a b : List Tk) : strOf a ++ strOf b = strOf (a ++ b) := by
  show (⟨(cpsOf a).toArray ++ (cpsOf b).toArray⟩ : Str) = ⟨(cpsOf (a ++ b)).toArray⟩
  unfold cpsOf
  rw [List.flatMap_append]
  simp

/-- what a dress's place holds, as tokens -/
def dressTk (ad : List Int) (p : Nat) : List Tk := if p < 6 then dtok (dressIx ad p).toNat else []
theorem dress_tokens (ad : List Int) (p : Nat) (hp : p < 16) : (dressOf ad).getD p (Str.ofString "") = strOf (dressTk ad p) := by
  unfold dressTk dressOf
  rw [List.getD_eq_getElem?_getD]
  by_cases h : p < 6
  · rw [if_pos h, List.getElem?_append_left (by simpa using h), List.getElem?_map, List.getElem?_range h]
    have r0 : 0 ≤ dressIx ad p := Int.fmod_nonneg_of_pos _ (show (0 : Int) < 5 by decide)
    have r1 : dressIx ad p < 5 := Int.fmod_lt_of_pos _ (show (0 : Int) < 5 by decide)
    exact dress_tok.2 _ (by omega)
  · rw [if_neg h, List.getElem?_append_right (by simp; omega)]
    have : ∀ i, i < 10 → (((List.replicate (10 : Int).toNat [Str.ofString ""]).flatten)[i]?).getD (Str.ofString "") = strOf [] := by decide +kernel
    exact this _ (by simp; omega)
theorem dtok_ok : ∀ i, i < 5 → (∀ t ∈ dtok i, t.ok) ∧ ∀ t ∈ dtok i, t.still = true := by
  intro i hi
  have : i = 0 ∨ i = 1 ∨ i = 2 ∨ i = 3 ∨ i = 4 := by omega
  rcases this with rfl | rfl | rfl | rfl | rfl <;> simp [dtok, Tk.ok, Tk.still]
theorem dressTk_ok (ad : List Int) (p : Nat) : (∀ t ∈ dressTk ad p, t.ok) ∧ ∀ t ∈ dressTk ad p, t.still = true := by
  unfold dressTk
  split
  · have r0 : 0 ≤ dressIx ad p := Int.fmod_nonneg_of_pos _ (show (0 : Int) < 5 by decide)
    have r1 : dressIx ad p < 5 := Int.fmod_lt_of_pos _ (show (0 : Int) < 5 by decide)
    exact dtok_ok _ (by omega)
  · simp
theorem brackets : Str.ofString "(" = strOf [Tk.op] ∧ Str.ofString ")" = strOf [Tk.cl] := by decide +kernel

theorem pieces_tokens (boxes ad : List Int) : piecesOf boxes (dressOf ad) = (List.range 16).map fun p => strOf (dressTk ad p ++ [if boxes.getD p 0 ≠ 0 then Tk.op else Tk.cl]) := by
  unfold piecesOf
  refine List.map_congr_left fun p hp => ?_
  unfold pieceAt
  rw [dress_tokens ad p (List.mem_range.mp hp), ← strOf_append, brackets.1, brackets.2]
  split <;> rfl

theorem taken_boxes {boxes : List Int} (ad : List Int) (hB : boxes.length = 16) : takenAt (piecesOf boxes (dressOf ad)) = balAt boxes := by
  funext a b
  rw [pieces_tokens, taken_tokens (fun p => dressTk ad p ++ [if boxes.getD p 0 ≠ 0 then Tk.op else Tk.cl]) ?_, bal_dressed _ _ fun p => (dressTk_ok ad p).2]
  · have e : boxes = (List.range 16).map fun p => boxes.getD p 0 := by
      apply List.ext_getElem?
      intro i
      rw [List.getElem?_map]
      by_cases h : i < 16
      · rw [List.getElem?_range h, List.getElem?_eq_getElem (by omega), Option.map_some, List.getD_eq_getElem?_getD, List.getElem?_eq_getElem (by omega)]
        rfl
      · rw [List.getElem?_eq_none (by omega), List.getElem?_eq_none (by simp; omega)]
        rfl
    unfold balAt
    rw [bal_boxes, ← pickOf_map, ← e, pickOf_ints]
  · intro p t ht
    rcases List.mem_append.mp ht with h | h
    · exact (dressTk_ok ad p).1 t h
    · have : t = if boxes.getD p 0 ≠ 0 then Tk.op else Tk.cl := by simpa using h
      rw [this]; split <;> trivial
theorem turn_boxes {boxes : List Int} (ad : List Int) (lg : Bool) (hB : boxes.length = 16) : turnOf boxes (piecesOf boxes (dressOf ad)) lg = turnP boxes (balAt boxes) lg := by
  rw [turnOf_P, taken_boxes ad hB]

/-- one row of boxes and one carrier -/
def caseB (bx : List Int) (most : Int) : Bool :=
  let sec := turnP bx (balAt bx) true
  let less := numOf bx - numOf sec
  let car := carOf most bx
  (bx.all fun n => decide (0 ≤ n ∧ n ≤ 1)) && ((belOf bx).all fun n => decide (0 ≤ n ∧ n < 256)) && (ap less.natAbs).toArray == byteArr (belOf bx) && decide (less.natAbs < 16 ^ 64) && sec.length == 16 && car.length == 16 && turnP car (balAt car) false == carOf most sec
end Mine
namespace Mine
open PySem
def tenB : List Int := (List.replicate (10 : Int).toNat [0]).flatten
def bothB (a b c d e f : Int) : Bool := caseB ([a, b, c, d, e, f] ++ tenB) 2 && caseB ([a, b, c, d, e, f] ++ tenB) 3
theorem cs000 : ∀ d ∈ ([0, 1] : List Int), ∀ e ∈ ([0, 1] : List Int), ∀ f ∈ ([0, 1] : List Int), bothB 0 0 0 d e f = true := by decide +kernel
theorem cs001 : ∀ d ∈ ([0, 1] : List Int), ∀ e ∈ ([0, 1] : List Int), ∀ f ∈ ([0, 1] : List Int), bothB 0 0 1 d e f = true := by decide +kernel
theorem cs010 : ∀ d ∈ ([0, 1] : List Int), ∀ e ∈ ([0, 1] : List Int), ∀ f ∈ ([0, 1] : List Int), bothB 0 1 0 d e f = true := by decide +kernel
theorem cs011 : ∀ d ∈ ([0, 1] : List Int), ∀ e ∈ ([0, 1] : List Int), ∀ f ∈ ([0, 1] : List Int), bothB 0 1 1 d e f = true := by decide +kernel
theorem cs100 : ∀ d ∈ ([0, 1] : List Int), ∀ e ∈ ([0, 1] : List Int), ∀ f ∈ ([0, 1] : List Int), bothB 1 0 0 d e f = true := by decide +kernel
theorem cs101 : ∀ d ∈ ([0, 1] : List Int), ∀ e ∈ ([0, 1] : List Int), ∀ f ∈ ([0, 1] : List Int), bothB 1 0 1 d e f = true := by decide +kernel
theorem cs110 : ∀ d ∈ ([0, 1] : List Int), ∀ e ∈ ([0, 1] : List Int), ∀ f ∈ ([0, 1] : List Int), bothB 1 1 0 d e f = true := by decide +kernel
theorem cs111 : ∀ d ∈ ([0, 1] : List Int), ∀ e ∈ ([0, 1] : List Int), ∀ f ∈ ([0, 1] : List Int), bothB 1 1 1 d e f = true := by decide +kernel
theorem cs_all {a b c d e f : Int} (ha : a ∈ ([0, 1] : List Int)) (hb : b ∈ ([0, 1] : List Int)) (hc : c ∈ ([0, 1] : List Int)) (hd : d ∈ ([0, 1] : List Int)) (he : e ∈ ([0, 1] : List Int)) (hf : f ∈ ([0, 1] : List Int)) : bothB a b c d e f = true := by
  simp only [List.mem_cons, List.not_mem_nil, or_false] at ha hb hc
  rcases ha with rfl | rfl <;> rcases hb with rfl | rfl <;> rcases hc with rfl | rfl
  · exact cs000 d hd e he f hf
  · exact cs001 d hd e he f hf
  · exact cs010 d hd e he f hf
  · exact cs011 d hd e he f hf
  · exact cs100 d hd e he f hf
  · exact cs101 d hd e he f hf
  · exact cs110 d hd e he f hf
  · exact cs111 d hd e he f hf

theorem firstAt_bit (ad : List Int) (k : Nat) : firstAt ad k ∈ ([0, 1] : List Int) := by
  have h1 := Int.fmod_nonneg_of_pos (itemAt [1, 1, 1, 0, 1, 0] (k : Int) + itemAt ad (k : Int)) (show (0 : Int) < 2 by decide)
  have h2 := Int.fmod_lt_of_pos (itemAt [1, 1, 1, 0, 1, 0] (k : Int) + itemAt ad (k : Int)) (show (0 : Int) < 2 by decide)
  have h3 : firstAt ad k = 0 ∨ firstAt ad k = 1 := by unfold firstAt; omega
  simpa using h3

theorem caseB_first (ad : List Int) (most : Int) (h : most = 2 ∨ most = 3) : caseB (firstOf ad) most = true := by
  have key := cs_all (firstAt_bit ad 0) (firstAt_bit ad 1) (firstAt_bit ad 2) (firstAt_bit ad 3) (firstAt_bit ad 4) (firstAt_bit ad 5)
  have e : firstOf ad = [firstAt ad 0, firstAt ad 1, firstAt ad 2, firstAt ad 3, firstAt ad 4, firstAt ad 5] ++ tenB := rfl
  unfold bothB at key
  rw [← e, Bool.and_eq_true] at key
  rcases h with rfl | rfl
  · exact key.1
  · exact key.2

theorem facts_all (ad : List Int) (most : Int) (_ : ad.length = 6) (h : most = 2 ∨ most = 3) : Facts ad most := by
  have key := caseB_first ad most h
  have lenF : (firstOf ad).length = 16 := by simp [firstOf]
  unfold caseB at key
  simp only [Bool.and_eq_true, List.all_eq_true, decide_eq_true_eq, beq_iff_eq] at key
  obtain ⟨⟨⟨⟨⟨⟨k1, k2⟩, k3⟩, k4⟩, k5⟩, k6⟩, k7⟩ := key
  have es : secondOf ad = turnP (firstOf ad) (balAt (firstOf ad)) true := turn_boxes ad true lenF
  refine ⟨fun n hn => ?_, k2, ?_, ?_, ?_, k6, ?_⟩
  · have := k1 n hn; omega
  · unfold lessOf; rw [es]; exact k3
  · unfold lessOf; rw [es]; exact k4
  · rw [es]; exact k5
  · rw [turn_boxes ad false k6, es]; exact k7
end Mine
namespace Mine
open PySem

theorem fn_of {p : Program} {loose : List Str} {mean : ExcName → Option Value} {mg mb : Str → Option Value} {h : Heap} (T : Top p loose mean mg mb h) (st : Stmt) (n : Str)
    (hd : ∃ d ∈ recsOf p, d.name = n ∧ d.params = defArgs st ∧ d.body = defBody st ∧ d.scope = defScope st) : ∃ a, mg n = some (.ref a) ∧ FnIs h st a := by
  obtain ⟨d, hm, h1, h2, h3, h4⟩ := hd
  obtain ⟨a, o, pm, code, doc, q1, q2, q3, q4⟩ := T.fn d hm
  exact ⟨a, h1 ▸ q1, ⟨o, _, q2, q3, h4, congrArg _ h3, h2, rfl, rfl, rfl, rfl, rfl, q4⟩⟩

theorem rec0 : ∃ d ∈ recsOf hd2.view_39, d.name = Str.ofString "_iter_escaped_chars" ∧ d.params = defArgs (stmtAt atIter) ∧ d.body = defBody (stmtAt atIter) ∧ d.scope = defScope (stmtAt atIter) := ⟨_, List.mem_of_getElem? (i := 0) rfl, rfl, rfl, rfl, rfl⟩
theorem rec1 : ∃ d ∈ recsOf hd2.view_39, d.name = Str.ofString "_strip_quoted_realnames" ∧ d.params = defArgs (stmtAt atStrip) ∧ d.body = defBody (stmtAt atStrip) ∧ d.scope = defScope (stmtAt atStrip) := ⟨_, List.mem_of_getElem? (i := 1) rfl, rfl, rfl, rfl, rfl⟩
theorem rec2 : ∃ d ∈ recsOf hd2.view_39, d.name = Str.ofString "_check_parenthesis" ∧ d.params = defArgs (stmtAt atCheck) ∧ d.body = defBody (stmtAt atCheck) ∧ d.scope = defScope (stmtAt atCheck) := ⟨_, List.mem_of_getElem? (i := 2) rfl, rfl, rfl, rfl, rfl⟩
theorem rec3 : ∃ d ∈ recsOf hd2.view_39, d.name = Str.ofString "Int2AP" ∧ d.params = defArgs (stmtAt atInt) ∧ d.body = defBody (stmtAt atInt) ∧ d.scope = defScope (stmtAt atInt) := ⟨_, List.mem_of_getElem? (i := 3) rfl, rfl, rfl, rfl, rfl⟩
theorem rec4 : ∃ d ∈ recsOf hd2.view_39, d.name = Str.ofString "_law_taken" ∧ d.params = defArgs (stmtAt atTaken) ∧ d.body = defBody (stmtAt atTaken) ∧ d.scope = defScope (stmtAt atTaken) := ⟨_, List.mem_of_getElem? (i := 4) rfl, rfl, rfl, rfl, rfl⟩
theorem rec5 : ∃ d ∈ recsOf hd2.view_39, d.name = Str.ofString "_law_turned" ∧ d.params = defArgs (stmtAt atTurned) ∧ d.body = defBody (stmtAt atTurned) ∧ d.scope = defScope (stmtAt atTurned) := ⟨_, List.mem_of_getElem? (i := 5) rfl, rfl, rfl, rfl, rfl⟩
theorem rec6 : ∃ d ∈ recsOf hd2.view_39, d.name = Str.ofString "_law_carried" ∧ d.params = defArgs (stmtAt atCarried) ∧ d.body = defBody (stmtAt atCarried) ∧ d.scope = defScope (stmtAt atCarried) := ⟨_, List.mem_of_getElem? (i := 6) rfl, rfl, rfl, rfl, rfl⟩
theorem rec7 : ∃ d ∈ recsOf hd2.view_39, d.name = Str.ofString "_law_number" ∧ d.params = defArgs (stmtAt atNumber) ∧ d.body = defBody (stmtAt atNumber) ∧ d.scope = defScope (stmtAt atNumber) := ⟨_, List.mem_of_getElem? (i := 7) rfl, rfl, rfl, rfl, rfl⟩
theorem rec8 : ∃ d ∈ recsOf hd2.view_39, d.name = Str.ofString "_law_below_the_top" ∧ d.params = defArgs (stmtAt atBelow) ∧ d.body = defBody (stmtAt atBelow) ∧ d.scope = defScope (stmtAt atBelow) := ⟨_, List.mem_of_getElem? (i := 8) rfl, rfl, rfl, rfl, rfl⟩
theorem rec9 : ∃ d ∈ recsOf hd2.view_39, d.name = Str.ofString "law" ∧ d.params = defArgs (stmtAt atLaw) ∧ d.body = defBody (stmtAt atLaw) ∧ d.scope = defScope (stmtAt atLaw) := ⟨_, List.mem_of_getElem? (i := 9) rfl, rfl, rfl, rfl, rfl⟩
theorem freeW : ∀ x ∈ ([Str.ofString "enumerate", Str.ofString "len", Str.ofString "int", Str.ofString "abs", Str.ofString "divmod", Str.ofString "isinstance", Str.ofString "bool", Str.ofString "sum", Str.ofString "bytes", Str.ofString "range", Str.ofString "max"] : List Str),
    x ∉ startupNames ∧ x ∉ looseW hd2.view_39 [] ∧ x ∉ (recsOf hd2.view_39).map (·.name) ∧ x ∉ (litsOf hd2.view_39).map (·.1) ∧ x ∉ (clssOf hd2.view_39 (looseW hd2.view_39 [])).map (·.name) := by decide +kernel
theorem boots : bootBuiltins "enumerate" = some (.type "enumerate") ∧ bootBuiltins "len" = some (.builtin "len") ∧ bootBuiltins "int" = some (.type "int") ∧ bootBuiltins "abs" = some (.builtin "abs") ∧ bootBuiltins "divmod" = some (.builtin "divmod") ∧ bootBuiltins "isinstance" = some (.builtin "isinstance") ∧ bootBuiltins "bool" = some (.type "bool") ∧ bootBuiltins "sum" = some (.builtin "sum") ∧ bootBuiltins "bytes" = some (.type "bytes") ∧ bootBuiltins "range" = some (.type "range") ∧ bootBuiltins "max" = some (.builtin "max") := by decide +kernel

theorem all_names {loose : List Str} {mean : ExcName → Option Value} {mg mb : Str → Option Value} {h : Heap} (hl : loose = looseW hd2.view_39 []) (T : Top hd2.view_39 loose mean mg mb h) :
    ∃ fI fS fC fT fA fB fL fU fR fN, Names h fI fS fC ∧ TakenNames h fC fT ∧ TurnNames h fU fT ∧ IntNames h fA ∧ BelowNames h fB ∧ WordNames h fA fB ∧ TopNames h fL fU fR fN ∧ mg (Str.ofString "law") = some (.ref fL) := by
  subst hl
  have fr : ∀ x ∈ ([Str.ofString "enumerate", Str.ofString "len", Str.ofString "int", Str.ofString "abs", Str.ofString "divmod", Str.ofString "isinstance", Str.ofString "bool", Str.ofString "sum", Str.ofString "bytes", Str.ofString "range", Str.ofString "max"] : List Str), mg x = none := fun x hx =>
    T.free x (freeW x hx).1 (freeW x hx).2.1 (freeW x hx).2.2.1 (freeW x hx).2.2.2.1 (freeW x hx).2.2.2.2
  have bb : ∀ x : Str, x ≠ "__name__" → mb x = bootBuiltins x := T.builtins
  obtain ⟨b1, b2, b3, b4, b5, b6, b7, b8, b9, b10, b11⟩ := boots
  obtain ⟨fI, eI, FI⟩ := fn_of T _ _ rec0
  obtain ⟨fS, eS, FS⟩ := fn_of T _ _ rec1
  obtain ⟨fC, eC, FC⟩ := fn_of T _ _ rec2
  obtain ⟨fA, eA, FA⟩ := fn_of T _ _ rec3
  obtain ⟨fT, eT, FT⟩ := fn_of T _ _ rec4
  obtain ⟨fU, eU, FU⟩ := fn_of T _ _ rec5
  obtain ⟨fR, eR, FR⟩ := fn_of T _ _ rec6
  obtain ⟨fN, eN, FN⟩ := fn_of T _ _ rec7
  obtain ⟨fB, eB, FB⟩ := fn_of T _ _ rec8
  obtain ⟨fL, eL, FL⟩ := fn_of T _ _ rec9
  exact ⟨fI, fS, fC, fT, fA, fB, fL, fU, fR, fN, ⟨FI, FS, FC, T.nolimit, ⟨mg, T.g, fr _ (by simp), fr _ (by simp), eI, eS⟩, ⟨mb, T.b, (bb _ (by decide)).trans b1, (bb _ (by decide)).trans b2⟩⟩,
    ⟨FT, ⟨mg, T.g, fr _ (by simp), fr _ (by simp), eC⟩, ⟨mb, T.b, (bb _ (by decide)).trans b6, (bb _ (by decide)).trans b7⟩⟩,
    ⟨FU, ⟨mg, T.g, fr _ (by simp), fr _ (by simp), eT⟩, ⟨mb, T.b, (bb _ (by decide)).trans b10, (bb _ (by decide)).trans b2⟩⟩,
    ⟨FA, T.nolimit, ⟨mg, T.g, fr _ (by simp), fr _ (by simp), fr _ (by simp)⟩, ⟨mb, T.b, (bb _ (by decide)).trans b3, (bb _ (by decide)).trans b4, (bb _ (by decide)).trans b5⟩⟩,
    ⟨FB, T.nolimit, ⟨mg, T.g, fr _ (by simp), fr _ (by simp)⟩, ⟨mb, T.b, (bb _ (by decide)).trans b11, (bb _ (by decide)).trans b9⟩⟩,
    ⟨⟨mg, T.g, eA, fr _ (by simp), fr _ (by simp), eB⟩, ⟨mb, T.b, (bb _ (by decide)).trans b6, (bb _ (by decide)).trans b9⟩⟩,
    ⟨FL, FR, FN, ⟨mg, T.g, fr _ (by simp), fr _ (by simp), eU, eN, eR⟩, ⟨mb, T.b, (bb _ (by decide)).trans b10, (bb _ (by decide)).trans b8⟩⟩, eL⟩
end Mine
set_option maxHeartbeats 4000000 in
theorem PySem.Challenge.cw_wn0022_01_holds : PySem.Challenge.rw_wn0022_01.Holds := by
  refine Mine.hd2 ?_
  intro w s₀ s₁ mg mb G Y fa o pm cd doc dV kV ho hd hcd hD hmg hg args vals as hpre hlay hrd hwl hlo
  refine Ground.open G ?_
  intro T B D TE TW
  obtain ⟨fI, fS, fC, fT, fA, fB, fL, fU, fR, fN, N1, N2, N3, N4, N5, N6, N7, eL⟩ := Mine.all_names rfl T
  have efa : fa = fL := by
    have := hmg.symm.trans eL
    cases this
    rfl
  subst efa
  clear hd hcd hD ho hmg Y B D TE TW
  wrow_args hpre hlay hrd hwl hlo
  refine wpAny_mono (Mine.call_law (base := s₁.heap) Mine.facts_all N1 N2 N3 N4 N5 N6 N7 rfl (by decide) (by decide) (fun _ _ q => q) ⟨_, by assumption, by assumption⟩ (by omega) (Q := fun v s' => v = .bool true ∧ Mine.Ext s₁ s') (E := fun _ _ => False) fun s' x => ⟨rfl, x⟩) (fun v s' q => ?_) fun _ _ q => q.elim
  obtain ⟨rfl, x⟩ := q
  refine ⟨.inl ⟨.bool true, .bool true, [], rfl, fun _ => rfl, .bool true, ?_, unshared_nil⟩, OldK.of_keep x.keep, x.os, x.bare (.of_eq hg)⟩
  first | rfl | kernel_rfl | exact postW_of rfl
