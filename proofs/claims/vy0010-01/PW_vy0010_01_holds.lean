import PyProof.Rows.All
import Wide.All
import OpenK.AllK
import Wide.FinOn
import KE.KNest
import KE.KNestM
import KE.KOwnIter
import KE.KTypeName
import KE.KxFormat
import KE.KxPercent
import Lean
import PySem.Challenge.RW_vy0010_01
set_option Elab.async false
set_option linter.unusedVariables false
section
open PySem PySem.W PyProof.Rows
set_option Elab.async false
set_option maxRecDepth 100000
set_option maxHeartbeats 8000000
namespace Mine
open_top hd for PySem.Challenge.rw_vy0010_01
end Mine
end
section
open PySem PySem.W PyProof.Rows PySem.Calls PySem.Spec
set_option Elab.async false
set_option maxRecDepth 100000
set_option maxHeartbeats 8000000
namespace Mine

/-- what is new lies above what was there -/
def Fresh (news tl : List (Addr × Obj)) : Prop := ∀ q ∈ news, ∀ p ∈ tl, @Ne Nat q.1 p.1
theorem Fresh.nil {news : List (Addr × Obj)} : Fresh news [] := fun _ _ _ h => nomatch h
theorem lt_all {a : Addr} {l : List (Addr × Obj)} (h : AllLt a l) : ∀ q ∈ l, q.1 < a := ktn_ltOf h
def AllNe (a : Addr) (l : List (Addr × Obj)) : Prop := ∀ q ∈ l, @Ne Nat q.1 a
theorem AllNe.lt {a : Addr} {l : List (Addr × Obj)} (h : AllLt a l) : AllNe a l := fun q hq => Nat.ne_of_lt (lt_all h q hq)
theorem Fresh.consO {a : Addr} {o : Obj} {news tl : List (Addr × Obj)} (h : AllNe a news) (k : Fresh news tl) : Fresh news ((a, o) :: tl) := fun q hq p hp => by
  rcases List.mem_cons.mp hp with rfl | hp
  · exact h q hq
  · exact k q hq p hp
theorem Fresh.cons {a : Addr} {o : Obj} {news tl : List (Addr × Obj)} (h : AllLt a news) (k : Fresh news tl) : Fresh news ((a, o) :: tl) := .consO (.lt h) k
theorem Fresh.app {news t1 t2 : List (Addr × Obj)} (h : Fresh news t1) (k : Fresh news t2) : Fresh news (t1 ++ t2) := fun q hq p hp =>
  (List.mem_append.mp hp).elim (h q hq p) (k q hq p)
theorem Fresh.sub {news news' tl : List (Addr × Obj)} (h : Fresh news' tl) (k : ∀ q ∈ news, q ∈ news') : Fresh news tl := fun q hq => h q (k q hq)

theorem both_lt {d x : Addr} {l : List (Addr × Obj)} (h : ∀ p ∈ l, p.1 < d) (k : d < x) : AllLt x l := allLt_of fun p hp => Nat.lt_trans (h p hp) k

section
variable {prog : Program} {w : World} {A : Around} {s : Shared} {K : Frag} {L f : Addr} {h₀ : Heap} {m mg mb : Str → Option Value} {news : List (Addr × Obj)} {p : Program} {loose : List Str} {mean : ExcName → Option Value}

theorem ground_of {R : Result → Shared → Prop} (F : Fr h₀ L s.heap m) (N : News h₀ L s.heap news) :
    ∃ g : Heap, h₀.StaysIn g ∧ Fr h₀ L g m ∧ (∀ b o, g.get? b = some o → s.heap.get? b = some o) ∧ g.objs.size = s.heap.objs.size ∧ (∀ q ∈ news, g.get? q.1 = none) ∧ ∀ v s', LeaveK h₀ L m g R v s' → R (.ok (.ret v)) s' := by
  let env : Env := envX "" { kind := .function, names := [], isGenerator := false, isCoroutine := false } L 0 .none []
  let A' : Around := { frames := some [env] }
  obtain ⟨FG, _, st, lv⟩ := groundX (R := R) (A := A') (env := env) (below_caller h₀) F N rfl rfl rfl
  exact ⟨hideAll s.heap (news.map (·.1)), st, FG, fun b o e => of_hideAll _ e, hideAll_size _ _, fun q hq => hideAll_none _ (List.mem_map_of_mem hq), lv⟩

theorem enterK {R : Result → Shared → Prop} {name qual : Str} {params : Arguments} {body : List Stmt} {scope : Scope} {cl : List (Str × Addr)} {dV kV doc pm cdv ct oc : Value} {an od : Option Addr} {osl : Array (Option Value)} {args : Args} {binds : List (Str × Value)}
    (F : Fr h₀ L s.heap m) (X₀ : K.In h₀) (N : News h₀ L s.heap news) (T : Top p loose mean mg mb h₀)
    (ho : K.lookup f = some ⟨oc, od, .func (fnX name qual params body scope cl dV kV doc pm an cdv ct), osl⟩) (hcd : codeIn K cdv qual = true) (hroom : A.depth < recursionLimit)
    (hbind : BindsTo s (fnX name qual params body scope cl dV kV doc pm an cdv ct) args binds) (hloc : ∀ y ∈ binds, scope.names.lookup y.1 = some .local)
    (h : ∀ g L' h₁, Fr h₀ L g m → Fr g L' h₁ (fun y => binds.reverse.lookup y) → News g L' h₁ news → K.In g → Top p loose mean mg mb g → (∀ q ∈ news, q.1 < L') → h₀.StaysIn g → s.heap.objs.size ≤ L' →
      wpAny (model prog w) (A.deeper (envX qual scope L' f cdv cl)) (execs body (envX qual scope L' f cdv cl))
        (fun fl s' => LeaveK h₀ L m g R (match fl with | .ret v => v | _ => .none) s')
        (fun e s' => wpAny (model prog w) (A.deeper (envX qual scope L' f cdv cl)) (leaving (envX qual scope L' f cdv cl) e) (fun _ s'' => R (.error e) s'') (fun e' s'' => R (.error e') s'') s')
        { s with heap := h₁, toks := s.toks + binds.length })
    (hcell : ∀ x ∈ scope.names, x.2 ≠ .cell) (hco : scope.isCoroutine = false) (hgen : scope.isGenerator = false) (hk : scope.kind = .function) : codeAny (model prog w) A (.call (.ref f) args) R s := by
  obtain ⟨g, st, FG, dn, hsz, hide, lv⟩ := ground_of (R := R) F N
  refine codeAny_call_def (fd := fnX name qual params body scope cl dV kV doc pm an cdv ct) (body := body) (binds := binds) hroom ((X₀.keeps F.keep) _ _ ho) rfl (T.nolimit.keeps F.keep) (codeRec_of (X₀.keeps F.keep) hcd) rfl hbind hcell hloc (fun h₁ hns hk₁ => ?_) hco hgen hk
  exact wpAny_mono (h g s.heap.objs.size h₁ FG ⟨hns, fun b o e => hk₁ b o (dn b o e), Nat.le_of_eq hsz⟩
    (fun q hq => ⟨hk₁ _ _ (N q hq).1, Nat.ne_of_lt (Heap.lt_size (N q hq).1), hide q hq⟩) (X₀.keeps st) (T.keeps st) (fun q hq => Heap.lt_size (N q hq).1) st (Nat.le_refl _)) (fun fl s' hl => lv _ _ hl) fun _ _ y => y

theorem enterKS {R : Result → Shared → Prop} {name qual : Str} {params : Arguments} {body : List Stmt} {scope : Scope} {cc : Addr} {dV kV doc pm cdv ct oc : Value} {an od : Option Addr} {osl : Array (Option Value)} {args : Args} {binds : List (Str × Value)}
    (F : Fr h₀ L s.heap m) (X₀ : K.In h₀) (N : News h₀ L s.heap news) (T : Top p loose mean mg mb h₀)
    (ho : K.lookup f = some ⟨oc, od, .func (ksFn name qual params body scope dV kV doc pm an cdv ct cc), osl⟩) (hcd : codeIn K cdv qual = true) (hroom : A.depth < recursionLimit)
    (hbind : BindsTo s (ksFn name qual params body scope dV kV doc pm an cdv ct cc) args binds) (hloc : ∀ y ∈ binds, scope.names.lookup y.1 = some .local)
    (h : ∀ g L' h₁, Fr h₀ L g m → Fr g L' h₁ (fun y => binds.reverse.lookup y) → News g L' h₁ news → K.In g → Top p loose mean mg mb g → (∀ q ∈ news, q.1 < L') → h₀.StaysIn g → s.heap.objs.size ≤ L' →
      _root_.PySem.wpAt (model prog w) (A.deeper (ksEnv qual scope L' f cdv cc)) (.func body (ksEnv qual scope L' f cdv cc)) (execs body (ksEnv qual scope L' f cdv cc))
        (fun fl s' => LeaveK h₀ L m g R (match fl with | .ret v => v | _ => .none) s')
        (fun e s' => wpAny (model prog w) (A.deeper (ksEnv qual scope L' f cdv cc)) (leaving (ksEnv qual scope L' f cdv cc) e) (fun _ s'' => R (.error e) s'') (fun e' s'' => R (.error e') s'') s')
        { s with heap := h₁, toks := s.toks + binds.length })
    (hcell : ∀ x ∈ scope.names, x.2 ≠ .cell) (hco : scope.isCoroutine = false) (hgen : scope.isGenerator = false) (hk : scope.kind = .function) : codeAny (model prog w) A (.call (.ref f) args) R s := by
  obtain ⟨g, st, FG, dn, hsz, hide, lv⟩ := ground_of (R := R) F N
  refine ks_codeAny_call_defAt (fd := ksFn name qual params body scope dV kV doc pm an cdv ct cc) (body := body) (binds := binds) hroom ((X₀.keeps F.keep) _ _ ho) rfl (T.nolimit.keeps F.keep) (codeRec_of (X₀.keeps F.keep) hcd) rfl hbind hcell hloc (fun h₁ hns hk₁ => ?_) hco hgen hk
  exact ks_wpAt_mono (h g s.heap.objs.size h₁ FG ⟨hns, fun b o e => hk₁ b o (dn b o e), Nat.le_of_eq hsz⟩
    (fun q hq => ⟨hk₁ _ _ (N q hq).1, Nat.ne_of_lt (Heap.lt_size (N q hq).1), hide q hq⟩) (X₀.keeps st) (T.keeps st) (fun q hq => Heap.lt_size (N q hq).1) st (Nat.le_refl _)) (fun fl s' hl => lv _ _ hl) fun _ _ y => y

theorem enterBothKS {R : Result → Shared → Prop} {name qual : Str} {params : Arguments} {body : List Stmt} {scope : Scope} {cc : Addr} {dV kV doc pm cdv ct oc : Value} {an od : Option Addr} {osl : Array (Option Value)} {args : Args} {vs : List Value} {nm nr : Str} {ex front : List (Str × Value)} {DD : List (PyData × PyData)} {g₁ : Addr → Sem (List (Str × Value))} {g₂ : Addr → Addr → Sem (List (Str × Value))}
    (F : Fr h₀ L s.heap m) (X₀ : K.In h₀) (N : News h₀ L s.heap news) (T : Top p loose mean mg mb h₀)
    (ho : K.lookup f = some ⟨oc, od, .func (ksFn name qual params body scope dV kV doc pm an cdv ct cc), osl⟩) (hcd : codeIn K cdv qual = true) (hroom : A.depth < recursionLimit)
    (hn : kwDistinct ex = true) (hD : PyProof.V.FlatPairs PyData.str ex DD)
    (hp : peekA K ⟨prog, w.params⟩ (bindArgs (ksFn name qual params body scope dV kV doc pm an cdv ct cc) args) = some (({ cls := .type "tuple", data := .seq vs.toArray } : Obj), g₁))
    (hp₂ : ∀ D, peekA K ⟨prog, w.params⟩ (g₁ D) = some (dictOf [] 0, g₂ D))
    (hk₂ : ∀ C D, g₂ C D = (forIn ex PUnit.unit (fun x _ => (nsSet D x.1 x.2 >>= fun _ => pure (ForInStep.yield PUnit.unit))) >>= fun _ => pure (front ++ [(nr, Value.ref C)] ++ [(nm, Value.ref D)])))
    (hloc : ∀ C D, ∀ y ∈ front ++ [(nr, Value.ref C)] ++ [(nm, Value.ref D)], scope.names.lookup y.1 = some .local)
    (h : ∀ C D o g L' h₁ tk, (∀ q ∈ news, q.1 < C) → C < D → (D == sysModules) = false → o.IsDictOf (strKind prog w) ex → PyProof.V.FlatPairs PyData.str ex DD → Fr h₀ L g m → Fr g L' h₁ (fun y => (front ++ [(nr, Value.ref C)] ++ [(nm, Value.ref D)]).reverse.lookup y) →
      News g L' h₁ ((D, o) :: (C, ({ cls := .type "tuple", data := .seq vs.toArray } : Obj)) :: news) → K.In g → Top p loose mean mg mb g → h₀.StaysIn g →
      _root_.PySem.wpAt (model prog w) (A.deeper (ksEnv qual scope L' f cdv cc)) (.func body (ksEnv qual scope L' f cdv cc)) (execs body (ksEnv qual scope L' f cdv cc))
        (fun fl s' => LeaveK h₀ L m g R (match fl with | .ret v => v | _ => .none) s')
        (fun e s' => wpAny (model prog w) (A.deeper (ksEnv qual scope L' f cdv cc)) (leaving (ksEnv qual scope L' f cdv cc) e) (fun _ s'' => R (.error e) s'') (fun e' s'' => R (.error e') s'') s')
        { s with heap := h₁, toks := tk })
    (hcell : ∀ x ∈ scope.names, x.2 ≠ .cell) (hco : scope.isCoroutine = false) (hgen : scope.isGenerator = false) (hk : scope.kind = .function) : codeAny (model prog w) A (.call (.ref f) args) R s := by
  have hn' := kwDistinct_nodup hn
  refine codeAny_call_function (fd := ksFn name qual params body scope dV kV doc pm an cdv ct cc) (body := body) hroom ((X₀.keeps F.keep) _ _ ho) rfl hco hgen rfl (codeRec_of (X₀.keeps F.keep) hcd) ?_
  refine wp_of_peekA (o := ({ cls := .type "tuple", data := .seq vs.toArray } : Obj)) F N (X₀.keeps F.keep) rfl _ g₁ hp fun h' F' N' l => ?_
  refine wp_of_peekA (s := { s with heap := h' }) (o := dictOf [] 0) F' N' (X₀.keeps F'.keep) rfl _ (g₂ s.heap.objs.size) (hp₂ _) fun h'' F'' N'' l' => ?_
  rw [hk₂]
  refine wpAny_bind (kp_fill ex { s with heap := h'' } [] 0 F'' N'' (fun q hq => Nat.ne_of_lt (l' q hq)) (fun _ he => nomatch he) (fun _ he => nomatch he) hn' fun h₃ F₃ N₃ => wpAny_pure ?_)
  obtain ⟨g, st, FG, dn, hsz, hide, lv⟩ := ground_of (R := R) (s := { s with heap := h₃, toks := s.toks + ex.length }) F₃ N₃
  refine wpAny_newFunctionEnv hcell (hloc _ _) (fun h₁ hns hsb => ⟨(T.nolimit.keeps F₃.keep).fresh _ hsb, ks_codeAny_funcAt ?_⟩) hk
  have hk₁ : ∀ b o, h₃.get? b = some o → h₁.get? b = some o := fun b o e => hsb.extBut b o (Nat.ne_of_lt (Heap.lt_size e)) (Heap.get?_push_of_some _ e)
  exact ks_wpAt_mono (h _ _ _ g h₃.objs.size h₁ _ l (l' _ (.head _)) (F'.notModules (modules_low T.nolimit)) (kp_isDict s.toks (0 + ex.length) hn') hD FG ⟨hns, fun b o e => hk₁ b o (dn b o e), Nat.le_of_eq hsz⟩
    (fun q hq => ⟨hk₁ _ _ (N₃ q hq).1, Nat.ne_of_lt (Heap.lt_size (N₃ q hq).1), hide q hq⟩) (X₀.keeps st) (T.keeps st) st) (fun fl s' hl => lv _ _ hl) fun _ _ y => y

theorem enterKC {R : Result → Shared → Prop} {name qual : Str} {params : Arguments} {body : List Stmt} {scope : Scope} {dV kV doc pm cdv ct oc : Value} {an od : Option Addr} {osl : Array (Option Value)} {args : Args} {binds : List (Str × Value)}
    (F : Fr h₀ L s.heap m) (X₀ : K.In h₀) (N : News h₀ L s.heap news) (T : Top p loose mean mg mb h₀)
    (ho : K.lookup f = some ⟨oc, od, .func (fnX name qual params body scope [] dV kV doc pm an cdv ct), osl⟩) (hcd : codeIn K cdv qual = true) (hroom : A.depth < recursionLimit)
    (hbind : BindsTo s (fnX name qual params body scope [] dV kV doc pm an cdv ct) args binds) (hkind : (binds.all fun y => scope.names.lookup y.1 == some .local || scope.names.lookup y.1 == some .cell) = true)
    (hnd : ((cellsFrom 0 scope.names []).map (·.1)).Nodup)
    (h : ∀ g L' h₁ tk cells, Fr h₀ L g m → Fr g L' h₁ (bindL (envOfC qual scope L' f cdv).kindOf binds fun _ => none) → News g L' h₁ (cells ++ news) →
      CellsAre (bindC (envOfC qual scope L' f cdv).kindOf binds fun _ => none) (cellsFrom (L' + 1) scope.names []) cells → K.In g → Top p loose mean mg mb g → (∀ q ∈ news, q.1 < L') → h₀.StaysIn g →
      wpAny (model prog w) (A.deeper (envOfC qual scope L' f cdv)) (execs body (envOfC qual scope L' f cdv))
        (fun fl s' => LeaveK h₀ L m g R (match fl with | .ret v => v | _ => .none) s')
        (fun e s' => wpAny (model prog w) (A.deeper (envOfC qual scope L' f cdv)) (leaving (envOfC qual scope L' f cdv) e) (fun _ s'' => R (.error e) s'') (fun e' s'' => R (.error e') s'') s')
        { s with heap := h₁, toks := tk })
    (hco : scope.isCoroutine = false) (hgen : scope.isGenerator = false) (hk : scope.kind = .function) : codeAny (model prog w) A (.call (.ref f) args) R s := by
  obtain ⟨g, st, FG, dn, hsz, hide, lv⟩ := ground_of (R := R) F N
  refine codeAny_call_function (fd := fnX name qual params body scope [] dV kV doc pm an cdv ct) (body := body) hroom ((X₀.keeps F.keep) _ _ ho) rfl hco hgen rfl (codeRec_of (X₀.keeps F.keep) hcd) (hbind _ _ _ _ ?_)
  refine wpAny_newFunctionEnv_cells hk (kindsX hkind _) fun env' he s' x => ?_
  subst he
  refine ⟨(T.nolimit.keeps F.keep).keeps x.toInCall.keep, codeAny_func ?_⟩
  obtain ⟨h₁, tk, rfl, _⟩ := x.done
  have hk₁ := x.toInCall.keep
  obtain ⟨cells, NC, Y⟩ := Cl.news (h₀ := s.heap) (Nat.le_refl _) fun n c hm => ⟨x.cell n c (lookup_of_mem_nodup (cellsFrom_names scope.names 0 (s.heap.objs.size + 1) [] [] rfl ▸ hnd) hm), x.above n c hm⟩
  refine wpAny_mono (h g s.heap.objs.size h₁ tk cells FG ⟨x.toInCall.ns, fun b o e => hk₁ b o (dn b o e), Nat.le_of_eq hsz⟩ (fun q hq => ?_) Y (X₀.keeps st) (T.keeps st) (fun q hq => Heap.lt_size (N q hq).1) st) (fun fl s' hl => lv _ _ hl) fun _ _ y => y
  rcases List.mem_append.mp hq with hq | hq
  · refine ⟨(NC q hq).1, (NC q hq).2.1, ?_⟩
    cases e : g.get? q.1 with
    | none => rfl
    | some o => have := dn _ _ e; rw [(NC q hq).2.2] at this; cases this
  · exact ⟨hk₁ _ _ (N q hq).1, Nat.ne_of_lt (Heap.lt_size (N q hq).1), hide q hq⟩

/-- a comprehension's turns by what holds of what they made -/
theorem rest_inv {env : Env} {elt : Expr} {x : Str} {scope : Scope} {cl : List (Str × Addr)} {S : List (Addr × Obj) → Prop} {P : Nat → Value → Prop} {Fin : List Value → List (Addr × Obj) → Prop} {n : Nat}
    (Inv : Nat → List Value → List (Addr × Obj) → Prop)
    (step : ∀ i ys nw v I oI C oC D m₂ h tk (E' : Value → Shared → Prop), i < n → P i v → Inv i ys nw → LCg.NsObj oC m₂ → m₂ x = some v → Fr h₀ L h m → News h₀ L h ((I, oI) :: (C, oC) :: (D, LCg.lst ys) :: nw) → LCg.Off3 I C D nw → ((@Ne Nat I C) ∧ (@Ne Nat I D) ∧ (@Ne Nat C D)) →
      wpAny (model prog w) A (eval elt (compEnvC scope cl C env)) (LCg.CompEnd h₀ L m { s with heap := h, toks := tk } I oI C oC D (LCg.lst ys) S (fun y nw' => Inv (i + 1) (ys ++ [y]) nw')) E' { s with heap := h, toks := tk })
    (fin : ∀ ys nw, Inv n ys nw → Fin ys nw) : ∀ k i ys nw, i + k = n → Inv i ys nw → LCg.CompRest prog w A h₀ L m env elt x scope cl s S P Fin k i ys nw
  | 0, i, ys, nw, e, hI => .zero (fin _ _ (by rw [← e]; exact hI))
  | k + 1, i, ys, nw, e, hI => .succ fun v I oI C oC D m₂ h tk E' hP hC hx F N off ne =>
    wpAny_mono (step i ys nw v I oI C oC D m₂ h tk E' (by omega) hP hI hC hx F N off ne) (fun y s₂ ⟨h', tk', nw', e', F', N', off', hS, hI'⟩ =>
      ⟨h', tk', nw', e', F', N', off', hS, rest_inv Inv step fin k (i + 1) _ _ (by omega) hI'⟩) fun _ _ x => x
end

end Mine
end
section
open PySem PySem.W PyProof.Rows PySem.Calls PySem.Spec
set_option Elab.async false
set_option maxRecDepth 100000
namespace Mine
section
variable {M : Model} {A : Around} {E : Value → Shared → Prop} {s : Shared}
theorem lone_kw {f : Value} {x : Sem Value} {pos : Pos} {kws : List (Option Str × Sem Value)} {Q : Args → Shared → Prop} (hall : kws.all (·.1.isSome) = true)
    (h : wpAny M A x (fun v s₁ => wpAny M A (evalAll (kws.map (·.2))) (fun ks s₂ => StarOf M A E v (fun vs s₃ => Q ⟨vs, (kws.filterMap (·.1)).zip ks⟩ s₃) s₂) E s₁) E s) :
    wpAny M A (evalArgs f true [(true, (do let v ← x; standAt pos; pure v))] kws) Q E s := by
  unfold evalArgs
  refine wpAny_bind (wpAny_bind (wpAny_mono h (fun v s₁ h₁ => wpAny_bind (wpAny_standAt (wpAny_pure ?_))) fun _ _ x => x))
  refine wpAny_holding ?_
  simp only [hall, if_true]
  refine wpAny_bind (wpAny_mono h₁ (fun ks s₂ h₂ => ?_) fun _ _ x => x)
  unfold StarOf at h₂
  refine wpAny_bind (wpAny_bind (wpAny_mono h₂ (fun b s₃ h₃ => ?_) fun _ _ x => x))
  obtain ⟨rfl, h₃⟩ := h₃
  have z := wpAny_holding (vs := ((kws.filterMap (·.1)).zip ks).map (·.2)) (wpAny_mono h₃ (fun vs s₃ h₃ => (wpAny_pure h₃ : wpAny M A (pure (⟨vs, (kws.filterMap (·.1)).zip ks⟩ : Args)) Q E s₃)) fun _ _ x => x)
  try simp only [Bool.false_eq_true, if_false]
  first
    | exact z
    | exact wpAny_bind (wpAny_pure z)
theorem star_call {f : Value} {first : List Value} {pos : Pos} {Q : Value → Shared → Prop} {P : Heap → Prop} {args : List (Bool × Sem Value)} {kws : List (Option Str × Sem Value)} (hst : args.any (·.1) = true)
    (hk : ∀ h, P h → ∃ k, (k = Keeper.frame ∨ k = Keeper.machine ∨ k = Keeper.boundFrame) ∧ Looks M h (keeperOf f) k)
    (h : wpAny M A (evalArgs f true args kws) (fun a s₁ => P s₁.heap ∧ wpAny M A (call f (first ++ a.pos) a.kw) Q E s₁) E s) : wpAny M A (callWith pos f first args kws) Q E s := by
  unfold callWith
  refine wpAny_bind (wpAny_holding (wpAny_mono h (fun a s₁ h₁ => wpAny_bind (wpAny_standAt ?_)) fun _ _ x => x))
  obtain ⟨k, hk', L⟩ := hk _ h₁.1
  simp only [hst, Bool.true_or]
  refine wpAny_bind (L.here ?_)
  have tail : ∀ {t : Sem Value}, wpAny M A t Q E s₁ → wpAny M A (t >>= fun r => holding [r] point >>= fun _ => pure r) Q E s₁ :=
    fun ht => wpAny_bind (wpAny_mono ht (fun r s₂ hr => wpAny_bind (wpAny_holding (wpAny_point (wpAny_pure hr)))) fun _ _ x => x)
  have marked (mk : Value) : wpAny M A (callMarked mk f (first ++ a.pos) a.kw) Q E s₁ := by unfold callMarked; exact Calls.wpAny_keep h₁.2
  rcases hk' with rfl | rfl | rfl <;> dsimp only <;> first | exact tail (marked _) | exact tail (wpAny_operating h₁.2)
theorem callWith_SKW {K : Frag} {env : Env} {pos p : Pos} {f : Value} {first : List Value} {Q : Value → Shared → Prop} {h₀ : Heap} {e : Expr} {kws : List Keyword} (_X : K.In h₀) (hk : keepIn K f = true) (hall : (backToKw pos (keywordEach kws env)).all (·.1.isSome) = true)
    (h : wpAny M A (eval e env) (fun v s₁ => wpAny M A (evalAll ((backToKw pos (keywordEach kws env)).map (·.2))) (fun ks s₂ => StarOf M A E v (fun vs s₃ => K.In s₃.heap ∧ wpAny M A (call f (first ++ vs) (((backToKw pos (keywordEach kws env)).filterMap (·.1)).zip ks)) Q E s₃) s₂) E s₁) E s)
    (he : starEach [.Starred e p] env = [(true, eval e env)] := by rfl) :
    wpAny M A (callWith pos f first (backTo pos (starEach [.Starred e p] env)) (backToKw pos (keywordEach kws env))) Q E s := by
  rw [he]
  exact star_call rfl (keeps_K hk) (lone_kw hall h)
end
end Mine
end
section
open PySem PySem.W PyProof.Rows PySem.Calls PySem.Spec
set_option Elab.async false
set_option maxRecDepth 100000
namespace Mine
section
variable {prog : Program} {w : World} {A : Around} {E : Value → Shared → Prop} {s : Shared} {K : Frag} {h₀ : Heap} {L x C : Addr} {ox : Obj} {m : Str → Option Value} {name : Str}
theorem get_propS {expr : Bool} {Q : Value → Shared → Prop} {p fget : Addr} {rest : List Value} {od : Obj} (F : Fr h₀ L s.heap m) (X₀ : K.In h₀) (I : InstAt s.heap x ox C (some od)) (hg : plainGet K C name = true) (hc : isClsIn K C = true)
    (ha : findIn K (.ref C) name = some (some (.ref p))) (hn : specialIn K (.ref p) "__get__" = some (some (.builtin "property.__get__"))) (ht : takesIn K (.ref p) = some true) (hp : recIn K p "property" = some (.ref fget :: rest))
    (h : codeAny (model prog w) A.in1 (.call (.ref fget) ⟨[.ref x], []⟩) (fun r s' => match r with | .ok (.ret v) => wpAny (model prog w) A (handedOut v) Q E s' | .ok _ => False | .error e => wpAny (model prog w) A (noteIf true (.ref x) (.str name s.toks) e) (fun _ s'' => E e s'') E s') { s with toks := s.toks + 1 }) :
    wpAny (model prog w) A (getAttr (.ref x) name expr) Q E s :=
  get_bind (X₀.keeps F.keep) I (plainGet_of hg).1 (findObj_data hc ha hn ht) (plainGet_of hg).2 (wpAny_call (prop_get (s := { s with toks := s.toks + 1 }) (X₀.keeps F.keep) hp h))
end
end Mine
end
section
open PySem PySem.W PyProof.Rows PySem.Calls PySem.Spec
set_option Elab.async false
set_option maxRecDepth 100000
namespace Mine
section
variable {prog : Program} {w : World} {A : Around} {s : Shared} {K : Frag} {h₀ : Heap} {L x C f : Addr} {ox : Obj} {od : Option Obj} {m : Str → Option Value}
def OwnTurns (K : Frag) (x C : Addr) (ox : Obj) (od : Option Obj) (S : Addr) (Fin : Shared → Prop) (v : Value) (s₁ : Shared) : Prop :=
  ∃ (J c : Addr) (its : Array Value) (c₁ : Nat), v = .ref J ∧ s₁.heap.IsListIter J c 0 ∧ s₁.heap.IsList c its ∧ c ≠ J ∧ S ≠ J ∧ S ≠ c ∧ K.In s₁.heap ∧ InstAt s₁.heap x ox C od ∧ its.size ≤ sizeLine ∧
    s₁.heap.get? S = some { cls := .type "list", data := .seq #[] c₁ } ∧
    ∀ h' tk acc' c', (∀ b o, b ≠ S → b ≠ J → s₁.heap.get? b = some o → h'.get? b = some o) → h'.get? S = some { cls := .type "list", dict := none, data := .seq acc' c', slots := #[] } → acc' = its → Fin { s₁ with heap := h', toks := tk }
theorem extend_own {R : Result → Shared → Prop} {S : Addr} {res : Value} (hh : A.handled = none) (F : Fr h₀ L s.heap m) (X₀ : K.In h₀) (I : InstAt s.heap x ox C od) (hs : findIn K (.ref C) "__iter__" = some (some (.ref f))) (hf : isFn K (.ref f) = true)
    (hlen : findIn K (.ref C) "__len__" = some none) (hhint : findIn K (.ref C) "__length_hint__" = some none) (hxS : x ≠ S)
    (h : wpAny (model prog w) A.in1 (call (.ref f) [.ref x]) (OwnTurns K x C ox od S (fun s' => R (.ok (.ret res)) s')) (fun e s' => R (.error e) s') s) :
    wpAny (model prog w) A.in1 (Builtin.List.listExtendWith (.ref S) (.ref x) res)
      (fun fin s' => match fin with | .done f => R (.ok f) s' | .again c' => c'.quiet = true ∧ codeAny (model prog w) A c' R s') (fun e s' => R (.error e) s') s := by
  have X := X₀.keeps F.keep
  unfold Builtin.List.listExtendWith
  refine wpAny_bind (I.type.here ?_)
  have h1 : Builtin.List.listSameRef (.ref S) (.ref x) = false := by simp [Builtin.List.listSameRef, Ne.symm hxS]
  have h2 : (Value.ref C == Value.type "list") = false := rfl
  have h3 : (Value.ref C == Value.type "tuple") = false := rfl
  simp only [h1, h2, h3, Bool.or_false, Bool.false_eq_true, if_false]
  refine wpAny_bind (owit_iter F X₀ I hs hf (wpAny_mono h (fun v s₁ hv => ?_) fun _ _ e => e))
  obtain ⟨J, c, its, c₁, rfl, hit, hl, hcJ, hSJ, hSc, X₁, I₁, hsz, hS, hfin⟩ := hv
  unfold OwitIt
  obtain ⟨oJ, hJ, hJc, hJd⟩ := id hit
  refine wpAny_specialOf ⟨oJ, hJ, hJc⟩ slot_listiter_next.lookup ?_
  refine wpAny_bind (wpAny_holding ?_)
  unfold Builtin.List.listLengthHint specialOf
  refine wpAny_bind (wpAny_bind (I₁.type.here ((looks_findIn X₁ hlen).here ?_)))
  dsimp only
  refine wpAny_bind (wpAny_bind (I₁.type.here ((looks_findIn X₁ hhint).here ?_)))
  dsimp only
  refine wpAny_pure ?_
  simp only [Bool.true_or, if_true]
  refine wpAny_bind (wpAny_rule ?_)
  refine wpAny_bind ?_
  show wpAny _ A.in1 (updateSeq S (·.push .none) >>= fun _ => updateSeq S (·.pop)) _ _ _
  refine wpAny_bind (wpAny_updateSeq hS rfl ?_)
  have hS₂ := Heap.get?_update_self (Obj.mapSeq (·.push Value.none)) hS rfl
  refine wpAny_updateSeq (hz := by seq_fits) hS₂ rfl ?_
  have hS₃ := Heap.get?_update_self (Obj.mapSeq (·.pop)) hS₂ rfl
  have oth : ∀ b o, b ≠ S → s₁.heap.get? b = some o → ((s₁.heap.update S (Obj.mapSeq (·.push Value.none))).update S (Obj.mapSeq (·.pop))).get? b = some o :=
    fun b o hb e => (Heap.get?_update_other _ _ (Ne.symm hb)).trans ((Heap.get?_update_other _ _ (Ne.symm hb)).trans e)
  have W := (Walks.list (prog := prog) (w := w) (A := A.in1) hh J c hcJ its).toS
  have hSf : S ∉ [J, c] := fun hm => by
    rcases List.mem_cons.mp hm with e | hm
    · exact hSJ e
    · rcases List.mem_cons.mp hm with e | hm
      · exact hSc e
      · cases hm
  refine wpAny_pure ⟨plainId_quiet PySem.F.plain_extend_loop _, codeAny_extend_loopS W hsz _ hSf _ its.size 0 _ _ _ rfl (Nat.zero_le _) ⟨hit.at fun o e => oth _ o (Ne.symm hSJ) e, hl.at fun o e => oth _ o (Ne.symm hSc) e⟩ hS₃ (ItemsOf.nil _) fun s' acc' c' hm hS' hacc => ?_⟩
  have e : s' = { s₁ with heap := s'.heap, toks := s'.toks } := by
    obtain ⟨hp, g, d, tk, os⟩ := s'
    have h1 := hm.gens
    have h2 := hm.drawn
    have h3 := hm.os
    simp only at h1 h2 h3
    subst h1 h2 h3
    rfl
  rw [e]
  refine hfin _ _ acc' c' (fun b o hb hb' eb => hm.heap b o (fun hmem => ?_) (oth b o hb eb)) hS' ?_
  · rcases List.mem_cons.mp hmem with e | hmem
    · exact hb e
    · rcases List.mem_cons.mp hmem with e | hmem
      · exact hb' e
      · cases hmem
  · apply Array.ext_getElem?
    intro j
    cases ej : acc'[j]? with
    | some v => exact (hacc.2 j v ej).symm
    | none =>
      have : acc'.size ≤ j := Array.getElem?_eq_none_iff.mp ej
      exact (Array.getElem?_eq_none (by rw [← hacc.1]; exact this)).symm

abbrev iterO (c : Addr) : Obj := { cls := .type "list_iterator", data := .fields #[.ref c, .int 0 0] }
theorem list_own {E : Value → Shared → Prop} {news : List (Addr × Obj)} {Q : Value → Shared → Prop} (hh : A.handled = none) (F : Fr h₀ L s.heap m) (X₀ : K.In h₀) (N : News h₀ L s.heap news) (hI : ∀ h, News h₀ L h news → InstAt h x ox C od) (hx : (x, ox) ∈ news)
    (hs : findIn K (.ref C) "__iter__" = some (some (.ref f))) (hf : isFn K (.ref f) = true) (hlen : findIn K (.ref C) "__len__" = some none) (hhint : findIn K (.ref C) "__length_hint__" = some none)
    (h : ∀ S c₀ h₁, Fr h₀ L h₁ m → News h₀ L h₁ ((S, W.listOf #[] c₀) :: news) → (∀ q ∈ news, q.1 < S) →
      wpAny (model prog w) A.in1.in1 (call (.ref f) [.ref x]) (fun v s₁ => ∃ J c its n c₁, v = .ref J ∧ Fr h₀ L s₁.heap m ∧ News h₀ L s₁.heap ((J, iterO c) :: (S, W.listOf #[] c₁) :: news) ∧ J ≠ S ∧ (∀ q ∈ news, q.1 ≠ J) ∧ (c, W.listOf its n) ∈ news ∧ its.size ≤ sizeLine ∧
        ∀ h' tk c', Fr h₀ L h' m → News h₀ L h' ((S, W.listOf its c') :: news) → Q (.ref S) { s₁ with heap := h', toks := tk }) E { s with heap := h₁ }) :
    wpAny (model prog w) A (call (.type "list") [.ref x]) Q E s := by
  have I := hI _ N
  have hxlt : x < s.heap.objs.size := Heap.lt_size (N _ hx).1
  refine callType_codes (Q₁ := fun obj s₁ => obj = .ref s.heap.objs.size ∧ s₁ = { s with heap := s.heap.push { cls := .type "list", data := .seq #[] } }) PySem.F.called_list (PySem.F.typeCall_list_1 _) PySem.F.entry_list_init
    (code_list_new _ ⟨rfl, rfl⟩) fun obj s₁ h₁ => ?_
  obtain ⟨rfl, rfl⟩ := h₁
  have hS : (s.heap.push { cls := .type "list", data := .seq #[] }).get? s.heap.objs.size = some { cls := .type "list", data := .seq #[] } := Heap.get?_push_size _ rfl
  refine ⟨⟨_, hS, rfl⟩, PySem.F.args_list_init_2 _ _, ?_⟩
  show wpAny _ A.in1.in1 (do let old ← Builtin.List.listItems (.ref s.heap.objs.size); Builtin.List.listUpdate (.ref s.heap.objs.size) (fun _ => #[]); letGo old.toList.reverse; Builtin.List.listExtendWith (.ref s.heap.objs.size) (.ref x) .none) _ _ _
  refine wpAny_bind ?_
  unfold Builtin.List.listItems
  refine wpAny_bind (wpAny_seqItems hS rfl (wpAny_pure ?_))
  show wpAny _ A.in1.in1 (updateSeq s.heap.objs.size (fun _ => #[]) >>= fun _ => letGo (#[] : Array Value).toList.reverse >>= fun _ => Builtin.List.listExtendWith (.ref s.heap.objs.size) (.ref x) .none) _ _ _
  refine wpAny_bind (wpAny_updateSeq hS rfl ?_)
  have hS₂ := Heap.get?_update_self (Obj.mapSeq (fun _ => (#[] : Array Value))) hS rfl
  refine wpAny_bind (wpAny_letGo ?_)
  have keep : ∀ b o, s.heap.get? b = some o → ((s.heap.push { cls := .type "list", data := .seq #[] }).update s.heap.objs.size (Obj.mapSeq (fun _ => (#[] : Array Value)))).get? b = some o := fun b o e =>
    (Heap.get?_update_other _ _ (fun e' : s.heap.objs.size = b => Nat.lt_irrefl _ (e' ▸ Heap.lt_size e))).trans (Heap.get?_push_of_some _ e)
  have F₂ := F.keeps keep
  have N₂ : News h₀ L ((s.heap.push { cls := .type "list", data := .seq #[] }).update s.heap.objs.size (Obj.mapSeq (fun _ => (#[] : Array Value)))) ((s.heap.objs.size, _) :: news) := news_pushed F N keep hS₂ rfl
  have hlt : ∀ q ∈ news, q.1 < s.heap.objs.size := fun q hq => Heap.lt_size (N q hq).1
  refine extend_own (A := A.in1) (S := s.heap.objs.size) hh F₂ X₀ (hI _ fun q hq => N₂ q (.tail _ hq)) hs hf hlen hhint (Nat.ne_of_lt hxlt) (wpAny_mono (h _ _ _ F₂ N₂ hlt) (fun v s₁ hv => ?_) fun _ _ e => e)
  obtain ⟨J, c, its, n, c₁, rfl, F₁, N₁, hJS, hJn, hc, hsz, hQ⟩ := hv
  have Nn : News h₀ L s₁.heap news := fun q hq => N₁ q (.tail _ (.tail _ hq))
  have hJ := (N₁ _ (.head _)).1
  have hS₁ := (N₁ _ (.tail _ (.head _))).1
  refine ⟨J, c, its, c₁, rfl, ⟨_, hJ, rfl, rfl⟩, Nn.isList hc, hJn _ hc, Ne.symm hJS, fun e => Nat.lt_irrefl _ (e ▸ hlt _ hc), X₀.keeps F₁.keep, hI _ Nn, hsz, hS₁, fun h' tk acc' c' hk hS' e => ?_⟩
  subst e
  refine ⟨rfl, hQ h' tk c' ?_ fun q hq => ?_⟩
  · have nS := (N₁ _ (.tail _ (.head _))).2
    have nJ := (N₁ _ (.head _)).2
    obtain ⟨oL, es, ep, hL, r⟩ := F₁.ns
    exact ⟨⟨oL, es, ep, hk _ _ (Ne.symm nS.1) (Ne.symm nJ.1) hL, r⟩, fun b o e => hk b o (fun e' => by have := nS.2; rw [← e', e] at this; cases this) (fun e' => by have := nJ.2; rw [← e', e] at this; cases this) (F₁.keep b o e), F₁.above⟩
  · rcases List.mem_cons.mp hq with rfl | hq
    · exact ⟨hS', (N₁ _ (.tail _ (.head _))).2⟩
    · exact ⟨hk _ _ (Nat.ne_of_lt (hlt q hq)) (hJn q hq) (Nn q hq).1, (Nn q hq).2⟩
theorem iter_list {A : Around} {E : Value → Shared → Prop} {news : List (Addr × Obj)} {c : Addr} {its : Array Value} {n : Nat} {Q : Value → Shared → Prop} (F : Fr h₀ L s.heap m) (N : News h₀ L s.heap news) (hc : (c, W.listOf its n) ∈ news)
    (h : ∀ J h', Fr h₀ L h' m → News h₀ L h' ((J, iterO c) :: news) → (∀ p ∈ news, p.1 < J) → Q (.ref J) { s with heap := h' }) :
    wpAny (model prog w) A (call (.builtin "iter") [.ref c]) Q E s := by
  refine call_function_entry (by decide +kernel) (by decide +kernel) kdk_entry_iter (kdk_args_iter _) ?_
  unfold Builtin.«iter»
  refine wpAny_bind (m := someArgs "iter" 1 2 _) (wpAny_of_eq (a := [Value.ref c]) (by first | rfl | kernel_rfl!) ?_)
  show wpAny _ _ (pyIter (.ref c) >>= _) _ _ _
  refine wpAny_bind (wpAny_pyIter_list (N.isList hc) ?_)
  exact wpAny_pure ⟨_, rfl, h _ _ (F.push _) (News.push F N _ rfl) (fun q hq => Heap.lt_size (N q hq).1)⟩
end
end Mine
end
section
open PySem PySem.W PyProof.Rows PySem.Calls PySem.Spec
set_option linter.unusedVariables false
namespace Mine
theorem AllObj.imp : ∀ {ws : List (Addr × String)} {k k' : List (Addr × Obj) → Prop}, (∀ its, k its → k' its) → AllObj ws k → AllObj ws k'
  | [], _, _, h, x => h _ x
  | w :: r, _, _, h, x => fun o ho => AllObj.imp (fun its => h ((w.1, o) :: its)) (x o ho)
theorem UnrPostW.imp {h₀ : Heap} {L : Addr} {s₁ : Shared} {its : List (Addr × Obj)} {R R' : (Str → Option Value) → List (Addr × Obj) → Prop} {Q : Flow → Shared → Prop} (h : ∀ m n, R m n → R' m n) {f : Flow} {s₂ : Shared} (x : UnrPostW h₀ L s₁ its R Q f s₂) : UnrPostW h₀ L s₁ its R' Q f s₂ := by
  cases f with
  | ret v => exact x
  | brk => exact x
  | next => obtain ⟨h', tk, m', n', e, F, N, o, r⟩ := x; exact ⟨h', tk, m', n', e, F, N, o, h _ _ r⟩
  | cont => obtain ⟨h', tk, m', n', e, F, N, o, r⟩ := x; exact ⟨h', tk, m', n', e, F, N, o, h _ _ r⟩
theorem items_inv {prog : Program} {w : World} {A : Around} {E : Value → Shared → Prop} {s : Shared} {env : Env} {h₀ : Heap} {target : Expr} {body : List Stmt} {Q : Flow → Shared → Prop} {ws : List (Addr × String)} {keep : List (Addr × Obj)} {xs : List Itm}
    (J : Nat → (Str → Option Value) → List (Addr × Obj) → Prop)
    (step : ∀ i a v m news h tk, xs[i]? = some a → a.Is v h → J i m news → Fr h₀ env.locals h m → AllObj ws (fun its => News h₀ env.locals h (its ++ news) →
      wpAny (model prog w) A (assign target env v) (fun _ s₂ => wpAny (model prog w) A (execs body env) (UnrPostW h₀ env.locals { s with heap := h, toks := tk } its (fun m' n' => SubL keep n' ∧ J (i + 1) m' n') Q) E s₂) E { s with heap := h, toks := tk }))
    (fin : ∀ m news h tk, J xs.length m news → Fr h₀ env.locals h m → News h₀ env.locals h news → Q .next { s with heap := h, toks := tk }) :
    ∀ (ys : List Itm) (i : Nat) (m : Str → Option Value) (news : List (Addr × Obj)), xs.drop i = ys → i ≤ xs.length → J i m news → ItemsRest prog w A E h₀ env target body Q s ws keep ys m news
  | [], i, m, news, e, hi, j => fun h tk F N => by
    have : i = xs.length := Nat.le_antisymm hi (by simpa using e)
    subst this
    exact fin m news h tk j F N
  | a :: r, i, m, news, e, hi, j => fun v h tk hv F => by
    have hx : xs[i]? = some a := by
      have := congrArg (fun l => l[0]?) e
      simpa using this
    have hr : xs.drop (i + 1) = r := by
      have := congrArg List.tail e
      simpa using this
    have hi' : i + 1 ≤ xs.length := by
      obtain ⟨h1, _⟩ := List.getElem?_eq_some_iff.mp hx
      exact h1
    refine AllObj.imp (fun its st N => ?_) (step i a v m news h tk hx hv j F)
    exact wpAny_mono (st N) (fun _ s₂ h₂ => wpAny_mono h₂ (fun f s₃ h₃ => UnrPostW.imp (fun m' n' ⟨k, j'⟩ => ⟨k, items_inv J step fin r (i + 1) m' n' hr hi' j'⟩) h₃) fun _ _ x => x) fun _ _ x => x
theorem add_strs {prog : Program} {w : World} {A : Around} {E : Value → Shared → Prop} {s : Shared} {h₀ : Heap} {L a b : Addr} {m : Str → Option Value} {news : List (Addr × Obj)} {vs ws : List Value} {ns ms : List Str} {Q : Value → Shared → Prop} (F : Fr h₀ L s.heap m) (N : News h₀ L s.heap news) (ha : s.heap.IsList a vs.toArray) (hb : s.heap.IsList b ws.toArray) (hi : StrsAre vs ns) (hj : StrsAre ws ms)
    (h : ∀ D us h', Fr h₀ L h' m → News h₀ L h' ((D, listOf (List.toArray us) 0) :: news) → (∀ p ∈ news, p.1 < D) → StrsAre us (ns ++ ms) → Q (.ref D) { s with heap := h' })
    (hz : ns.length + ms.length ≤ sizeLine) : wpAny (model prog w) A (binaryOp .Add (.ref a) (.ref b)) Q E s :=
  add_lists (hsz := by rw [hi.length, hj.length]; exact hz) F N ha hb fun h' F' N' => h _ _ h' F' N' (fun p hp => Heap.lt_size (N p hp).1) (hi.append' hj)
theorem sub_consL {a : Addr × Obj} {l B : List (Addr × Obj)} (h : a ∈ B) (k : ∀ q ∈ l, q ∈ B) : ∀ q ∈ a :: l, q ∈ B := List.forall_mem_cons.mpr ⟨h, k⟩
/-- the names of the loop over the parts -/
def rowsM (m1 : Str → Option Value) (l : Addr) (K O : Option Value) : Str → Option Value := fun y => if y = Str.ofString "rows" then some (.ref l) else if y = Str.ofString "one" then O else if y = Str.ofString "k" then K else m1 y
def RowsJ (M : Str → Option Value) (base : List (Addr × Obj)) (I : Addr) (f : Nat → List Str) (i : Nat) (m : Str → Option Value) (n : List (Addr × Obj)) : Prop :=
  ∃ l us k K O, m = rowsM M l K O ∧ n = (l, W.listOf us.toArray k) :: base ∧ StrsAre us (f i) ∧ (∀ q ∈ base, q.1 < l) ∧ (@Ne Nat l I) ∧ (@Ne Nat l (I + 1))
theorem rows_next {h₀ : Heap} {L : Addr} {s₁ : Shared} {h' : Heap} {tk : Nat} {M m' : Str → Option Value} {base news' : List (Addr × Obj)} {I : Addr} {o1 o2 : Obj} {f : Nat → List Str} {i : Nat} {Q : Flow → Shared → Prop} {keep : Addr × Obj}
    {l : Addr} {us : List Value} {k : Nat} {K O : Option Value} (F : Fr h₀ L h' m') (N : News h₀ L h' news') (hsub : ∀ q ∈ (I + 1, o1) :: (I, o2) :: (l, W.listOf us.toArray k) :: base, q ∈ news')
    (hm : m' = rowsM M l K O) (hk : keep ∈ base) (hs : StrsAre us (f (i + 1))) (ha : ∀ q ∈ base, q.1 < l) (hl1 : I < l) (hl2 : I + 1 < l) (hb : ∀ q ∈ base, q.1 < I) :
    UnrPostW h₀ L s₁ [(I + 1, o1), (I, o2)] (fun m n => SubL [keep] n ∧ RowsJ M base I f (i + 1) m n) Q .next { s₁ with heap := h', toks := tk } := by
  refine ⟨h', tk, m', (l, W.listOf us.toArray k) :: base, rfl, F, fun q hq => N q (hsub q hq), ?_, ⟨List.mem_cons_of_mem _ hk, trivial⟩, l, us, k, K, O, hm, rfl, hs, ha, Ne.symm (Nat.ne_of_lt hl1), Ne.symm (Nat.ne_of_lt hl2)⟩
  intro p hp q hq
  rcases List.mem_cons.mp hp with rfl | hp
  · rcases List.mem_cons.mp hq with rfl | hq
    · exact Ne.symm (Nat.ne_of_lt hl2)
    · rw [List.mem_singleton.mp hq]; exact Ne.symm (Nat.ne_of_lt hl1)
  · have h1 := hb p hp
    rcases List.mem_cons.mp hq with rfl | hq
    · exact Nat.ne_of_lt (Nat.lt_succ_of_lt h1)
    · rw [List.mem_singleton.mp hq]; exact Nat.ne_of_lt h1
theorem rows_items {prog : Program} {w : World} {A : Around} {E : Value → Shared → Prop} {s : Shared} {env : Env} {h₀ : Heap} {target : Expr} {body : List Stmt} {Q : Flow → Shared → Prop} {keep : Addr × Obj} {ps : List Value} {M : Str → Option Value} {base : List (Addr × Obj)} {I l0 : Addr} {us0 : List Value} {k0 : Nat} (f : Nat → List Str)
    (hM : M (Str.ofString "rows") = some (.ref l0)) (hs : StrsAre us0 (f 0)) (ha : ∀ q ∈ base, q.1 < l0) (hb : ∀ q ∈ (l0, W.listOf us0.toArray k0) :: base, q.1 < I)
    (step : ∀ (i : Nat) v T t l us k K O h tk, ps[i]? = some v → IsTup h T #[.int (i : Int) t, v] → StrsAre us (f i) → (∀ q ∈ base, q.1 < l) → (@Ne Nat l I) → (@Ne Nat l (I + 1)) → (∀ q ∈ base, q.1 < I) → Fr h₀ env.locals h (rowsM M l K O) →
      ∀ o1 o2 : Obj, News h₀ env.locals h ((I + 1, o1) :: (I, o2) :: (l, W.listOf us.toArray k) :: base) →
      wpAny (model prog w) A (assign target env (.ref T)) (fun _ s₂ => wpAny (model prog w) A (execs body env) (UnrPostW h₀ env.locals { s with heap := h, toks := tk } [(I + 1, o1), (I, o2)] (fun m' n' => SubL [keep] n' ∧ RowsJ M base I f (i + 1) m' n') Q) E s₂) E { s with heap := h, toks := tk })
    (fin : ∀ l us k K O h tk, StrsAre us (f ps.length) → (∀ q ∈ base, q.1 < l) → Fr h₀ env.locals h (rowsM M l K O) → News h₀ env.locals h ((l, W.listOf us.toArray k) :: base) → Q .next { s with heap := h, toks := tk }) :
    ItemsRest prog w A E h₀ env target body Q s [(I + 1, "enumerate"), (I, "list_iterator")] [keep] (enumItems 0 ps) M ((l0, W.listOf us0.toArray k0) :: base) := by
  have hb0 := hb _ (.head _)
  refine items_inv (RowsJ M base I f) ?_ ?_ _ 0 _ _ rfl (Nat.zero_le _) ⟨l0, us0, k0, M "k", M "one", ?_, rfl, hs, ha, Nat.ne_of_lt hb0, Nat.ne_of_lt (Nat.lt_succ_of_lt hb0)⟩
  · intro i a v m news h tk hx hv hJ F
    obtain ⟨l, us, k, K, O, rfl, rfl, hs', ha', h1, h2⟩ := hJ
    have hlt : i < ps.length := by
      have := (List.getElem?_eq_some_iff.mp hx).1
      rwa [enumItems_length] at this
    obtain ⟨v', hv'⟩ : ∃ v', ps[i]? = some v' := ⟨_, List.getElem?_eq_getElem hlt⟩
    have e := enumItems_get ps 0 i hv'
    rw [hx] at e
    cases e
    obtain ⟨T, t, rfl, hT⟩ := hv
    rw [Nat.zero_add] at hT
    intro o1 ho1 o2 ho2 N
    exact step i v' T t l us k K O h tk hv' hT hs' ha' h1 h2 (fun q hq => hb q (.tail _ hq)) F o1 o2 N
  · intro m news h tk hJ F N
    obtain ⟨l, us, k, K, O, rfl, rfl, hs', ha', _⟩ := hJ
    rw [enumItems_length] at hs'
    exact fin l us k K O h tk hs' ha' F N
  · funext y
    unfold rowsM
    by_cases h1 : y = Str.ofString "rows"
    · rw [if_pos h1, h1]; exact hM
    · rw [if_neg h1]
      by_cases h2 : y = Str.ofString "one"
      · rw [if_pos h2, h2]
      · rw [if_neg h2]
        by_cases h3 : y = Str.ofString "k"
        · rw [if_pos h3, h3]
        · rw [if_neg h3]
theorem rowsM_twice (M : Str → Option Value) (l l' : Addr) (K O K' O' : Option Value) (m' : Str → Option Value) (e : m' = fun y => if y = Str.ofString "rows" then some (.ref l') else if y = Str.ofString "one" then O' else if y = Str.ofString "k" then K' else rowsM M l K O y) : m' = rowsM M l' K' O' := by
  subst e
  funext y
  unfold rowsM
  by_cases h1 : y = Str.ofString "rows"
  · simp only [if_pos h1]
  · by_cases h2 : y = Str.ofString "one"
    · simp only [if_neg h1, if_pos h2]
    · by_cases h3 : y = Str.ofString "k"
      · simp only [if_neg h1, if_neg h2, if_pos h3]
      · simp only [if_neg h1, if_neg h2, if_neg h3]
end Mine
end
section
open PySem PySem.W PyProof.Rows PySem.Calls PySem.Spec
open Builtin Builtin.ObjectAttr Builtin.Getset_descriptor
set_option linter.unusedVariables false
set_option maxRecDepth 100000
namespace Mine
section
variable {prog : Program} {w : World} {A : Around} {E : Value → Shared → Prop} {s : Shared} {K : Frag} {R : Result → Shared → Prop} {h₀ : Heap} {L C : Addr} {m : Str → Option Value} {o : Obj} {v : Value}
theorem own_dga (d tp : Value) (C : Addr) : descrGetArgs ⟨[d, .ref C, tp], []⟩ = pure (d, some (.ref C), given tp) := by kernel_rfl
theorem own_get {tp : Value} (X : K.In s.heap) (ht : typeIn K (.ref C) = some (.type "type")) (ho : K.lookup C = some o) (hv : (o.slots[2]?).join = some v) (h : R (.ok (.ret v)) s) :
    codeAny (model prog w) A (.call (.builtin "getset_descriptor.__get__") ⟨[.builtin "type.__name__", .ref C, tp], []⟩) R s := by
  have L0' := looks_typeIn (M := model prog w) X ht
  have ho' := X _ _ ho
  obtain ⟨hh, g, dr, t, os⟩ := s
  have L0 : Looks (model prog w) hh (typeOf (.ref C)) (.type "type") := L0'
  have L1 : Looks (model prog w) hh (isSubtype (.type "type") (.type "type")) true := Looks.of_pure (by rw [isSubtype_type]; kernel_rfl)
  refine codeAny_call_builtin KF.slot_gs.plain KF.entry_gs (KF.slot_gs.check _ _ _ _ _ _ _ _ ktyn_type (KF.args_gs _ _ _) ?_)
  unfold Builtin.«getset_descriptor.__get__» descrGet
  rw [own_dga]
  refine wpAny_bind (wpAny_pure ?_)
  unfold descrGetter descrCheckInstance descrNameAndClass isInstance
  simp only [ktyn_owner]
  repeat lk
  refine ⟨Code.quiet_builtin _ (by decide +kernel), codeAny_builtin ktyn_entry ?_⟩
  unfold Builtin.«type.__name__» keptObject slotAt
  dsimp only
  refine wpAny_bind (wpAny_bind (wpAny_loadPart ho' (wpAny_pure ?_)))
  rw [hv]
  show wpAny _ _ (ret v) _ _ _
  exact wpAny_pure h
theorem own_attr {expr : Bool} {Q : Value → Shared → Prop} (F : Fr h₀ L s.heap m) (X₀ : K.In h₀) (hr : readsIn K C (.type "type") = true) (ht : typeIn K (.ref C) = some (.type "type"))
    (e : findCls K (.ref C) (.type "type") "__name__" = some (.get (.builtin "getset_descriptor.__get__") (.builtin "type.__name__") (.ref C) (.type "type")))
    (ho : K.lookup C = some o) (hv : (o.slots[2]?).join = some v) (hh : handedIn v = true)
    (h : ∀ u, Q v { s with toks := u }) : wpAny (model prog w) A (getAttr (.ref C) "__name__" expr) Q E s := by
  have X := X₀.keeps F.keep
  refine cls_read X hr e ?_
  show wpAny _ _ (do ret (← holding [Value.builtin "type.__name__"] (call (.builtin "getset_descriptor.__get__") [.builtin "type.__name__", .ref C, .type "type"]))) _ _ _
  refine wpAny_bind (wpAny_holding (wpAny_call (own_get (s := { s with toks := s.toks + 1 }) X ht ho hv ?_)))
  exact wpAny_pure (handed_on hh (h _))
end
end Mine
end
section
open PySem PySem.W PyProof.Rows PySem.Calls PySem.Spec
set_option linter.unusedVariables false
set_option maxRecDepth 100000
namespace Mine
section
variable {prog : Program} {w : World} {A : Around} {E : Value → Shared → Prop} {s : Shared} {env : Env} {h₀ : Heap} {L : Addr} {m : Str → Option Value}
theorem tup_st {ax I : Addr} {o9 : Obj} {its : Array Value} {k : Nat} (hc : o9.cls = .type "tuple") (hd : o9.data = .seq its k) : ∀ i (h h' : Heap) (o : Obj) (nw : List (Addr × Obj)), (h.IsTupleIter I ax i ∧ h.IsTuple ax its) → h.get? I = some o → h'.get? I = some o → (∀ b o, h₀.get? b = some o → h'.get? b = some o) → News h₀ L h' nw → (ax, o9) ∈ nw → (h'.IsTupleIter I ax i ∧ h'.IsTuple ax its) :=
  fun i h h' o nw st e e' k9 N S => ⟨by obtain ⟨o', q, r⟩ := st.1; rw [e] at q; cases q; exact ⟨o, e', r⟩, ⟨o9, (N _ S).1, hc, k, hd⟩⟩
theorem ListComp_tup {elt iter : Expr} {x : Str} {px : Pos} {scope : Scope} {cl : List (Str × Addr)} {pos : Pos} {Q : Value → Shared → Prop} (F₀ : Fr h₀ L s.heap m)
    (hclos : closureFor scope env = pure cl) (hcell : ∀ y ∈ scope.names, y.2 ≠ .cell) (hkind : scope.kind = .function)
    (hnames : ∀ y ∈ scope.names, y.2 = .local → scope.names.lookup y.1 = some .local) (hx : scope.names.lookup x = some .local)
    (h : wpAny (model prog w) A (eval iter env) (fun xv s₁ => ∃ ax its k news, xv = .ref ax ∧ A.handled = none ∧ Fr h₀ L s₁.heap m ∧ News h₀ L s₁.heap news ∧ (ax, ({ cls := .type "tuple", data := .seq its k } : Obj)) ∈ news ∧ its.size ≤ sizeLine ∧
      ∀ g, LCg.CompRest prog w A h₀ L m env elt x scope cl { s₁ with heap := g } (fun nw => (ax, ({ cls := .type "tuple", data := .seq its k } : Obj)) ∈ nw) (fun i v => its[i]? = some v) (LCg.FinE h₀ L m { s₁ with heap := g } Q) its.size 0 [] news) E s)
    (hs : ∀ x, foldedSetIterable iter env x = pure x := by intro _; rfl) :
    wpAny (model prog w) A (eval (.ListComp elt [⟨.Name x px, iter, [], 0⟩] scope pos) env) Q E s := by
  rw [eval_ListComp]
  refine wpAny_comprehension_free (use := none) rfl hs hclos hkind hnames (wpAny_mono h (fun xv s₁ h₁ => ?_) fun _ _ e => e)
  obtain ⟨ax, its, k, news, rfl, hh, F, N, S, hsz, R⟩ := h₁
  have hl : s₁.heap.IsTuple ax its := ⟨_, (N _ S).1, rfl, k, rfl⟩
  have hlt : ax < s₁.heap.objs.size := Heap.lt_size (N _ S).1
  refine wpAny_pyIter_tuple hl ?_
  have up : ∀ b o, s₁.heap.get? b = some o → (s₁.heap.push { cls := .type "tuple_iterator", data := .fields #[.ref ax, .int 0 0] }).get? b = some o := fun b o e => Heap.get?_push_of_some _ e
  refine LCg.block_U (Walks.tuple hh s₁.heap.objs.size ax (Nat.ne_of_lt hlt) its) hsz (fun i h st => by obtain ⟨o, e, _⟩ := st.1; exact ⟨o, e⟩) (tup_st (h₀ := h₀) (L := L) rfl rfl) hcell hkind hx ⟨⟨_, Heap.get?_push_size _ rfl, rfl, rfl⟩, hl.at fun o e => Heap.get?_push_of_some _ e⟩ (fun b hb => ?_)
    (F.keeps up) (N.grown up) (Nat.ne_of_lt F.ns.lt) (next_is_new F) (fun p hp => Nat.ne_of_lt (Heap.lt_size (N p hp).1)) S (R _) ?_
  · show b < (s₁.heap.push _).objs.size
    rw [Heap.size_push]
    rcases List.mem_cons.mp hb with rfl | hb
    · exact Nat.lt_succ_self _
    · rw [List.mem_singleton.mp hb]; exact Nat.lt_succ_of_lt hlt
  · intro D C h tk m' ys news' F' N' o1 hn hC₀ hD₀ hCL hDL hCD offC fin
    refine ⟨m', hn, fun h'' hs'' => fin D h'' tk (F'.change hs'' hCL hC₀) (fun p hp => ?_) o1⟩
    refine ⟨hs''.extBut _ _ ?_ (N' p hp).1, (N' p hp).2⟩
    rcases List.mem_cons.mp hp with rfl | hp
    · exact Ne.symm hCD
    · exact offC p hp
end
end Mine
end
section
open PySem PySem.W PyProof.Rows PySem.Calls PySem.Spec PySem.Builtin PySem.Builtin.Str
set_option linter.unusedVariables false
set_option maxRecDepth 100000
namespace Mine
section
variable {prog : Program} {w : World} {A : Around} {E : Value → Shared → Prop} {s : Shared}
theorem fmt_zero {id : String} {a : Array Value} {byName : PySem.Str → Sem Value} {v : Value} {Q : Value × Numbering → Shared → Prop} (ha : a[0]? = some v)
    (h : Q (v, .manual) s) : wpAny (model prog w) A (fieldObject id (some a) byName [48] .unset) Q E s := by
  unfold fieldObject
  refine wpAny_bind (wpAny_of_eq (a := some 0) rfl ?_)
  refine wpAny_bind (wpAny_of_eq (a := (some 0, .manual)) rfl ?_)
  simp only [ha, pure_bind]
  rw [KPc.range_list]
  exact wpAny_bind (wpAny_pure (wpAny_pure h))
theorem fmt_paren {X : PySem.Str} {t u : Tok} {Q : Value → Shared → Prop} (hX : X.length ≤ 1000) (h : ∀ t' k, Q (.str (PySem.Str.ofString "(" ++ X ++ PySem.Str.ofString ")") t') { s with toks := k }) :
    wpAny (model prog w) A (call (.builtin "str.format") [.str "({0})" t, .str X u]) Q E s := by
  refine' KFm.call_k (X := PySem.Str.ofString "({0})") ?kfmF ?kfmg ?kfmm ?_
  case kfmF => kfm_eq
  case kfmg => kfm_args
  case kfmm =>
    apply KPc.meets_of
    intro _ _ _ _ _ _ _
    unfold Builtin.«str.format»
    refine wpAny_bind (wpAny_of_eq (a := (_, _, _)) rfl ?_)
    refine wpAny_bind ?_
    unfold Builtin.Str.buildString
    refine wpAny_bind ?_
    rw [KPc.range_list]
    refine KFm.start ?_
    intro _ _
    refine KPc.turn ?_
    kpc_if
    kpc_check
    refine wpAny_bind (fmt_zero (by rfl) ?_)
    refine wpAny_bind (wpAny_holding (wpAny_of_eq (a := _) rfl ?_))
    kpc_if
    refine wpAny_bind (wpAny_pure ?_)
    kfm_val
    refine wpAny_bind (wpAny_of_eq (a := some _) rfl ?_)
    refine wpAny_pure ?_
    refine KFm.after_field (by kpc_g) (by kpc_text) (by kpc_obj) (by kfm_len) (by kpc_obj) (by kfm_cat2) (by kfm_rest) ?_
    intro _ _
    kfm_turns
  exact h
end
end Mine
end
section
open PySem PySem.W PyProof.Rows PySem.Calls PySem.Spec PySem.Builtin PySem.Builtin.Str
set_option linter.unusedVariables false
set_option maxRecDepth 100000
namespace Mine
section
variable {prog : Program} {w : World} {A : Around} {E : Value → Shared → Prop} {s : Shared}
theorem reprUnder_str {b : Nat} {x : PySem.Str} {t : Tok} {Q : Value → Shared → Prop} (hx : (reprText x).length ≤ sizeLine) (h : Q (.str (reprText x) s.toks) { s with toks := s.toks + 1 }) :
    wpAny (model prog w) A (pyReprObjUnder b (.str x t)) Q E s := by
  unfold pyReprObjUnder pyReprObjBy
  simp only [cRoomFor, show [Value.str x t].any Value.onHeap = false from rfl, Bool.false_eq_true, if_false, pure_bind]
  refine wpAny_bind (wpAny_specialOf (name := Str.ofString "__repr__") (typeIs_str s x t) F.slot_str_repr.lookup ?_)
  refine wpAny_bind (wpAny_callSpecialIfBoundBy?_slotG (name := Str.ofString "__repr__") (typeIs_str s x t) F.slot_str_repr.toG ?_)
  show wpAny _ _ (call (.builtin "str.__repr__") [.str x t]) _ _ _
  refine call_gives F.slot_str_repr (typeIs_str s x t) F.entry_str_repr (F.args_str_repr_1 _) (gives_str_repr x t) ⟨hx, ?_⟩
  exact wpAny_bind (wpAny_isInstance (T := "str") (b := true) rfl isSubtype_str_str (wpAny_pure h))
theorem mod_r {y : PySem.Str} {t u : Tok} {Q : Value → Shared → Prop} (hy : y.length ≤ 100) (hr : (reprText y).length ≤ 1000) (h : ∀ t' k, Q (.str (PySem.Str.ofString "s = " ++ reprText y) t') { s with toks := k }) :
    wpAny (model prog w) A (binaryOp .Mod (.str (PySem.Str.ofString "s = %r") t) (.str y u)) Q E s := by
  have hX : PySem.Str.ofString "s = %r" = ⟨#[115, 32, 61, 32, 37, 114]⟩ := by decide +kernel
  rw [hX]
  refine binaryOp_meets (T := "str") (op := .Mod) (S := fun _ R s => ∀ t' k, R (.ok (.ret (.str (PySem.Str.ofString "s = " ++ reprText y) t'))) { s with toks := k }) (typeIs_str s _ t) (typeIs_str s y u) F.fills_str_mod F.slot_str_mod F.entry_str_mod (F.args_str_mod_2 _ _) ?_ (fun t' k => ⟨(fun e => nomatch e), h t' k⟩)
  apply KPc.meets_of
  intro _ _ _ _ _ _ _
  rw [KPc.entry_is_s]
  unfold Builtin.Str.percentFormat
  refine wpAny_bind (wpAny_isInstance (typeIs_str _ _ _) F.sub_str_tuple ?_)
  refine wpAny_bind (wpAny_of_eq (a := some _) rfl ?_)
  refine wpAny_bind (KPc.wp_fills_str ?_)
  intro _
  kpc_if
  refine wpAny_bind (wpAny_pure ?_)
  refine wpAny_bind ?_
  rw [KPc.range_list]
  refine KPc.start ?_
  intro _ _
  refine KPc.turn ?_
  kpc_check
  (repeat kpc_if)
  refine wpAny_pure ?_
  kpc_piece
  refine KPc.turn ?_
  kpc_check
  (repeat kpc_if)
  refine wpAny_bind ?_
  refine wpAny_holding ?_
  (repeat kpc_if)
  refine wpAny_bind (reprUnder_str (by rw [sizeLine_eq]; omega) ?_)
  refine wpAny_bind (wpAny_of_eq (a := some _) rfl ?_)
  refine wpAny_pure ?_
  refine wpAny_pure ?_
  refine KPc.after_str (K := 1000) (by kpc_g) hr (by kpc_obj) ?_
  intro _ _
  kpc_turns
end
end Mine
end
section
open PySem PySem.W PyProof.Rows PySem.Calls PySem.Spec
set_option maxRecDepth 100000
namespace Mine
section
variable {prog : Program} {w : World} {A : Around} {E : Value → Shared → Prop} {s : Shared} {K : Frag} {h₀ : Heap} {L x C : Addr} {ox od : Obj} {m : Str → Option Value}
theorem get_classS {expr : Bool} {Q : Value → Shared → Prop} (F : Fr h₀ L s.heap m) (X₀ : K.In h₀) (I : InstAt s.heap x ox C (some od)) (hg : plainGet K C "__class__" = true) (hc : isClsIn K C = true)
    (ha : findIn K (.ref C) "__class__" = some (some (.builtin "object.__class__"))) (hn : specialIn K (.builtin "object.__class__") "__get__" = some (some (.builtin "getset_descriptor.__get__"))) (ht : takesIn K (.builtin "object.__class__") = some true)
    (hm : mroIn K C (.type "object") = some true) (h : Q (.ref C) { s with toks := s.toks + 1 }) : wpAny (model prog w) A (getAttr (.ref x) "__class__" expr) Q E s :=
  get_bind (X₀.keeps F.keep) I (plainGet_of hg).1 (findObj_data hc ha hn ht) (plainGet_of hg).2
    (wpAny_call (class_get (s := { s with toks := s.toks + 1 }) (ox := ox) (od := some od) (X₀.keeps F.keep) I hm (handed_on rfl h)))
end
theorem ll0 : Str.empty.length = 0 := rfl
theorem ll30 : (Str.ofString " = ").length = 3 := by decide +kernel
end Mine
end
section
open PySem PySem.W PyProof.Rows PySem.Calls PySem.Spec
set_option maxRecDepth 100000
namespace Mine
section
variable {prog : Program} {w : World} {A : Around} {E : Value → Shared → Prop} {s : Shared} {K : Frag} {h₀ : Heap} {L x C f : Addr} {ox : Obj} {od : Option Obj} {m : Str → Option Value}
theorem reprObj_K {Q : Value → Shared → Prop} (hu : A.units < cLine) (F : Fr h₀ L s.heap m) (X₀ : K.In h₀) (I : InstAt s.heap x ox C od) (hs : findIn K (.ref C) "__repr__" = some (some (.ref f))) (hf : isFn K (.ref f) = true)
    (h : wpAny (model prog w) A (call (.ref f) [.ref x]) (StrBack Q) E s) : wpAny (model prog w) A (pyReprObj (.ref x)) Q E s := by
  unfold pyReprObj
  refine wpAny_bind (wpAny_cRoomFor hu ?_)
  refine wpAny_bind (wpAny_bind (I.type.here ((looks_findIn (X₀.keeps F.keep) hs).here ?_)))
  show wpAny _ _ (if (some (Value.ref f)).isNone = true then _ else _) _ _ _
  rw [if_neg (by simp)]
  refine wpAny_bind (m := callSpecialIfBound? (.ref x) (Str.ofString "__repr__") _) (ifBound_K (X₀.keeps F.keep) I hs hf (wpAny_mono h (fun r s' hr => ?_) fun _ _ y => y))
  cases r <;> first | exact hr.elim | skip
  refine wpAny_bind (wpAny_isInstance (T := "str") (b := true) (typeIs_str _ _ _) isSubtype_str_str ?_)
  first
    | exact wpAny_pure hr
    | (rw [if_pos rfl]; exact wpAny_pure hr)
end
end Mine
end
section
open PySem PySem.W PyProof.Rows PySem.Calls PySem.Spec
set_option Elab.async false
set_option maxRecDepth 100000
set_option linter.unusedVariables false
namespace Mine
section
variable {prog : Program} {w : World} {A : Around} {E : Value → Shared → Prop} {s : Shared} {env : Env} {target : Expr} {body : List Stmt} {Q : Flow → Shared → Prop}
/-- a loop over a list by an invariant on the whole state -/
theorem for_listS {iter : Expr} {pos : Pos} (hh : A.handled = none)
    (h : wpAny (model prog w) A (eval iter env) (fun xv s₁ => wpAny (model prog w) A (pyIter xv) (fun it s₂ => ∃ (J c : Addr) (items : Array Value) (I : Nat → Shared → Prop), it = .ref J ∧ c ≠ J ∧ I 0 s₂ ∧
      (∀ i s', I i s' → i ≤ items.size → s'.heap.IsListIter J c i ∧ s'.heap.IsList c items) ∧
      (∀ i v s' h' tk, items[i]? = some v → I i s' → h'.IsListIter J c (i + 1) → (∀ b o, b ≠ J → s'.heap.get? b = some o → h'.get? b = some o) →
        wpAny (model prog w) A (assign target env v) (fun _ s₃ => wpAny (model prog w) A (execs body env) (fun f s₄ => f = .next ∧ I (i + 1) s₄) E s₃) E { s' with heap := h', toks := tk }) ∧
      ∀ s' h' tk, I items.size s' → (∀ b o, b ≠ J → s'.heap.get? b = some o → h'.get? b = some o) → Q .next { s' with heap := h', toks := tk }) E s₁) E s)
    (hs : ∀ x, foldedSetIterable iter env x = pure x := by intro _; rfl)
    (hE : PassesOwn (model prog w) A env E := by passes_own) :
    wpAny (model prog w) A (exec (.For target iter body [] pos) env) Q E s := by
  refine wpAny_For (wpAny_mono h (fun xv s₁ h₁ => wpAny_mono h₁ (fun it s₂ h₂ => ?_) fun _ _ e => e) fun _ _ e => e) hs
  obtain ⟨J, c, items, I, rfl, hne, h0, hst, step, hQ⟩ := h₂
  have W := Walks.list (prog := prog) (w := w) hh J c hne items
  refine codeAny_forLoop_any (fun k s' => ∃ i, I i s' ∧ i ≤ items.size ∧ k = items.size + 1 - i) ?_ (items.size + 1) ⟨0, h0, Nat.zero_le _, rfl⟩
  rintro k s' ⟨i, hI, hi, rfl⟩
  by_cases hlt : i < items.size
  · refine W.item i _ _ _ hlt (hst i s' hI hi) fun v h' tk hP st' hk => ?_
    refine letGo_listiter st'.1 ?_
    have st := step i v s' h' tk hP hI st'.1 fun b o hb e => hk b o (fun hm => hb (List.mem_singleton.mp hm)) e
    refine wpAny_mono (wpAny_passesOwn hE st) (fun _ s₃ h₃ => ?_) fun _ _ e => e
    refine wpAny_mono (wpAny_passesOwn hE h₃) (fun f s₄ h₄ => ?_) fun _ _ e => e
    obtain ⟨rfl, hI'⟩ := h₄
    exact ⟨items.size + 1 - (i + 1), by omega, i + 1, hI', hlt, rfl⟩
  · obtain rfl : i = items.size := Nat.le_antisymm hi (Nat.not_lt.mp hlt)
    refine W.done _ _ _ (hst _ s' hI hi) fun h' tk hk => wpAny_execs_nil ?_
    exact hQ s' h' tk hI fun b o hb e => hk b o (fun hm => hb (List.mem_singleton.mp hm)) e
theorem owit_listit {M : Model} {J : Addr} {Q : Value → Shared → Prop} (hT : s.TypeIs (.ref J) "list_iterator") (h : Q (.ref J) s) : OwitIt M A Q E (.ref J) s := by
  unfold OwitIt
  exact wpAny_specialOf (name := Str.ofString "__next__") hT slot_listiter_next.lookup h
end
end Mine
end
section
open PySem PySem.W PyProof.Rows PySem.Calls PySem.Spec
set_option Elab.async false
set_option maxRecDepth 100000
set_option linter.unusedVariables false
namespace Mine
theorem range_small : ∀ {n : Nat}, n ≤ 2 → Builtin.Range.small 0 (n : Int) 1 = true ∧ Builtin.Range.rangeSize 0 (n : Int) 1 = (n : Int)
  | 0, _ => by decide +kernel
  | 1, _ => by decide +kernel
  | 2, _ => by decide +kernel
  | n + 3, h => by omega
section
variable {prog : Program} {w : World} {A : Around} {E : Value → Shared → Prop} {s : Shared} {env : Env} {target : Expr} {body : List Stmt} {Q : Flow → Shared → Prop}
theorem letGo_int {I : Addr} {i : Int} {t : Tok} {Q' : Unit → Shared → Prop} {s' : Shared} (h : Q' () s') : wpAny (model prog w) A (letOwnedTupleGo target (.ref I) (.int i t)) Q' E s' := by
  unfold letOwnedTupleGo
  cases target <;> exact wpAny_pure h
/-- a loop over range(n), n at most 2, by an invariant on the whole state -/
theorem for_rangeS {iter : Expr} {pos : Pos} (hh : A.handled = none)
    (h : wpAny (model prog w) A (eval iter env) (fun xv s₁ => ∃ (r : Addr) (n : Nat) (t u v : Tok) (I : Nat → Shared → Prop), xv = .ref r ∧ IsRange s₁.heap r 0 (n : Int) 1 t u v ∧ n ≤ 2 ∧
      I 0 { s₁ with heap := s₁.heap.push { cls := .type "range_iterator", data := .fields #[rawInt 0, rawInt (n : Int), rawInt 1] } } ∧
      (∀ i s', I i s' → i ≤ n → IsRangeIter s'.heap s₁.heap.objs.size (0 + (i : Nat) * 1) ((n : Int) - (i : Nat)) 1) ∧
      (∀ (i : Nat) s' h' tk t, i < n → I i s' → IsRangeIter h' s₁.heap.objs.size (0 + ((i + 1 : Nat) : Nat) * 1) ((n : Int) - ((i + 1 : Nat) : Nat)) 1 → (∀ b o, b ≠ s₁.heap.objs.size → s'.heap.get? b = some o → h'.get? b = some o) →
        wpAny (model prog w) A (assign target env (.int (i : Int) t)) (fun _ s₃ => wpAny (model prog w) A (execs body env) (fun f s₄ => f = .next ∧ I (i + 1) s₄) E s₃) E { s' with heap := h', toks := tk }) ∧
      ∀ s' h' tk, I n s' → (∀ b o, b ≠ s₁.heap.objs.size → s'.heap.get? b = some o → h'.get? b = some o) → Q .next { s' with heap := h', toks := tk }) E s)
    (hs : ∀ x, foldedSetIterable iter env x = pure x := by intro _; rfl)
    (hE : PassesOwn (model prog w) A env E := by passes_own) :
    wpAny (model prog w) A (exec (.For target iter body [] pos) env) Q E s := by
  refine wpAny_For (wpAny_mono h (fun xv s₁ h₁ => ?_) fun _ _ e => e) hs
  obtain ⟨r, n, t, u, v, I, rfl, hr, hn, h0, hst, step, hQ⟩ := h₁
  have hsm := range_small hn
  refine wpAny_pyIter_range hr hsm.1 ?_
  rw [hsm.2]
  have W := Walks.range (prog := prog) (w := w) hh s₁.heap.objs.size 0 1 n
  refine codeAny_forLoop_any (fun k s' => ∃ i, I i s' ∧ i ≤ n ∧ k = n + 1 - i) ?_ (n + 1) ⟨0, h0, Nat.zero_le _, rfl⟩
  rintro k s' ⟨i, hI, hi, rfl⟩
  by_cases hlt : i < n
  · refine W.item i _ _ _ hlt (hst i s' hI hi) fun v h' tk hP st' hk => ?_
    obtain ⟨t', rfl⟩ := hP
    have hb : ∀ b o, b ≠ s₁.heap.objs.size → s'.heap.get? b = some o → h'.get? b = some o := fun b o hb e => hk b o (fun hm => hb (List.mem_singleton.mp hm)) e
    have st := step i s' h' tk t' hlt hI st' hb
    have e0 : (0 : Int) + (i : Int) * 1 = (i : Int) := by omega
    rw [e0]
    dsimp only
    refine letGo_int ?_
    refine wpAny_mono (wpAny_passesOwn hE st) (fun _ s₃ h₃ => ?_) fun _ _ e => e
    refine wpAny_mono (wpAny_passesOwn hE h₃) (fun f s₄ h₄ => ?_) fun _ _ e => e
    obtain ⟨rfl, hI'⟩ := h₄
    exact ⟨n + 1 - (i + 1), by omega, i + 1, hI', hlt, rfl⟩
  · obtain rfl : i = n := Nat.le_antisymm hi (Nat.not_lt.mp hlt)
    refine W.done _ _ _ (hst _ s' hI hi) fun h' tk hk => wpAny_execs_nil ?_
    exact hQ s' h' tk hI fun b o hb e => hk b o (fun hm => hb (List.mem_singleton.mp hm)) e
end
end Mine
end
section
open PySem PySem.W PyProof.Rows
set_option linter.unusedVariables false
namespace Mine
open PySem.Builtin PySem.Builtin.Str PySem.StrLaws

def joinN : List (List Nat) → List Nat
  | [] => []
  | [l] => l
  | l :: k :: r => l ++ 10 :: joinN (k :: r)
def spansN : Nat → List (List Nat) → List (Nat × Nat × Nat)
  | _, [] => []
  | c, [l] => [(c, c + l.length, c + l.length)]
  | c, l :: k :: r => (c, c + l.length, c + l.length + 1) :: spansN (c + l.length + 1) (k :: r)

def lrun (s : Str) (cur m : Nat) (st : LsSt) : LsSt := Id.run (forIn (m := Id) (List.range' cur m) st (lsBody s))
theorem lrun_zero (s : Str) (cur : Nat) (st : LsSt) : lrun s cur 0 st = st := rfl
theorem lrun_plain (s : Str) (cur m : Nat) (st : LsSt) (h : Unicode.isLineBreak (s.cps.getD cur 0) = false) : lrun s cur (m + 1) st = lrun s (cur + 1) m st := by
  unfold lrun
  rw [List.range'_succ, List.forIn_cons]
  unfold lsBody
  simp only [h, Bool.and_false, Bool.false_eq_true, if_false]
  rfl
theorem lrun_break (s : Str) (cur m start : Nat) (arr : Array (Nat × Nat × Nat)) (h : s.cps.getD cur 0 = 10) (hs : start ≤ cur) : lrun s cur (m + 1) (arr, start) = lrun s (cur + 1) m (arr.push (start, cur, cur + 1), cur + 1) := by
  unfold lrun
  rw [List.range'_succ, List.forIn_cons]
  have hb : Unicode.isLineBreak 10 = true := by decide +kernel
  have hn : lsNext s cur = cur + 1 := by unfold lsNext; rw [h]; simp
  have hc : (decide (start ≤ cur) && Unicode.isLineBreak (s.cps.getD cur 0)) = true := by rw [h, hb]; simp [hs]
  unfold lsBody
  simp only [hc, if_true, hn]
  rfl
theorem getD_drop {s : Str} {cur c : Nat} {r : List Nat} (h : s.cps.toList.drop cur = c :: r) : s.cps.getD cur 0 = c := by
  have e : s.cps.toList[cur]? = some c := by
    have := congrArg (fun l => l[0]?) h
    simpa using this
  rw [Array.getElem?_toList] at e
  simp [Array.getD_eq_getD_getElem?, e]
theorem lrun_line (s : Str) : ∀ (l t : List Nat) (cur m : Nat) (st : LsSt), s.cps.toList.drop cur = l ++ t → (∀ c ∈ l, Unicode.isLineBreak c = false) → lrun s cur (l.length + m) st = lrun s (cur + l.length) m st
  | [], t, cur, m, st, h, _ => by simp
  | c :: l, t, cur, m, st, h, hl => by
    have e : (c :: l).length + m = (l.length + m) + 1 := by simp; omega
    rw [e, lrun_plain s cur _ st (by rw [getD_drop (r := l ++ t) h]; exact hl c (.head _))]
    have h2 : s.cps.toList.drop (cur + 1) = l ++ t := by
      have := congrArg (List.drop 1) h
      simpa [List.drop_drop] using this
    rw [lrun_line s l t (cur + 1) m st h2 fun c hc => hl c (.tail _ hc)]
    have e2 : cur + 1 + l.length = cur + (c :: l).length := by simp; omega
    rw [e2]
theorem lrun_all (s : Str) : ∀ (ls : List (List Nat)) (cur : Nat) (arr : Array (Nat × Nat × Nat)), ls ≠ [] → (∀ l ∈ ls, l ≠ [] ∧ ∀ c ∈ l, Unicode.isLineBreak c = false) → s.cps.toList.drop cur = joinN ls → cur + (joinN ls).length = s.length →
    lsEnd s (lrun s cur (joinN ls).length (arr, cur)) = arr.toList ++ spansN cur ls
  | [], _, _, h, _, _, _ => absurd rfl h
  | [l], cur, arr, _, hl, hd, hn => by
    have hl' := hl l (.head _)
    have e : (joinN [l]).length = l.length + 0 := rfl
    rw [e, lrun_line s l [] cur 0 (arr, cur) (by rw [hd]; simp [joinN]) hl'.2, lrun_zero]
    have h0 : 0 < l.length := List.length_pos_iff.mpr hl'.1
    have hn' : cur + l.length = s.length := hn
    unfold lsEnd
    rw [if_pos (show (arr, cur).snd < s.length by show cur < s.length; omega)]
    simp [spansN, hn']
  | l :: k :: r, cur, arr, _, hl, hd, hn => by
    have hl' := hl l (.head _)
    have hj : joinN (l :: k :: r) = l ++ 10 :: joinN (k :: r) := rfl
    rw [hj] at hd hn ⊢
    have e : (l ++ 10 :: joinN (k :: r)).length = l.length + ((joinN (k :: r)).length + 1) := by simp
    rw [e] at hn ⊢
    rw [lrun_line s l (10 :: joinN (k :: r)) cur _ (arr, cur) hd hl'.2]
    have h2 : s.cps.toList.drop (cur + l.length) = 10 :: joinN (k :: r) := by
      have := congrArg (List.drop l.length) hd
      simpa [List.drop_drop] using this
    rw [lrun_break s (cur + l.length) _ cur arr (getD_drop h2) (by omega)]
    have h3 : s.cps.toList.drop (cur + l.length + 1) = joinN (k :: r) := by
      have := congrArg (List.drop 1) h2
      simpa [List.drop_drop] using this
    rw [lrun_all s (k :: r) (cur + l.length + 1) _ (by simp) (fun l hm => hl l (.tail _ hm)) h3 (by omega)]
    simp [spansN]
theorem spans_sub (s : Str) : ∀ (ls : List (List Nat)) (cur : Nat), s.cps.toList.drop cur = joinN ls → (spansN cur ls).map (fun p => (strSub s p.1 p.2.1).cps.toList) = ls
  | [], _, _ => rfl
  | [l], cur, hd => by
    simp only [spansN, List.map_cons, List.map_nil, strSub_toList, hd, joinN]
    simp
  | l :: k :: r, cur, hd => by
    have hj : joinN (l :: k :: r) = l ++ 10 :: joinN (k :: r) := rfl
    rw [hj] at hd
    have h3 : s.cps.toList.drop (cur + l.length + 1) = joinN (k :: r) := by
      have := congrArg (List.drop (l.length + 1)) hd
      rw [List.drop_drop] at this
      rw [show cur + l.length + 1 = cur + (l.length + 1) by omega, this, List.drop_append]
      simp
    show (strSub s cur (cur + l.length)).cps.toList :: _ = _
    rw [strSub_toList, hd, spans_sub s (k :: r) _ h3]
    simp

theorem join_joinN : ∀ ls : List Str, (Str.join "\n" ls).cps.toList = joinN (ls.map (·.cps.toList))
  | [] => rfl
  | [l] => rfl
  | l :: k :: r => by
    show (l ++ "\n" ++ Str.join "\n" (k :: r)).cps.toList = l.cps.toList ++ 10 :: joinN ((k :: r).map (·.cps.toList))
    rw [← join_joinN (k :: r)]
    have hn : (("\n" : Str)).cps = #[10] := by decide +kernel
    simp only [Str.cps_append, hn, Array.toList_append]
    simp
theorem txt_join (sep : Str) (ls : List Str) : Txt.join sep ls = Str.join sep ls := glued_eq_join sep ls

theorem linesOf_join (ls : List Str) (hne : ls ≠ []) (h : ∀ l ∈ ls, l.cps.toList ≠ [] ∧ ∀ c ∈ l.cps.toList, Unicode.isLineBreak c = false) : linesOf (Str.join "\n" ls) = ls := by
  generalize hs : Str.join "\n" ls = s
  have hj : s.cps.toList = joinN (ls.map (·.cps.toList)) := by rw [← hs]; exact join_joinN ls
  have hlen : (joinN (ls.map (·.cps.toList))).length = s.length := by rw [← hj]; simp [Str.length]
  have hsp : lineSpans s = spansN 0 (ls.map (·.cps.toList)) := by
    rw [ls_eq]
    have := lrun_all s (ls.map (·.cps.toList)) 0 #[] (by simpa using hne) (by simpa using h) (by simpa using hj) (by rw [hlen]; omega)
    rw [hlen] at this
    simpa [lrun] using this
  have h2 := spans_sub s (ls.map (·.cps.toList)) 0 (by simpa using hj)
  unfold linesOf lineCuts
  rw [hsp, List.map_map]
  have h3 : ((spansN 0 (ls.map (·.cps.toList))).map (fun p => strSub s p.1 p.2.1)).map (·.cps.toList) = ls.map (·.cps.toList) := by rw [List.map_map]; exact h2
  have inj : ∀ {a b : List Str}, a.map (·.cps.toList) = b.map (·.cps.toList) → a = b := by
    intro a
    induction a with
    | nil => intro b e; cases b with
      | nil => rfl
      | cons y b => simp at e
    | cons x a ih => intro b e; cases b with
      | nil => simp at e
      | cons y b =>
        simp only [List.map_cons, List.cons.injEq] at e
        rw [ih e.2]
        obtain ⟨x⟩ := x
        obtain ⟨y⟩ := y
        have : x = y := Array.toList_inj.mp e.1
        rw [this]
  exact inj h3
theorem lines_join (ls : List Str) (hne : ls ≠ []) (h : ∀ l ∈ ls, l.cps.toList ≠ [] ∧ ∀ c ∈ l.cps.toList, Unicode.isLineBreak c = false) : Txt.lines (Txt.join "\n" ls) = ls := by
  rw [txt_join]
  unfold Txt.lines
  split
  · rename_i hc
    have e := beq_iff_eq.mp hc
    have h2 := linesOf_join ls hne h
    unfold linesOf at h2
    rw [e] at h2
    simpa [strSub, Str.length] using h2
  · exact linesOf_join ls hne h
end Mine
end
section
open PySem PySem.W PyProof.Rows
set_option linter.unusedVariables false
namespace Mine
theorem join_len (sep : Str) : ∀ ls : List Str, (Str.join sep ls).length ≤ (ls.map (·.length)).sum + ls.length * sep.length
  | [] => by show (0 : Nat) ≤ _; exact Nat.zero_le _
  | [x] => by show x.length ≤ _; simp
  | x :: y :: r => by
    have h := join_len sep (y :: r)
    have e : Str.join sep (x :: y :: r) = x ++ (sep ++ Str.join sep (y :: r)) := by first | rfl | (simp [Str.join, Str.append_assoc])
    rw [e, Str.length_append, Str.length_append]
    simp only [List.map_cons, List.sum_cons, List.length_cons, Nat.add_mul, Nat.one_mul] at h ⊢
    omega
theorem txt_join_len (sep : Str) (ls : List Str) : (Txt.join sep ls).length ≤ (ls.map (·.length)).sum + ls.length * sep.length := by
  rw [txt_join]; exact join_len sep ls
theorem sum_le {α : Type} (f : α → Nat) (B : Nat) : ∀ {l : List α}, (∀ x ∈ l, f x ≤ B) → (l.map f).sum ≤ l.length * B
  | [], _ => by simp
  | x :: r, h => by
    have h1 := h x (.head _)
    have h2 := sum_le f B (l := r) fun y hy => h y (.tail _ hy)
    simp only [List.map_cons, List.sum_cons, List.length_cons, Nat.add_mul, Nat.one_mul]
    omega
end Mine
end
section
open PySem PySem.W PyProof.Rows PySem.Builtin PySem.Builtin.Str
set_option linter.unusedVariables false
namespace Mine
theorem rc_ab {c : Nat} (h : c = 97 ∨ c = 98) : reprChar 39 c = [c] := by
  rcases h with rfl | rfl <;> decide +kernel
theorem fold_ab : ∀ (l : List Nat) (acc : Array Nat), (∀ c ∈ l, c = 97 ∨ c = 98) → l.foldl (fun out c => out ++ (reprChar 39 c).toArray) acc = acc ++ l.toArray
  | [], acc, _ => by simp
  | c :: r, acc, h => by
    rw [List.foldl_cons, fold_ab r _ fun d hd => h d (.tail _ hd), rc_ab (h c (.head _))]
    apply Array.ext'
    simp
theorem repr_ab {x : Str} (h : ∀ c ∈ x.cps.toList, c = 97 ∨ c = 98) : reprText x = Str.ofString "'" ++ x ++ Str.ofString "'" := by
  have hq : reprQuote x = 39 := by
    unfold reprQuote
    have : x.cps.contains 39 = false := by
      rw [Bool.eq_false_iff]
      intro e
      have hm : 39 ∈ x.cps.toList := by simpa using e
      rcases h _ hm with e | e <;> omega
    rw [this]; rfl
  unfold reprText
  rw [hq, ← Array.foldl_toList, fold_ab _ _ h]
  show Str.mk _ = Str.mk _
  congr 1
end Mine
end
section
open PySem PySem.W PyProof.Rows PySem.Builtin PySem.Builtin.Str
set_option linter.unusedVariables false
namespace Mine
theorem sapp (a b c : Str) : a ++ b ++ c = a ++ (b ++ c) := by
  show Str.mk _ = Str.mk _
  congr 1
  exact Array.append_assoc ..
theorem sempty (a : Str) : Str.empty ++ a = a := by
  show Str.mk _ = a
  obtain ⟨l⟩ := a
  congr 1
  exact Array.empty_append
theorem sblank (a : Str) : a ++ Str.ofString "" = a := by
  obtain ⟨l⟩ := a
  show Str.mk _ = Str.mk _
  congr 1
theorem slen_pos {nm : Str} (h : ¬ nm = Str.ofString "") : 1 ≤ nm.length := by
  rcases Nat.eq_zero_or_pos nm.length with e | e
  · exfalso
    apply h
    obtain ⟨l⟩ := nm
    have : l = #[] := Array.eq_empty_of_size_eq_zero e
    subst this
    rfl
  · exact e
theorem q_cps (x : Str) : (Str.ofString "'" ++ x ++ Str.ofString "'").cps.toList = 39 :: (x.cps.toList ++ [39]) := by
  show ((#[39] ++ x.cps) ++ #[39]).toList = _
  simp
theorem q_strip (x : Str) : Txt.strip (Str.ofString "'" ++ x ++ Str.ofString "'") = Str.ofString "'" ++ x ++ Str.ofString "'" := by
  have h39 : Unicode.isSpace 39 = false := by decide +kernel
  have e : stripSame Unicode.isSpace true true (Str.ofString "'" ++ x ++ Str.ofString "'") = true := by
    have hlo : stripLo Unicode.isSpace true (Str.ofString "'" ++ x ++ Str.ofString "'") = 0 := by
      unfold stripLo
      rw [if_pos rfl, q_cps, List.takeWhile_cons, h39]
      rfl
    unfold stripSame
    rw [hlo]
    unfold stripHi
    rw [if_pos rfl, q_cps, List.drop_zero]
    rw [show (39 :: (x.cps.toList ++ [39])).reverse = 39 :: (x.cps.toList.reverse ++ [39]) by simp]
    rw [List.takeWhile_cons, h39]
    simp
  unfold Txt.strip Txt.stripBy
  rw [if_pos e]
theorem q_starts (x : Str) : Txt.startswith (Str.ofString "'" ++ x ++ Str.ofString "'") (Str.ofString "(") = false := by
  unfold Txt.startswith
  rw [StrLaws.subAt_eq, q_cps]
  have : ((39 :: (x.cps.toList ++ [39])).drop 0).take (Str.ofString "(").length = [39] := by
    rw [show (Str.ofString "(").length = 1 by decide +kernel]; rfl
  rw [this, show ([39] == (Str.ofString "(").cps.toList) = false by decide +kernel, Bool.and_false]
end Mine
end
section
open PySem PySem.W PyProof.Rows PySem.Calls PySem.Spec
set_option Elab.async false
set_option maxRecDepth 100000
set_option linter.unusedVariables false
namespace Mine
/-- a code object that knows its table of codes -/
def CodeO (o : Obj) (c P : Addr) (qual : Str) : Prop :=
  ∃ vs file tf flags tg inF text tt t, o.cls = .type "code" ∧ o.data = .fields vs ∧ vs[11]? = some (.ref P) ∧ vs.getD 11 .none = .ref P ∧ vs.getD 18 .none = .str file tf ∧
    vs.getD 7 .none = .int flags tg ∧ vs.getD 9 .none = .bool inF ∧ vs.getD 10 .none = .int text tt ∧ c ≠ P ∧ vs[1]? = some (.str qual t)
theorem CodeO.hd {h : Heap} {o : Obj} {c P : Addr} {qual : Str} (x : CodeO o c P qual) (e : h.get? c = some o) : CodeHd h c P :=
  let ⟨vs, file, tf, flags, tg, inF, text, tt, t, r1, r2, r3, r4, r5, r6, r7, r8, r9, _⟩ := x; ⟨o, vs, file, tf, flags, tg, inF, text, tt, e, r1, r2, r3, r4, r5, r6, r7, r8, r9⟩
theorem CodeO.rec {h : Heap} {o : Obj} {c P : Addr} {qual : Str} (x : CodeO o c P qual) (e : h.get? c = some o) : h.CodeRec (.ref c) qual :=
  let ⟨vs, _, _, _, _, _, _, _, t, _, r2, _, _, _, _, _, _, _, r10⟩ := x; ⟨c, o, vs, t, rfl, e, r2, r10⟩
theorem CodeO.of {h : Heap} {c P : Addr} {qual : Str} (x : CodeHd h c P) (r : h.CodeRec (.ref c) qual) : ∃ o, h.get? c = some o ∧ CodeO o c P qual := by
  obtain ⟨o, vs, file, tf, flags, tg, inF, text, tt, e, r1, r2, r3, r4, r5, r6, r7, r8, r9⟩ := x
  obtain ⟨c₂, o₂, vs₂, t, e₂, g₂, d₂, v₂⟩ := r
  cases e₂
  rw [e] at g₂
  cases g₂
  rw [r2] at d₂
  cases d₂
  exact ⟨o, e, vs, file, tf, flags, tg, inF, text, tt, t, r1, r2, r3, r4, r5, r6, r7, r8, r9, v₂⟩

section
variable {M : Model} {A : Around} {E : Value → Shared → Prop} {s : Shared} {name qual : Str} {params : Arguments} {body : List Stmt} {scope : Scope} {env : Env} {c P : Addr} {pos : Pos} {firstLine : Nat} {mg : Str → Option Value} {Q : Value → Shared → Prop}
theorem make_first (hcl : closureFor scope env = pure []) (hge0 : env.globals = mainGlobals) (hg : s.heap.Ns mainGlobals mg) (hcode : env.code = .ref c) (C : CodeHd s.heap c P) (hP : s.heap.get? P = some (tabObj #[]))
    (hgP : mainGlobals ≠ P) (hb : s.heap.BuiltinsAt mg P) (hdoc : docOf body = none)
    (h : ∀ c' P' ctv h' tk, Heap.ExtBut P s.heap h' → s.heap.objs.size ≤ c' → c' < h'.objs.size → h'.CodeRec (.ref c') qual → h'.get? P = some (tabObj #[rawInt pos.line, rawInt pos.col, .ref c']) →
      s.heap.objs.size ≤ P' → h'.IsCode c' P' #[] → h'.TableAt c' P' #[] →
      Q (.ref h'.objs.size) { s with heap := h'.push (fnMade name qual params body scope [] .none ((mg "__name__").getD .none) c' ctv), toks := tk }) :
    wpAny M A (makeFunction name qual params (.stmts body) scope env [] [] [] pos firstLine) Q E s := by
  obtain ⟨bm, ob, hbm, hne0, _, hneP, hbo, hcls, hdict, hdata⟩ := hb
  rw [makeFunction_eq]
  simp only [List.zip_nil_right, List.filterMap_nil, List.isEmpty_nil, if_true, pure_bind]
  unfold makeTail
  rw [hcl, hge0]
  refine wpAny_bind (wpAny_pure ?_)
  simp only [List.isEmpty_nil, if_true]
  refine wpAny_bind (wpAny_pure ?_)
  refine wpAny_bind (wpAny_functionCodeX hcode (C.code hP trivial) (C.tab hP) rfl fun c' h' tk hx hge hlt hisc hrec htb hP' => ?_)
  obtain ⟨P', hP1, hP2, hP3⟩ := hP'
  have hg' := hg.extBut hx hgP
  refine wpAny_bind (wpAny_builtinsFor hg' hbm hne0 (hx _ _ hneP hbo) hcls hdict hdata ?_)
  refine wpAny_bind (wpAny_nsGet hg' ?_)
  rw [hdoc]
  exact wpAny_bind (wpAny_pure (wpAny_newObj_type (h c' P' .none h' tk hx hge hlt hrec htb.2 hP1 hP2 hP3) (by size_fits)))
end
section
variable {prog : Program} {w : World} {A : Around} {E : Value → Shared → Prop} {s : Shared} {h₀ : Heap} {L a c P : Addr} {m mg mb : Str → Option Value} {cn : Str} {cs : Scope} {ccd : Value} {cl : List (Str × Addr)} {news : List (Addr × Obj)}
  {p : Program} {loose : List Str} {mean : ExcName → Option Value} {name qual : Str} {params : Arguments} {body : List Stmt} {scope : Scope} {pos : Pos} {firstLine : Nat}
theorem nest_first {Q : Value → Shared → Prop} (F : Fr h₀ L s.heap m) (N : News h₀ L s.heap ((P, tabObj #[]) :: news)) (hPn : ∀ q ∈ news, @Ne Nat q.1 P) (T : Top p loose mean mg mb h₀) (C : CodeHd h₀ c P) (hcd : ccd = .ref c)
    (hcl : closureFor scope (envX cn cs L a ccd cl) = pure []) (hdoc : docOf body = none)
    (h : ∀ f c' P' oc ctv h' tk, Fr h₀ L h' m →
      News h₀ L h' ((f, fnMade name qual params body scope [] .none ((mg "__name__").getD .none) c' ctv) :: (c', oc) :: (P', tabObj #[]) :: (P, tabObj #[rawInt pos.line, rawInt pos.col, .ref c']) :: news) →
      CodeO oc c' P' qual → (∀ q ∈ (P, tabObj #[]) :: news, q.1 < c') → (∀ q ∈ (P, tabObj #[]) :: news, q.1 < P') → c' < f → P' < f → Q (.ref f) { s with heap := h', toks := tk }) :
    wpAny (model prog w) A (makeFunction name qual params (.stmts body) scope (envX cn cs L a ccd cl) [] [] [] pos firstLine) Q E s := by
  have hm := N (P, tabObj #[]) (.head _)
  have hgs := T.g.keeps F.keep
  obtain ⟨bm, ob, b1, b2, b3, b4, b5, b6⟩ := T.bmain
  have hgP : mainGlobals ≠ P := fun q => by
    obtain ⟨o, es, ep, e, hd, _⟩ := hgs
    rw [q, hm.1] at e; cases e; cases hd
  have hbP : bm ≠ P := fun q => by
    have e := F.keep _ _ b3
    rw [q, hm.1] at e; cases e; cases b4
  have hbG : bm ≠ mainGlobals := fun q => by
    obtain ⟨o, es, ep, e, hd, _⟩ := T.g
    rw [q, e] at b3; cases b3; rw [hd] at b6; cases b6
  refine make_first (mg := mg) hcl rfl hgs hcd (C.keeps F.keep) hm.1 hgP ⟨bm, ob, b1, b2, hbG, hbP, F.keep _ _ b3, b4, b5, b6⟩ hdoc fun c' P' ctv h' tk hx hge hlt hrec htb hP1 hP2 hP3 => ?_
  obtain ⟨oc, hoc, hco⟩ := CodeO.of (CodeHd.of hP2 hP3) hrec
  have hLs : L < s.heap.objs.size := F.ns.lt
  have hLc : L < c' := Nat.lt_of_lt_of_le hLs hge
  have hLP : L < P' := Nat.lt_of_lt_of_le hLs hP1
  have hPlt : P' < h'.objs.size := Heap.lt_size hP3.2
  have old : ∀ b o, h₀.get? b = some o → h'.get? b = some o := fun b o e => hx b o (fun q => by rw [q, hm.2.2] at e; cases e) (F.keep b o e)
  have fresh : ∀ b, L < b → h₀.get? b = none := fun b hb => Heap.get?_none_of_le (Nat.le_trans F.above (Nat.le_of_lt hb))
  refine h h'.objs.size c' P' oc ctv _ tk ⟨(F.ns.extBut hx hm.2.1.symm).push _, fun b o e => Heap.get?_push_of_some _ (old b o e), F.above⟩ (fun q hq => ?_) hco
    (fun q hq => Nat.lt_of_lt_of_le (Heap.lt_size (N q hq).1) hge) (fun q hq => Nat.lt_of_lt_of_le (Heap.lt_size (N q hq).1) hP1) hlt hPlt
  rcases List.mem_cons.mp hq with rfl | hq
  · exact ⟨Heap.get?_push_size _ rfl, Nat.ne_of_gt (Nat.lt_trans hLc hlt), fresh _ (Nat.lt_trans hLc hlt)⟩
  · rcases List.mem_cons.mp hq with rfl | hq
    · exact ⟨Heap.get?_push_of_some _ hoc, Nat.ne_of_gt hLc, fresh _ hLc⟩
    · rcases List.mem_cons.mp hq with rfl | hq
      · exact ⟨Heap.get?_push_of_some _ hP3.2, Nat.ne_of_gt hLP, fresh _ hLP⟩
      · rcases List.mem_cons.mp hq with rfl | hq
        · exact ⟨Heap.get?_push_of_some _ htb, hm.2⟩
        · have n := N q (.tail _ hq)
          exact ⟨Heap.get?_push_of_some _ (hx _ _ (hPn q hq) n.1), n.2⟩

/-- a call of a function of the ledger -/
theorem enterN {K : Frag} {f c' : Addr} {R : Result → Shared → Prop} {doc pm ctv : Value} {args : Args} {binds : List (Str × Value)}
    (F : Fr h₀ L s.heap m) (X₀ : K.In h₀) (N : News h₀ L s.heap news) (T : Top p loose mean mg mb h₀)
    (ho : (f, fnMade name qual params body scope [] doc pm c' ctv) ∈ news) (hcd : s.heap.CodeRec (.ref c') qual) (hroom : A.depth < recursionLimit)
    (hbind : BindsTo s (fnX name qual params body scope [] .none .none doc pm none (.ref c') ctv) args binds) (hloc : ∀ y ∈ binds, scope.names.lookup y.1 = some .local)
    (h : ∀ g L' h₁, Fr h₀ L g m → Fr g L' h₁ (fun y => binds.reverse.lookup y) → News g L' h₁ news → K.In g → Top p loose mean mg mb g → (∀ q ∈ news, q.1 < L') → h₀.StaysIn g → s.heap.objs.size ≤ L' →
      wpAny (model prog w) (A.deeper (envX qual scope L' f (.ref c') [])) (execs body (envX qual scope L' f (.ref c') []))
        (fun fl s' => LeaveK h₀ L m g R (match fl with | .ret v => v | _ => .none) s')
        (fun e s' => wpAny (model prog w) (A.deeper (envX qual scope L' f (.ref c') [])) (leaving (envX qual scope L' f (.ref c') []) e) (fun _ s'' => R (.error e) s'') (fun e' s'' => R (.error e') s'') s')
        { s with heap := h₁, toks := s.toks + binds.length })
    (hcell : ∀ x ∈ scope.names, x.2 ≠ .cell) (hco : scope.isCoroutine = false) (hgen : scope.isGenerator = false) (hk : scope.kind = .function) : codeAny (model prog w) A (.call (.ref f) args) R s := by
  obtain ⟨g, st, FG, dn, hsz, hide, lv⟩ := ground_of (R := R) F N
  refine codeAny_call_def (fd := fnX name qual params body scope [] .none .none doc pm none (.ref c') ctv) (body := body) (binds := binds) hroom (N _ ho).1 rfl (T.nolimit.keeps F.keep) hcd rfl hbind hcell hloc (fun h₁ hns hk₁ => ?_) hco hgen hk
  exact wpAny_mono (h g s.heap.objs.size h₁ FG ⟨hns, fun b o e => hk₁ b o (dn b o e), Nat.le_of_eq hsz⟩
    (fun q hq => ⟨hk₁ _ _ (N q hq).1, Nat.ne_of_lt (Heap.lt_size (N q hq).1), hide q hq⟩) (X₀.keeps st) (T.keeps st) (fun q hq => Heap.lt_size (N q hq).1) st (Nat.le_refl _)) (fun fl s' hl => lv _ _ hl) fun _ _ y => y
end
end Mine
end
section
open PySem PySem.W PyProof.Rows PySem.Calls PySem.Spec
set_option Elab.async false
set_option maxRecDepth 100000
set_option linter.unusedVariables false
namespace Mine
section
variable {M : Model} {A : Around} {E : Value → Shared → Prop} {s : Shared} {qual : Str} {scope : Scope} {env : Env} {c P : Addr} {pos : Pos} {ps : Array Value}
/-- the code of a generator expression: made, or found in the table -/
theorem code_any {Q : Value → Shared → Prop} (hcode : env.code = .ref c) (C : CodeHd s.heap c P) (hP : s.heap.get? P = some (tabObj ps)) (hps : ps = #[] ∨ ∃ v, ps = #[rawInt pos.line, rawInt pos.col, v])
    (h : ∀ v h' tk, Heap.ExtBut P s.heap h' → s.heap.objs.size ≤ h'.objs.size → h'.get? P = some (tabObj #[rawInt pos.line, rawInt pos.col, v]) → Q v { s with heap := h', toks := tk }) :
    wpAny M A (genexprCode env pos qual scope) Q E s := by
  rcases hps with rfl | ⟨v, rfl⟩
  · exact wpAny_genexprCodeX hcode (C.code hP trivial) (C.tab hP) rfl fun c'' h' tk hx hge hlt _ _ htb _ => h (.ref c'') h' tk hx (Nat.le_trans hge (Nat.le_of_lt hlt)) htb.2
  · exact wpAny_genexprCode_hit hcode (C.code hP (by simp [TriplesOk, rawInt])) (by simp [codeAmong, rawInt]) (h v s.heap s.toks (fun _ _ _ e => e) (Nat.le_refl _) hP)
end
section
variable {prog : Program} {w : World} {A : Around} {E : Value → Shared → Prop} {s : Shared} {h₀ : Heap} {L c P : Addr} {m mg mb : Str → Option Value} {env : Env}
  {p : Program} {loose : List Str} {mean : ExcName → Option Value}
theorem gen_strs {elt iter : Expr} {x : Str} {px : Pos} {scope : Scope} {cl : List (Str × Addr)} {pos : Pos} {Q : Value → Shared → Prop} (g : Str → Str)
    (hh : A.handled = none) (hco : scope.isCoroutine = false) (hclos : closureFor scope env = pure cl) (hcell : ∀ y ∈ scope.names, y.2 ≠ .cell) (h0 : scope.names.lookup (".0" : Str) = some NameKind.local)
    (hx : scope.names.lookup x = some .local) (hkind : scope.kind = .function) (hroom : A.depth < recursionLimit) (T : Top p loose mean mg mb h₀) (hge : env.globals = mainGlobals) (hcode : env.code = .ref c)
    (h : wpAny (model prog w) A (eval iter env) (fun xv s₁ => ∃ l vs ts kk news ps, xv = .ref l ∧ Fr h₀ L s₁.heap m ∧ News h₀ L s₁.heap ((P, tabObj ps) :: news) ∧ (l, W.listOf vs.toArray kk) ∈ news ∧ (∀ q ∈ news, @Ne Nat q.1 P) ∧
      AllBare s₁.gens ∧ CodeHd s₁.heap c P ∧ (ps = #[] ∨ ∃ v, ps = #[rawInt pos.line, rawInt pos.col, v]) ∧ StrsAre vs ts ∧
      (∀ (L' : Addr) (code bi : Value) (A' : Around) E' y t (s₂ : Shared) m₂, A'.handled = none → y ∈ ts → s₂.heap.Ns L' m₂ → m₂ x = some (.str y t) →
        wpAny (model prog w) A' (eval elt (genEnv scope cl L' code builtinsNs env)) (fun v s₃ => (∃ t, v = .str (g y) t) ∧ Keeps s₂ s₃) E' s₂) ∧
      ∀ K a s₅ v, Gen prog w A K a ts.length (fun j y => ∃ i, (List.range ts.length)[j]? = some i ∧ ∃ t, y = .str (g (ts.getD i "")) t) s₅ → L ≤ K → (∀ q ∈ (P, tabObj ps) :: news, q.1 ≤ K) → Fr h₀ L s₅.heap m → AllBare s₅.gens → s₅.os = s₁.os →
        News h₀ L s₅.heap ((P, tabObj #[rawInt pos.line, rawInt pos.col, v]) :: news) → Q (.ref a) s₅) E s)
    (hs : ∀ x, genFold iter env x = pure x) :
    wpAny (model prog w) A (eval (.GeneratorExp elt [⟨.Name x px, iter, [], 0⟩] scope pos) env) Q E s := by
  refine wpAny_GeneratorExp_walksQ hh hco hclos hcell h0 hx hkind hroom (wpAny_mono h (fun xv s₁ h₁ => ?_) fun _ _ e => e) hs
  obtain ⟨l, vs, ts, kk, news, ps, rfl, F, N, hl9, hPn, G, C, hps, hst, hel, hQ⟩ := h₁
  have hl : s₁.heap.IsList l vs.toArray := ⟨_, (N _ (.tail _ hl9)).1, rfl, kk, rfl⟩
  have hlt : l < s₁.heap.objs.size := Heap.lt_size (N _ (.tail _ hl9)).1
  have hPlt : P < s₁.heap.objs.size := Heap.lt_size (N _ (.head _)).1
  have hlP : l ≠ P := hPn _ hl9
  have hPL : P ≠ L := (N _ (.head _)).2.1
  have hP0 : h₀.get? P = none := (N _ (.head _)).2.2
  refine wpAny_pyIter_list hl ?_
  have up : ∀ b o, s₁.heap.get? b = some o → (s₁.heap.push { cls := .type "list_iterator", data := .fields #[.ref l, .int 0 0] }).get? b = some o := fun b o e => Heap.get?_push_of_some _ e
  have hlim : (s₁.heap.push { cls := .type "list_iterator", data := .fields #[.ref l, .int 0 0] }).NoLimit := (T.nolimit.keeps F.keep).push _
  refine ⟨hlim, code_any (P := P) (ps := ps) hcode (C.keeps up) (up _ _ (N _ (.head _)).1) hps fun v h₃ tk₃ hx₃ hsz₃ hP₃ => ?_⟩
  dsimp only at hx₃ hsz₃
  have hsz : s₁.heap.objs.size < h₃.objs.size := by rw [Heap.size_push] at hsz₃; exact hsz₃
  have old : ∀ b o, b ≠ P → s₁.heap.get? b = some o → h₃.get? b = some o := fun b o hb e => hx₃ b o hb (up b o e)
  have keep₃ : ∀ b o, h₀.get? b = some o → h₃.get? b = some o := fun b o e => old b o (fun q => by rw [q, hP0] at e; cases e) (F.keep b o e)
  have hgs := T.g.keeps keep₃
  obtain ⟨bm, ob, b1, b2, b3, b4, b5, b6⟩ := T.bmain
  rw [hge]
  refine wpAny_builtinsFor hgs b1 b2 (keep₃ _ _ b3) b4 b5 b6 ?_
  have hIlt : s₁.heap.objs.size ≠ P := Nat.ne_of_gt hPlt
  have hcP : cStatics ≠ P := fun e => by
    obtain ⟨_, hns, _⟩ := T.nolimit
    obtain ⟨o, es, ep, ho, hd, _⟩ := hns
    rw [e, hP0] at ho; cases ho
  have hlim₃ : h₃.NoLimit := T.nolimit.keeps keep₃
  have hcs : cStatics < s₁.heap.objs.size := let ⟨_, hn, _⟩ := T.nolimit.keeps F.keep; hn.lt
  have hlen : vs.toArray.size = ts.length := by rw [List.size_toArray, hst.length]
  refine ⟨s₁.heap.objs.size, [s₁.heap.objs.size, l], [s₁.heap.objs.size], vs.toArray.size, _, _, fun _ => true, fun j y => ∃ t, y = .str (g (ts.getD j "")) t, rfl,
    fun A' hA => Walks.list hA _ _ (Nat.ne_of_lt hlt) vs.toArray, ⟨⟨_, hx₃ _ _ hIlt (Heap.get?_push_size _ rfl), rfl, rfl⟩, ?_⟩, ?_, hlim₃, ?_, fun href hhref => ⟨?_, ?_⟩, fun a h₅ tk gs hgb hag hsz₅ hk₅ W hat => ?_⟩
  · exact ⟨_, old _ _ hlP (N _ (.tail _ hl9)).1, rfl, kk, rfl⟩
  · intro b hb
    rcases List.mem_cons.mp hb with rfl | hb
    · exact hsz
    · rw [List.mem_singleton.mp hb]; exact Nat.lt_trans hlt hsz
  · intro hm
    exact absurd (List.mem_singleton.mp hm ▸ hcs) (Nat.lt_irrefl _)
  · intro A' E' i y s₂ m₂ hA hy hns hm hk
    exact wpAny_pure ⟨rfl, s₂.heap, s₂.toks, rfl, fun _ _ e => e⟩
  · intro A' E' i y s₂ m₂ hA hy hp hns hm hk
    have hy' : vs[i]? = some y := by simpa using hy
    obtain ⟨z, t, rfl, hz⟩ := StrsAre.item hst i y hy'
    refine wpAny_mono (hel _ _ (.ref 0) A' E' z t s₂ m₂ hA (List.mem_of_getElem? hz) hns hm) (fun y' s₃ ⟨⟨t', e⟩, k⟩ => ⟨⟨t', ?_⟩, k⟩) fun _ _ e => e
    rw [e, List.getD_eq_getElem?_getD, hz]
    rfl
  · have pn : passing (fun _ => true) vs.toArray.size 0 = List.range vs.toArray.size := by
      unfold passing
      rw [List.drop_zero]
      exact List.filter_eq_self.mpr fun _ _ => rfl
    rw [pn, List.length_range] at W
    have keep₅ : ∀ b o, b ≠ P → s₁.heap.get? b = some o → h₅.get? b = some o := fun b o hb e => hk₅ b o (old b o hb e)
    rw [hlen] at W hat
    have hL1 : L < s₁.heap.objs.size := F.ns.lt
    refine hQ (s₁.heap.objs.size - 1) a _ v ⟨_, _, _, _, W, hat, (fun i s' st => st.1.typeIs), List.mem_cons_self, ?f1, ?f2⟩ ?f3 ?f4 ⟨F.ns.at fun o e => keep₅ _ o (Ne.symm hPL) e, fun b o e => hk₅ b o (keep₃ b o e), F.above⟩ (G.push hgb) rfl ?f5
    case f1 =>
      intro b hb
      show b < h₅.objs.size
      rw [hsz₅]
      rcases List.mem_cons.mp hb with rfl | hb
      · exact Nat.lt_succ_self _
      · rcases List.mem_cons.mp hb with rfl | hb
        · exact Nat.lt_succ_of_lt hag
        · exact Nat.lt_succ_of_lt (Nat.lt_trans (List.mem_range.mp hb) hag)
    case f2 =>
      intro b hb
      rcases List.mem_cons.mp hb with rfl | hb
      · exact Nat.lt_of_le_of_lt (Nat.sub_le _ _) hsz
      · rw [List.mem_singleton.mp hb]
        exact Nat.sub_lt (Nat.lt_of_le_of_lt (Nat.zero_le _) hL1) Nat.one_pos
    case f3 => exact Nat.le_sub_one_of_lt hL1
    case f4 => exact fun q hq => Nat.le_sub_one_of_lt (Heap.lt_size (N q hq).1)
    case f5 =>
      intro q hq
      rcases List.mem_cons.mp hq with rfl | hq
      · exact ⟨hk₅ _ _ hP₃, hPL, hP0⟩
      · have n := N q (.tail _ hq)
        exact ⟨keep₅ _ _ (hPn q hq) n.1, n.2⟩
end
end Mine
end
section
open PySem PySem.W PyProof.Rows PySem.Calls PySem.Spec
set_option Elab.async false
set_option linter.unusedVariables false
namespace Mine
def psOk (ps : Array Value) : Prop := ps = #[] ∨ ∃ v, ps = #[rawInt ((29 : Nat) : Int), rawInt ((29 : Nat) : Int), v]
def ItObj (J : Addr) (o : Obj) (c : Addr) (i : Nat) : Prop := ∀ h : Heap, h.get? J = some o → h.IsListIter J c i
/-- what holds before the turn i of the loop over the children -/
def PI (g : Heap) (L' : Addr) (M : Str → Option Value) (l J c1 P' : Addr) (base : List (Addr × Obj)) (f : Nat → List Str) (os0 : OsState) (i : Nat) (s' : Shared) : Prop :=
  ∃ K9 oJ us kk ps, Fr g L' s'.heap (fun y => if y = Str.ofString "n" then K9 else M y) ∧ News g L' s'.heap ((J, oJ) :: (l, W.listOf (List.toArray us) kk) :: (P', tabObj ps) :: base) ∧ ItObj J oJ c1 i ∧ StrsAre us (f i) ∧ psOk ps ∧ AllBare s'.gens ∧ s'.os = os0
theorem PI.zero {g : Heap} {L' : Addr} {M : Str → Option Value} {l J c1 P' : Addr} {base news : List (Addr × Obj)} {f : Nat → List Str} {s' : Shared} {us : List Value} {kk : Nat} {ps : Array Value}
    (F : Fr g L' s'.heap M) (N : News g L' s'.heap news) (hsub : ∀ q ∈ (J, ({ cls := .type "list_iterator", data := .fields #[.ref c1, .int 0 0] } : Obj)) :: (l, W.listOf (List.toArray us) kk) :: (P', tabObj ps) :: base, q ∈ news)
    (hs : StrsAre us (f 0)) (hps : psOk ps) (G : AllBare s'.gens) : PI g L' M l J c1 P' base f s'.os 0 s' := by
  refine ⟨M "n", _, us, kk, ps, ?_, fun q hq => N q (hsub q hq), fun h e => ⟨_, e, rfl, rfl⟩, hs, hps, G, rfl⟩
  have e : (fun y => if y = Str.ofString "n" then M "n" else M y) = M := by
    funext y
    by_cases h : y = Str.ofString "n"
    · rw [if_pos h, h]
    · rw [if_neg h]
  rw [e]
  exact F
theorem it_step {g h h' : Heap} {L J c : Addr} {m : Str → Option Value} {rest : List (Addr × Obj)} {oJ : Obj} {i : Nat} (F : Fr g L h m) (N : News g L h ((J, oJ) :: rest)) (hJ : ∀ q ∈ rest, @Ne Nat q.1 J) (hI : h'.IsListIter J c i)
    (hk : ∀ b o, b ≠ J → h.get? b = some o → h'.get? b = some o) : Fr g L h' m ∧ ∃ oJ', News g L h' ((J, oJ') :: rest) ∧ ItObj J oJ' c i := by
  have n := N _ (.head _)
  refine ⟨⟨F.ns.at fun o e => hk _ o (Ne.symm n.2.1) e, fun b o e => hk b o (fun q => by rw [q, n.2.2] at e; cases e) (F.keep b o e), F.above⟩, ?_⟩
  obtain ⟨o, e, r⟩ := hI
  refine ⟨o, fun q hq => ?_, fun h e' => ⟨o, e', r⟩⟩
  rcases List.mem_cons.mp hq with rfl | hq
  · exact ⟨e, n.2⟩
  · have k := N q (.tail _ hq)
    exact ⟨hk _ _ (hJ q hq) k.1, k.2⟩
theorem PI.next {g : Heap} {L' : Addr} {M m' : Str → Option Value} {l J c1 P' : Addr} {base news : List (Addr × Obj)} {f : Nat → List Str} {s' : Shared} {us : List Value} {kk : Nat} {ps : Array Value} {oJ : Obj} {i : Nat} {os0 : OsState} {K9 K8 : Option Value}
    (F : Fr g L' s'.heap m') (e : m' = fun y => if y = Str.ofString "n" then K9 else if y = Str.ofString "n" then K8 else M y) (N : News g L' s'.heap news) (hsub : ∀ q ∈ (J, oJ) :: (l, W.listOf (List.toArray us) kk) :: (P', tabObj ps) :: base, q ∈ news)
    (hI : ItObj J oJ c1 i) (hs : StrsAre us (f i)) (hps : psOk ps) (G : AllBare s'.gens) (ho : s'.os = os0) : PI g L' M l J c1 P' base f os0 i s' := by
  refine ⟨K9, oJ, us, kk, ps, ?_, fun q hq => N q (hsub q hq), hI, hs, hps, G, ho⟩
  have e' : (fun y => if y = Str.ofString "n" then K9 else M y) = m' := by
    rw [e]
    funext y
    by_cases h : y = Str.ofString "n"
    · simp only [if_pos h]
    · simp only [if_neg h]
  rw [e']
  exact F
end Mine
end
section
open PySem PySem.W PyProof.Rows PySem.Calls PySem.Spec
set_option Elab.async false
set_option maxRecDepth 100000
set_option linter.unusedVariables false
namespace Mine
abbrev tabT (c' : Addr) : Obj := tabObj #[rawInt ((28 : Nat) : Int), rawInt ((8 : Nat) : Int), .ref c']
abbrev qualT : Str := "Node.prettily.<locals>.indent"
/-- the tables of codes: as the class was made, or grown once -/
inductive TabL (news : List (Addr × Obj)) : List (Addr × Obj) → Prop where
  | fresh : (∀ q ∈ news, @Ne Nat q.1 63) → TabL news [(63, tabObj #[])]
  | grown {c' P' : Addr} {oc : Obj} {ps : Array Value} : CodeO oc c' P' qualT → psOk ps → (∀ q ∈ (63, tabT c') :: (c', oc) :: news, @Ne Nat q.1 P') → TabL news [(P', tabObj ps), (63, tabT c'), (c', oc)]
section
variable {prog : Program} {w : World} {A : Around} {E : Value → Shared → Prop} {s : Shared} {h₀ : Heap} {L a : Addr} {m mg mb : Str → Option Value} {cn : Str} {cs : Scope} {ccd : Value} {cl : List (Str × Addr)} {news tl : List (Addr × Obj)}
  {p : Program} {loose : List Str} {mean : ExcName → Option Value} {name : Str} {params : Arguments} {body : List Stmt} {scope : Scope} {pos : Pos} {firstLine : Nat}
theorem nest_any {Q : Value → Shared → Prop} (F : Fr h₀ L s.heap m) (N : News h₀ L s.heap (tl ++ news)) (htl : TabL news tl) (T : Top p loose mean mg mb h₀) (C : CodeHd h₀ 67 63) (hcd : ccd = .ref 67)
    (hcl : closureFor scope (envX cn cs L a ccd cl) = pure []) (hdoc : docOf body = none) (hline : pos.line = 28) (hcol : pos.col = 8)
    (h : ∀ f c' P' oc ps ctv doc h' tk, (∀ c1 P1 oc1 ps1, tl = [(P1, tabObj ps1), (63, tabT c1), (c1, oc1)] → c' = c1 ∧ P' = P1 ∧ oc = oc1) → Fr h₀ L h' m →
      News h₀ L h' ((f, fnMade name qualT params body scope [] doc ((mg "__name__").getD .none) c' ctv) :: (P', tabObj ps) :: (63, tabT c') :: (c', oc) :: news) →
      CodeO oc c' P' qualT → psOk ps → (∀ q ∈ (63, tabT c') :: (c', oc) :: news, @Ne Nat q.1 P') → (∀ q ∈ (P', tabObj ps) :: (63, tabT c') :: (c', oc) :: news, q.1 < f) → Q (.ref f) { s with heap := h', toks := tk }) :
    wpAny (model prog w) A (makeFunction name qualT params (.stmts body) scope (envX cn cs L a ccd cl) [] [] [] pos firstLine) Q E s := by
  cases htl with
  | fresh hne =>
    refine nest_first F N hne T C hcd hcl hdoc fun f c' P' oc ctv h' tk F' N' co l1 l2 l3 l4 => ?_
    rw [hline, hcol] at N'
    refine h f c' P' oc #[] ctv .none h' tk (fun c1 P1 oc1 ps1 e => by cases e) F' (fun q hq => ?_) co (.inl rfl) (fun q hq => ?_) (fun q hq => ?_)
    · rcases List.mem_cons.mp hq with rfl | hq
      · exact N' _ (.head _)
      · rcases List.mem_cons.mp hq with rfl | hq
        · exact N' _ (.tail _ (.tail _ (.head _)))
        · rcases List.mem_cons.mp hq with rfl | hq
          · exact N' _ (.tail _ (.tail _ (.tail _ (.head _))))
          · rcases List.mem_cons.mp hq with rfl | hq
            · exact N' _ (.tail _ (.head _))
            · exact N' _ (.tail _ (.tail _ (.tail _ (.tail _ hq))))
    · rcases List.mem_cons.mp hq with rfl | hq
      · exact Nat.ne_of_lt (l2 (63, tabObj #[]) (.head _))
      · rcases List.mem_cons.mp hq with rfl | hq
        · obtain ⟨_, _, _, _, _, _, _, _, _, _, _, _, _, _, _, _, _, hne, _⟩ := co; exact hne
        · exact Nat.ne_of_lt (l2 _ (.tail _ hq))
    · rcases List.mem_cons.mp hq with rfl | hq
      · exact l4
      · rcases List.mem_cons.mp hq with rfl | hq
        · exact Nat.lt_trans (l1 (63, tabObj #[]) (.head _)) l3
        · rcases List.mem_cons.mp hq with rfl | hq
          · exact l3
          · exact Nat.lt_trans (l1 _ (.tail _ hq)) l3
  | grown co hps hne =>
    rename_i c' P' oc ps
    refine nestHit_K (P := 63) (c := 67) (c' := c') (ps := #[rawInt ((28 : Nat) : Int), rawInt ((8 : Nat) : Int), .ref c']) F N T C hcd (List.mem_cons_of_mem _ (.head _)) trivial ?_ hcl fun f ctv doc h' tk F' N' l1 => ?_
    · unfold codeAmong
      rw [hline, hcol]
      rfl
    · exact h f c' P' oc ps ctv doc h' tk (fun c1 P1 oc1 ps1 e => by cases e; exact ⟨rfl, rfl, rfl⟩) F' N' co hps hne l1
end
end Mine
end
section
open PySem PySem.W PyProof.Rows PySem.Calls PySem.Spec
set_option Elab.async false
set_option linter.unusedVariables false
namespace Mine
theorem pre_elt {prog : Program} {w : World} {A : Around} {E : Value → Shared → Prop} {s : Shared} {env : Env} {x y z : Str} {t : Tok} {m : Str → Option Value} {k : Nat} {p1 p2 p3 : Pos} (hns : s.heap.Ns env.locals m) (hm : m x = some (.str y t)) (hk : env.scope.kind = .function)
    (hx : env.kindOf x = some .local) (hd : (x == ("__debug__" : Str)) = false) (hsz : z.length + y.length ≤ 1048576) :
    wpAny (model prog w) A (eval (.BinOp (.Constant (.str z) k p1) .Add (.Name x p2) p3) env) (fun v s₃ => (∃ t, v = .str (z ++ y) t) ∧ Keeps s s₃) E s := by
  refine wpAny_BinOp (wpAny_Constant_str (wpAny_Name (wpAny_loadName_local hk (by exact hx) (by exact hns) hm ?_) hd))
  refine SBL.add (x := z) (y := y) ?_ (by rw [sizeLine_eq]; omega)
  intro t' k' _
  exact ⟨⟨t', rfl⟩, s.heap, _, rfl, fun _ _ e => e⟩
section
variable {prog : Program} {w : World} {A : Around} {E : Value → Shared → Prop} {s : Shared} {h₀ hx : Heap} {L c : Addr} {m mg mb : Str → Option Value} {env : Env}
  {p : Program} {loose : List Str} {mean : ExcName → Option Value}
theorem gen_strsF {elt iter : Expr} {x : Str} {px : Pos} {scope : Scope} {cl : List (Str × Addr)} {pos : Pos} {Q : Value → Shared → Prop} (g : Str → Str) (_F : Fr h₀ L hx m) (P : Addr)
    (hh : A.handled = none) (hco : scope.isCoroutine = false) (hclos : closureFor scope env = pure cl) (hcell : ∀ y ∈ scope.names, y.2 ≠ .cell) (h0 : scope.names.lookup (".0" : Str) = some NameKind.local)
    (hx : scope.names.lookup x = some .local) (hkind : scope.kind = .function) (hroom : A.depth < recursionLimit) (T : Top p loose mean mg mb h₀) (hge : env.globals = mainGlobals) (hcode : env.code = .ref c)
    (h : wpAny (model prog w) A (eval iter env) (fun xv s₁ => ∃ l vs ts kk news ps, xv = .ref l ∧ Fr h₀ L s₁.heap m ∧ News h₀ L s₁.heap ((P, tabObj ps) :: news) ∧ (l, W.listOf vs.toArray kk) ∈ news ∧ (∀ q ∈ news, @Ne Nat q.1 P) ∧
      AllBare s₁.gens ∧ CodeHd s₁.heap c P ∧ (ps = #[] ∨ ∃ v, ps = #[rawInt pos.line, rawInt pos.col, v]) ∧ StrsAre vs ts ∧
      (∀ (L' : Addr) (code bi : Value) (A' : Around) E' y t (s₂ : Shared) m₂, A'.handled = none → y ∈ ts → s₂.heap.Ns L' m₂ → m₂ x = some (.str y t) →
        wpAny (model prog w) A' (eval elt (genEnv scope cl L' code builtinsNs env)) (fun v s₃ => (∃ t, v = .str (g y) t) ∧ Keeps s₂ s₃) E' s₂) ∧
      ∀ K a s₅ v, Gen prog w A K a ts.length (fun j y => ∃ i, (List.range ts.length)[j]? = some i ∧ ∃ t, y = .str (g (ts.getD i "")) t) s₅ → L ≤ K → (∀ q ∈ (P, tabObj ps) :: news, q.1 ≤ K) → Fr h₀ L s₅.heap m → AllBare s₅.gens → s₅.os = s₁.os →
        News h₀ L s₅.heap ((P, tabObj #[rawInt pos.line, rawInt pos.col, v]) :: news) → Q (.ref a) s₅) E s)
    (hs : ∀ x, genFold iter env x = pure x) :
    wpAny (model prog w) A (eval (.GeneratorExp elt [⟨.Name x px, iter, [], 0⟩] scope pos) env) Q E s := gen_strs g hh hco hclos hcell h0 hx hkind hroom T hge hcode h hs
end
end Mine
end
section
open PySem PySem.W PyProof.Rows PySem.Calls PySem.Spec
set_option Elab.async false
set_option linter.unusedVariables false
namespace Mine
theorem ev_cut {M : Model} {A : Around} {E : Value → Shared → Prop} {s : Shared} {h₀ : Heap} {L : Addr} {m : Str → Option Value} {news : List (Addr × Obj)} {tr : Sem Value} {Q : Value → Shared → Prop} (x : Str) (F : Fr h₀ L s.heap m) (N : News h₀ L s.heap news)
    (h1 : wpAny M A tr (fun v s' => ∃ t h' tk, v = .str x t ∧ s' = { s with heap := h', toks := tk } ∧ Fr h₀ L h' m ∧ News h₀ L h' news) E s)
    (h2 : ∀ t h' tk, Fr h₀ L h' m → News h₀ L h' news → Q (.str x t) { s with heap := h', toks := tk }) : wpAny M A tr Q E s :=
  wpAny_mono h1 (fun v s' ⟨t, h', tk, e1, e2, F', N'⟩ => by subst e1; subst e2; exact h2 t h' tk F' N') fun _ _ x => x
end Mine
end
section
open PySem PySem.W PyProof.Rows PySem.Calls PySem.Spec
set_option Elab.async false
set_option maxRecDepth 100000
set_option maxHeartbeats 8000000
set_option linter.unusedVariables false
namespace Mine
local macro_rules | `(tactic| k_room) => `(tactic| ((try simp only [depth_under_make, depth_under_kw, depth_in1, depth_deeper, depth_caller, recursionLimit]); omega))
local macro_rules | `(tactic| k_units) => `(tactic| ((have hcL9 := cLine_is); (try simp only [units_in1, units_deeper, Around.mark_units, units_caller]); omega))
local macro_rules | `(tactic| walk_at "mine ent") => `(tactic| ((case k6 => k_is); (case k7 => k_is); (case k8 => k_room); (case k9 => first | exact BindsTo.of_eq rfl | exact binds_K (by k_in) rfl (by k_is) rfl rfl rfl | fail "mine: no rule for these arguments"); (case c5 => decide); (case kB => exact locs rfl); (case c2 => exact rfl); (case c3 => exact rfl); (case c4 => exact rfl)))
local macro_rules | `(tactic| walk_at "mine enter") => `(tactic| (first
  | (refine' enterKS ?k2 ?k3 ?k4 ?k5 ?k6 ?k7 ?k8 ?k9 ?kB ?_ ?c5 ?c2 ?c3 ?c4; (case k2 => k_asm); (case k3 => k_asm); (case k4 => k_asm); (case k5 => k_asm); walk_at "mine ent"; intro g' L' h' FG' F' N' X' T' l1 st' sz'; (try k_lt l1); (try dsimp only); (try (have hL' := stays_list st' (by assumption))))
  | (refine' enterBothKS ?k2 ?k3 ?k4 ?k5 ?k6 ?k7 ?k8 ?kN ?kD ?kP ?kS ?kT ?kB ?_ ?c5 ?c2 ?c3 ?c4; (case k2 => k_asm); (case k3 => k_asm); (case k4 => k_asm); (case k5 => k_asm); (case k6 => k_is); (case k7 => k_is); (case k8 => k_room); (case kP => exact rfl); (case kS => exact fun _ => rfl); (case kT => exact fun _ _ => rfl); (case kN => exact rfl); (case kD => kp_flats); (case kB => exact fun _ _ => locs rfl); (case c5 => decide); (case c2 => exact rfl); (case c3 => exact rfl); (case c4 => exact rfl); intro C' D' o' g' L' h' tk' l1 l2 lo' hs' fs' FG' F' N' X' T' st'; (have l3 := both_lt l1 l2); (try k_lt l1); (try k_lt2 l2); (try simp only [AllLt, and_true] at l3); (try dsimp only); (try (have hL' := stays_list st' (by assumption))))
  | (refine' enterK ?k2 ?k3 ?k4 ?k5 ?k6 ?k7 ?k8 ?k9 ?kB ?_ ?c5 ?c2 ?c3 ?c4; (case k2 => k_asm); (case k3 => k_asm); (case k4 => k_asm); (case k5 => k_asm); walk_at "mine ent"; k_whole; intro g' L' h' FG' F' N' X' T' l1 st' sz'; (try k_lt l1); (try dsimp only); (try (have hL' := stays_list st' (by assumption))); (try k_fold))))
local macro_rules | `(tactic| walk_at "call ref") => `(tactic| (k_here; k_dflt (first
  | (refine' call_cls ?k1 ?k2 ?k3 ?k4 ?k5 ?k6 ?_; (case k1 => k_asm); (case k2 => k_asm); (case k3 => k_asm); (case k4 => k_is); (case k5 => k_is); (case k6 => k_is); intro x' d' h' F' N' l1 l2; (have l3 := both_lt l1 l2); (try k_lt l1); (try k_lt2 l2); (try simp only [AllLt, and_true] at l3); walk_at "mine enter")
  | (refine' call_meth ?k1 ?k2 ?_; (case k1 => k_asm); (case k2 => k_mem); walk_at "mine enter")
  | (refine wpAny_call ?_; walk_at "mine enter"))))
local macro_rules | `(tactic| walk_at "mine fresh") => `(tactic| (repeat' (first | exact Fresh.nil | (with_reducible assumption) | (refine Fresh.cons (by first | tbn_find | exact allLt_of (by assumption)) ?_))))
local macro_rules | `(tactic| walk_at "wpAt") => `(tactic| (k_dflt (first
  | (ks_step "execs cons"; refine ks_wpAt_execs_cons ?_)
  | (ks_step "exec Expr"; refine ks_wpAt_Expr_any ?_)
  | (ks_step "eval Call"; refine ks_wpAt_MethodCall ?_))))
local macro_rules | `(tactic| k_mem) => `(tactic| first
  | ktr_member
  | (with_reducible assumption)
  | exact List.Mem.head _
  | (refine List.mem_cons_of_mem _ ?_; k_mem)
  | (ktn_app; first | (refine List.mem_append.mpr (Or.inl ?_); k_mem) | (refine List.mem_append.mpr (Or.inr ?_); k_mem)))
local macro_rules | `(tactic| walk_at "mine enterC") => `(tactic| (refine' enterKC ?k2 ?k3 ?k4 ?k5 ?k6 ?k7 ?k8 ?k9 ?kB ?kD ?_ ?c2 ?c3 ?c4; (case k2 => k_asm); (case k3 => k_asm); (case k4 => k_asm); (case k5 => k_asm); (case k6 => k_is); (case k7 => k_is); (case k8 => k_room); (case k9 => first | exact BindsTo.of_eq rfl | exact binds_K (by k_in) rfl (by k_is) rfl rfl rfl | fail "mine: no rule for these arguments"); (case kB => exact rfl); (case kD => decide +kernel); (case c2 => exact rfl); (case c3 => exact rfl); (case c4 => exact rfl); k_whole; intro g' L' h' tk' cells' FG' F' N' Y' X' T' l1 st'; (try k_lt l1); k_cells Y'; (try simp only [List.cons_append, List.nil_append] at N'); (try dsimp only); (try (have hL' := stays_list st' (by assumption))); (try k_fold)))
example : True := by
  w_top off
  trivial
section
def num (ns : List Int) (p : Int) : Int := (if ns.length = 0 then 0 else ns.getD (Int.fmod p ns.length).toNat 0) + 7 * p

theorem num_call {w : World} {A : Around} {s : Shared} {h₀ : Heap} {L l : Addr} {m mg mb : Str → Option Value} {news : List (Addr × Obj)} {p : Program} {loose : List Str} {mean : ExcName → Option Value}
    {vs : List Value} {ns : List Int} {pl : Int} {t : Tok} {Q E : Value → Shared → Prop}
    (F : Fr h₀ L s.heap m) (X : (hd.heap_39 w.params).In h₀) (N : News h₀ L s.heap news) (T : Top p loose mean mg mb h₀)
    (hl : h₀.IsList l vs.toArray) (hi : IntsAre vs ns) (hlay : (PyData.list (ns.map PyData.int)).layable0 = true) (hn : ns.length ≤ 63) (hp : 0 ≤ pl) (hp2 : pl ≤ 1000)
    (hh : A.handled = none) (hd : A.depth + 10 ≤ 900) (hu : A.units + 100 ≤ 9000)
    (hQ : ∀ t' h' tk', Fr h₀ L h' m → News h₀ L h' news → Q (.int (num ns pl) t') { s with heap := h', toks := tk' }) :
    wpAny (model PySem.Challenge.rw_vy0010_01.row.prog w) A (call (.ref 429) [.ref l, .int pl t]) Q E s := by
  revert X; k_fill; intro X
  walk1
  k_steps
  · have e : num ns pl = ns.getD (Int.fmod pl ns.length).toNat 0 + 7 * pl := by
      unfold num; rw [if_neg (by omega)]
    rw [e] at hQ
    refine hQ _ _ _ ?_ ?_ <;> assumption
  · have e : num ns pl = 0 + 7 * pl := by
      unfold num; rw [if_pos (by omega)]
    rw [e] at hQ
    refine hQ _ _ _ ?_ ?_ <;> assumption
end
example : True := by
  w_top off
  trivial
section
def LitIn (news : List (Addr × Obj)) (ae : Addr) (x nm : Str) : Prop :=
  ∃ d it t1 t2, (ae, (⟨.ref 336, some d, .plain, #[some (.str x t1), some (.ref it), some (.str nm t2)]⟩ : Obj)) ∈ news ∧ (d, dictOf [] 0) ∈ news

theorem lit_call {w : World} {A : Around} {s : Shared} {h₀ : Heap} {L : Addr} {m mg mb : Str → Option Value} {news : List (Addr × Obj)} {p : Program} {loose : List Str} {mean : ExcName → Option Value}
    {x nm : Str} {t t2 : Tok} {Q E : Value → Shared → Prop}
    (F : Fr h₀ L s.heap m) (X : (hd.heap_39 w.params).In h₀) (N : News h₀ L s.heap news) (T : Top p loose mean mg mb h₀)
    (hh : A.handled = none) (hd : A.depth + 10 ≤ 900) (hu : A.units + 100 ≤ 9000)
    (hQ : ∀ a tl h' tk', Fr h₀ L h' m → News h₀ L h' (tl ++ news) → Fresh news tl → LitIn tl a x nm → Q (.ref a) { s with heap := h', toks := tk' }) :
    wpAny (model PySem.Challenge.rw_vy0010_01.row.prog w) A (call (.ref 336) [.str x t] [("name", .str nm t2)]) Q E s := by
  revert X; k_fill; intro X
  walk1
  k_steps
  refine hQ _ [_, _, _, _, _, _] _ _ (by assumption) (by assumption) (by walk_at "mine fresh") ?_
  exact ⟨_, _, _, _, by k_mem, by k_mem⟩
end
example : True := by
  w_top off
  trivial
section
theorem lit_call0 {w : World} {A : Around} {s : Shared} {h₀ : Heap} {L : Addr} {m mg mb : Str → Option Value} {news : List (Addr × Obj)} {p : Program} {loose : List Str} {mean : ExcName → Option Value}
    {x : Str} {t : Tok} {Q E : Value → Shared → Prop}
    (F : Fr h₀ L s.heap m) (X : (hd.heap_39 w.params).In h₀) (N : News h₀ L s.heap news) (T : Top p loose mean mg mb h₀)
    (hh : A.handled = none) (hd : A.depth + 10 ≤ 900) (hu : A.units + 100 ≤ 9000)
    (hQ : ∀ a tl h' tk', Fr h₀ L h' m → News h₀ L h' (tl ++ news) → Fresh news tl → LitIn tl a x "" → Q (.ref a) { s with heap := h', toks := tk' }) :
    wpAny (model PySem.Challenge.rw_vy0010_01.row.prog w) A (call (.ref 336) [.str x t] []) Q E s := by
  revert X; k_fill; intro X
  walk1
  k_steps
  refine hQ _ [_, _, _, _, _, _] _ _ (by assumption) (by assumption) (by walk_at "mine fresh") ?_
  exact ⟨_, _, _, _, by k_mem, by k_mem⟩

/-- a row (394) or a choice (420) of two members -/
def CompIn (news : List (Addr × Obj)) (C ae m1 m2 : Addr) (nm : Str) : Prop :=
  ∃ d it mem t1, (ae, (⟨.ref C, some d, .plain, #[some (.ref mem), some (.ref it), some (.str nm t1)]⟩ : Obj)) ∈ news ∧ (d, dictOf [] 0) ∈ news ∧ (mem, ({ cls := .type "tuple", data := .seq #[.ref m1, .ref m2] } : Obj)) ∈ news
end
example : True := by
  w_top off
  trivial
section
theorem seq_call {w : World} {A : Around} {s : Shared} {h₀ : Heap} {L : Addr} {m mg mb : Str → Option Value} {news : List (Addr × Obj)} {p : Program} {loose : List Str} {mean : ExcName → Option Value}
    {m1 m2 : Addr} {nm : Str} {t2 : Tok} {Q E : Value → Shared → Prop}
    (F : Fr h₀ L s.heap m) (X : (hd.heap_39 w.params).In h₀) (N : News h₀ L s.heap news) (T : Top p loose mean mg mb h₀)
    (hh : A.handled = none) (hd : A.depth + 10 ≤ 900) (hu : A.units + 100 ≤ 9000)
    (hQ : ∀ a tl h' tk', Fr h₀ L h' m → News h₀ L h' (tl ++ news) → Fresh news tl → CompIn tl 394 a m1 m2 nm → Q (.ref a) { s with heap := h', toks := tk' }) :
    wpAny (model PySem.Challenge.rw_vy0010_01.row.prog w) A (call (.ref 394) [.ref m1, .ref m2] [("name", .str nm t2)]) Q E s := by
  revert X; k_fill; intro X
  walk1
  k_steps
  refine hQ _ [_, _, _, _, _, _, _] _ _ (by assumption) (by assumption) (by walk_at "mine fresh") ?_
  exact ⟨_, _, _, _, by k_mem, by k_mem, by k_mem⟩

theorem one_call {w : World} {A : Around} {s : Shared} {h₀ : Heap} {L : Addr} {m mg mb : Str → Option Value} {news : List (Addr × Obj)} {p : Program} {loose : List Str} {mean : ExcName → Option Value}
    {m1 m2 : Addr} {nm : Str} {t2 : Tok} {Q E : Value → Shared → Prop}
    (F : Fr h₀ L s.heap m) (X : (hd.heap_39 w.params).In h₀) (N : News h₀ L s.heap news) (T : Top p loose mean mg mb h₀)
    (hh : A.handled = none) (hd : A.depth + 10 ≤ 900) (hu : A.units + 100 ≤ 9000)
    (hQ : ∀ a tl h' tk', Fr h₀ L h' m → News h₀ L h' (tl ++ news) → Fresh news tl → CompIn tl 420 a m1 m2 nm → Q (.ref a) { s with heap := h', toks := tk' }) :
    wpAny (model PySem.Challenge.rw_vy0010_01.row.prog w) A (call (.ref 420) [.ref m1, .ref m2] [("name", .str nm t2)]) Q E s := by
  revert X; k_fill; intro X
  walk1
  k_steps
  refine hQ _ [_, _, _, _, _, _, _] _ _ (by assumption) (by assumption) (by walk_at "mine fresh") ?_
  exact ⟨_, _, _, _, by k_mem, by k_mem, by k_mem⟩
end
example : True := by
  w_top off
  trivial
section
/-- a node's own objects: itself, its dict, its list of children -/
def NodeObj (news : List (Addr × Obj)) (a e : Addr) (T : Str) (st en : Int) (ys : List Value) : Prop :=
  ∃ d c t1 t2 t3 n, (a, (⟨.ref 99, some d, .plain, #[some (.ref c), some (.int en t3), some (.ref e), some (.str T t1), some (.int st t2)]⟩ : Obj)) ∈ news ∧ (d, dictOf [] 0) ∈ news ∧ (c, W.listOf ys.toArray n) ∈ news

theorem node_call4 {w : World} {A : Around} {s : Shared} {h₀ : Heap} {L : Addr} {m mg mb : Str → Option Value} {news : List (Addr × Obj)} {p : Program} {loose : List Str} {mean : ExcName → Option Value}
    {e : Addr} {T' : Str} {st en : Int} {t1 t2 t3 : Tok} {Q E : Value → Shared → Prop}
    (F : Fr h₀ L s.heap m) (X : (hd.heap_39 w.params).In h₀) (N : News h₀ L s.heap news) (T : Top p loose mean mg mb h₀)
    (hh : A.handled = none) (hd : A.depth + 10 ≤ 900) (hu : A.units + 100 ≤ 9000)
    (hQ : ∀ a tl h' tk', Fr h₀ L h' m → News h₀ L h' (tl ++ news) → Fresh news tl → a ∈ tl.map (·.1) → NodeObj tl a e T' st en [] → Q (.ref a) { s with heap := h', toks := tk' }) :
    wpAny (model PySem.Challenge.rw_vy0010_01.row.prog w) A (call (.ref 99) [.ref e, .str T' t1, .int st t2, .int en t3] []) Q E s := by
  revert X; k_fill; intro X
  walk1
  k_steps
  refine hQ _ [_, _, _] _ _ (by assumption) (by assumption) (by walk_at "mine fresh") (by simp) ?_
  exact ⟨_, _, _, _, _, _, by k_mem, by k_mem, by k_mem⟩

section
variable {prog : Program} {w : World} {A : Around} {E : Value → Shared → Prop} {s : Shared} {h₀ : Heap} {L : Addr} {news : List (Addr × Obj)}
theorem truthy_consL {l : Addr} {n : Nat} {y : Value} {ys : List Value} {Q : Bool → Shared → Prop} (N : News h₀ L s.heap news) (hm : (l, W.listOf (y :: ys).toArray n) ∈ news) (hf : ys.length ≤ 100)
    (h : Q true { s with toks := s.toks + 1 + 1 }) : wpAny (model prog w) A (truthy (.ref l)) Q E s := by
  refine wpAny_truthy_list (N.isList hm) ?_ ?_
  · simp; omega
  · simpa using h
theorem truthy_nilL {l : Addr} {n : Nat} {Q : Bool → Shared → Prop} (N : News h₀ L s.heap news) (hm : (l, W.listOf ([] : List Value).toArray n) ∈ news)
    (h : Q false { s with toks := s.toks + 1 + 1 }) : wpAny (model prog w) A (truthy (.ref l)) Q E s := by
  refine wpAny_truthy_list (N.isList hm) ?_ ?_
  · simp
  · simpa using h
end
local macro_rules | `(tactic| walk_at "truthy ref") => `(tactic| (k_here; k_dflt (first
  | (refine' truthy_consL ?N ?m ?f ?_; (case N => k_asm); (case m => k_mem); (case f => first | assumption | (simp only [List.length_cons, List.length_nil]; omega)))
  | (refine' truthy_nilL ?N ?m ?_; (case N => k_asm); (case m => k_mem)))))

/-- a node over a list of children that stands already -/
def NodeMk (news : List (Addr × Obj)) (a e : Addr) (T : Str) (st en : Int) (c : Addr) : Prop :=
  ∃ d t1 t2 t3, (a, (⟨.ref 99, some d, .plain, #[some (.ref c), some (.int en t3), some (.ref e), some (.str T t1), some (.int st t2)]⟩ : Obj)) ∈ news ∧ (d, dictOf [] 0) ∈ news

theorem node_call5 {w : World} {A : Around} {s : Shared} {h₀ : Heap} {L : Addr} {m mg mb : Str → Option Value} {news : List (Addr × Obj)} {p : Program} {loose : List Str} {mean : ExcName → Option Value}
    {e ch : Addr} {n : Nat} {ys : List Value} {T' : Str} {st en : Int} {t1 t2 t3 : Tok} {Q E : Value → Shared → Prop}
    (F : Fr h₀ L s.heap m) (X : (hd.heap_39 w.params).In h₀) (N : News h₀ L s.heap news) (T : Top p loose mean mg mb h₀)
    (hh : A.handled = none) (hd : A.depth + 10 ≤ 900) (hu : A.units + 100 ≤ 9000) (hne : ys ≠ []) (hch : (ch, W.listOf ys.toArray n) ∈ news) (hys : ys.length ≤ 100)
    (hQ : ∀ a tl h' tk', Fr h₀ L h' m → News h₀ L h' (tl ++ news) → Fresh news tl → a ∈ tl.map (·.1) → NodeMk tl a e T' st en ch → Q (.ref a) { s with heap := h', toks := tk' }) :
    wpAny (model PySem.Challenge.rw_vy0010_01.row.prog w) A (call (.ref 99) [.ref e, .str T' t1, .int st t2, .int en t3, .ref ch] []) Q E s := by
  cases ys with
  | nil => exact absurd rfl hne
  | cons y ys =>
  have hys' : ys.length ≤ 100 := by simp only [List.length_cons] at hys; omega
  revert X; k_fill; intro X
  walk1
  k_steps
  refine hQ _ [_, _] _ _ (by assumption) (by assumption) (by walk_at "mine fresh") (by simp) ?_
  exact ⟨_, _, _, _, by k_mem, by k_mem⟩
end
example : True := by
  w_top off
  trivial
section
inductive Kd where
  | lit (x : Str)
  | seq
  | one
/-- a node: its address, its expression's kind, name, places, children -/
inductive Nd where
  | mk (a : Addr) (k : Kd) (nm : Str) (st en : Int) (kids : List Nd)
def Nd.addr : Nd → Addr
  | .mk a _ _ _ _ _ => a
def Kd.words : Kd → Str
  | .lit x => "'" ++ x ++ "'"
  | .seq => "'a' empty"
  | .one => "'a' / empty"
inductive All2 {α β : Type} (R : α → β → Prop) : List α → List β → Prop where
  | nil : All2 R [] []
  | cons {a : α} {b : β} {as : List α} {bs : List β} : R a b → All2 R as bs → All2 R (a :: as) (b :: bs)
theorem All2.length {α β : Type} {R : α → β → Prop} {as : List α} {bs : List β} (h : All2 R as bs) : as.length = bs.length := by
  induction h with
  | nil => rfl
  | cons _ _ ih => simp [ih]
theorem All2.mono {α β : Type} {R S : α → β → Prop} {as : List α} {bs : List β} (h : All2 R as bs) (k : ∀ a b, R a b → S a b) : All2 S as bs := by
  induction h with
  | nil => exact .nil
  | cons h _ ih => exact .cons (k _ _ h) ih
theorem All2.snoc {α β : Type} {R : α → β → Prop} {as : List α} {bs : List β} {a : α} {b : β} (h : All2 R as bs) (k : R a b) : All2 R (as ++ [a]) (bs ++ [b]) := by
  induction h with
  | nil => exact .cons k .nil
  | cons h _ ih => exact .cons h ih
theorem All2.mem_right {α β : Type} {R : α → β → Prop} {as : List α} {bs : List β} {b : β} (h : All2 R as bs) (hb : b ∈ bs) : ∃ a, R a b := by
  induction h with
  | nil => cases hb
  | cons h _ ih =>
    rcases List.mem_cons.mp hb with rfl | hb
    · exact ⟨_, h⟩
    · exact ih hb
theorem All2.get {α β : Type} {R : α → β → Prop} {as : List α} {bs : List β} (h : All2 R as bs) : ∀ {i : Nat} {a : α}, as[i]? = some a → ∃ b, bs[i]? = some b ∧ R a b := by
  induction h with
  | nil => intro i a e; simp at e
  | cons h _ ih =>
    intro i a e
    cases i with
    | zero => simp at e; subst e; exact ⟨_, rfl, h⟩
    | succ i => simp at e; obtain ⟨b, hb, hR⟩ := ih e; exact ⟨b, by simpa using hb, hR⟩

def ExprIn (news : List (Addr × Obj)) (e : Addr) : Kd → Str → Prop
  | .lit x, nm => LitIn news e x nm
  | .seq, nm => ∃ m1 m2, CompIn news 394 e m1 m2 nm ∧ LitIn news m1 "a" "" ∧ LitIn news m2 "" "empty"
  | .one, nm => ∃ m1 m2, CompIn news 420 e m1 m2 nm ∧ LitIn news m1 "a" "" ∧ LitIn news m2 "" "empty"
def NodeIn (news : List (Addr × Obj)) (T : Str) : Nat → Nd → Prop
  | 0, _ => False
  | n + 1, .mk a k nm st en kids => ∃ e, NodeObj news a e T st en (kids.map fun t => .ref t.addr) ∧ ExprIn news e k nm ∧ ∀ t ∈ kids, NodeIn news T n t
abbrev tupO (vs : List Value) : Obj := { cls := .type "tuple", data := .seq vs.toArray }
def OwnIn (news : List (Addr × Obj)) : Nat → Value → Nd → Prop
  | 0, _, _ => False
  | n + 1, v, .mk _ k nm st en kids => ∃ b pl t1 t2 t3 t4 m ps, v = .ref b ∧ (b, tupO [.str k.words t1, .str nm t2, .int st t3, .int en t4, .ref pl]) ∈ news ∧ (pl, W.listOf ps.toArray m) ∈ news ∧ All2 (OwnIn news n) ps kids
def MadeIn (news : List (Addr × Obj)) (T : Str) (n : Nat) (v : Value) (d : Nd) : Prop :=
  ∃ b o, v = .ref b ∧ (b, tupO [.ref d.addr, .ref o]) ∈ news ∧ NodeIn news T n d ∧ OwnIn news n (.ref o) d

/-- a name: short, of signs that end no line -/
def NameOk (nm : Str) : Prop := nm.length ≤ 40 ∧ ∀ c ∈ nm.cps.toList, 48 ≤ c ∧ c ≤ 122
def TextOk (T : Str) : Prop := T.length ≤ 8 ∧ ∀ c ∈ T.cps.toList, c = 97 ∨ c = 98
/-- T[st:en] -/
abbrev sub (T : Str) (st en : Int) : Str := Txt.slice T (some st) (some en)
def KdOk (T : Str) (st en : Int) (kids : List Nd) : Kd → Prop
  | .lit x => x = sub T st en ∧ kids = []
  | _ => kids ≠ []
def NdOk (T : Str) : Nat → Nd → Prop
  | 0, _ => False
  | n + 1, .mk _ k nm st en kids => NameOk nm ∧ 0 ≤ st ∧ st ≤ en ∧ en ≤ T.length ∧ kids.length ≤ 3 ∧ KdOk T st en kids k ∧ ∀ t ∈ kids, NdOk T n t
def addrs : Nat → Nd → List Addr
  | 0, _ => []
  | n + 1, .mk a _ _ _ _ kids => a :: kids.flatMap (addrs n)

section
variable {news news' : List (Addr × Obj)} (h : ∀ q ∈ news, q ∈ news')
include h
theorem LitIn.mono {e : Addr} {x nm : Str} (k : LitIn news e x nm) : LitIn news' e x nm := let ⟨d, it, t1, t2, a, b⟩ := k; ⟨d, it, t1, t2, h _ a, h _ b⟩
theorem CompIn.mono {C e m1 m2 : Addr} {nm : Str} (k : CompIn news C e m1 m2 nm) : CompIn news' C e m1 m2 nm := let ⟨d, it, m, t1, a, b, c⟩ := k; ⟨d, it, m, t1, h _ a, h _ b, h _ c⟩
theorem NodeObj.mono {a e : Addr} {T : Str} {st en : Int} {ys : List Value} (k : NodeObj news a e T st en ys) : NodeObj news' a e T st en ys := let ⟨d, c, t1, t2, t3, n, p, q, r⟩ := k; ⟨d, c, t1, t2, t3, n, h _ p, h _ q, h _ r⟩
theorem ExprIn.mono {e : Addr} {nm : Str} : ∀ {k : Kd}, ExprIn news e k nm → ExprIn news' e k nm
  | .lit _, k => LitIn.mono h k
  | .seq, ⟨m1, m2, a, b, c⟩ => ⟨m1, m2, a.mono h, b.mono h, c.mono h⟩
  | .one, ⟨m1, m2, a, b, c⟩ => ⟨m1, m2, a.mono h, b.mono h, c.mono h⟩
theorem NodeIn.mono {T : Str} : ∀ {n : Nat} {d : Nd}, NodeIn news T n d → NodeIn news' T n d
  | 0, _, k => k
  | n + 1, .mk _ _ _ _ _ _, ⟨e, a, b, c⟩ => ⟨e, a.mono h, b.mono h, fun t ht => NodeIn.mono (c t ht)⟩
theorem OwnIn.mono : ∀ {n : Nat} {v : Value} {d : Nd}, OwnIn news n v d → OwnIn news' n v d
  | 0, _, _, k => k
  | n + 1, _, .mk _ _ _ _ _ _, ⟨b, pl, t1, t2, t3, t4, m, ps, e, p, q, r⟩ => ⟨b, pl, t1, t2, t3, t4, m, ps, e, h _ p, h _ q, r.mono fun _ _ x => OwnIn.mono x⟩
theorem MadeIn.mono {T : Str} {n : Nat} {v : Value} {d : Nd} (k : MadeIn news T n v d) : MadeIn news' T n v d := let ⟨b, o, e, p, q, r⟩ := k; ⟨b, o, e, h _ p, q.mono h, r.mono h⟩
end

/-- what is handed back by a making -/
structure MadeOut (news tl : List (Addr × Obj)) (T : Str) (n : Nat) (v : Value) (d : Nd) : Prop where
  fresh : Fresh news tl
  made : MadeIn tl T n v d
  ok : NdOk T n d
  nodup : (addrs n d).Nodup
  here : ∀ a ∈ addrs n d, a ∈ tl.map (·.1)

def bnd : Nat → Int
  | 0 => 31
  | 1 => 7
  | _ => 1

theorem ll1 : (Str.ofString "'").length = 1 := by decide +kernel
theorem ll2 : (Str.ofString "r").length = 1 := by decide +kernel
theorem ll3 : (Str.ofString "").length = 0 := by decide +kernel
theorem ll4 : (Str.ofString "sum").length = 3 := by decide +kernel
theorem ll5 : (Str.ofString "<Node").length = 5 := by decide +kernel
theorem ll6 : (Str.ofString " called \"").length = 9 := by decide +kernel
theorem ll7 : (Str.ofString "\"").length = 1 := by decide +kernel
theorem ll8 : (Str.ofString " matching \"").length = 11 := by decide +kernel
theorem ll9 : (Str.ofString "\">").length = 2 := by decide +kernel
theorem ll10 : (Str.ofString "  <-- *** We were here. ***").length = 27 := by decide +kernel
theorem ll11 : (Str.ofString "Node(").length = 5 := by decide +kernel
theorem ll12 : (Str.ofString ", s, ").length = 5 := by decide +kernel
theorem ll13 : (Str.ofString ", ").length = 2 := by decide +kernel
theorem ll14 : (Str.ofString ")").length = 1 := by decide +kernel
theorem ll15 : (Str.ofString ", children=[").length = 12 := by decide +kernel
theorem ll16 : (Str.ofString "]").length = 1 := by decide +kernel
theorem ll17 : (Str.ofString "<").length = 1 := by decide +kernel
theorem ll18 : (Str.ofString " ").length = 1 := by decide +kernel
theorem ll19 : (Str.ofString "s = '").length = 5 := by decide +kernel
theorem ll20 : (Str.ofString "'\n").length = 2 := by decide +kernel
theorem ll21 : (Str.ofString "    ").length = 4 := by decide +kernel
theorem ll22 : (Str.ofString "\n").length = 1 := by decide +kernel
theorem ll23 : (Str.ofString "'a' empty").length = 9 := by decide +kernel
theorem ll24 : (Str.ofString "'a' / empty").length = 11 := by decide +kernel
theorem ll25 : (Str.ofString "Literal").length = 7 := by decide +kernel
theorem ll26 : (Str.ofString "Sequence").length = 8 := by decide +kernel
theorem ll27 : (Str.ofString "OneOf").length = 5 := by decide +kernel
theorem ll28 : (Str.ofString " = ").length = 3 := by decide +kernel
theorem ll29 : (Str.ofString ">").length = 1 := by decide +kernel
end
example : True := by
  w_top off
  trivial
section
section
variable {prog : Program} {w : World} {A : Around} {E : Value → Shared → Prop} {s : Shared} {h₀ : Heap} {L : Addr} {news : List (Addr × Obj)}
theorem item_listL {value slice : Expr} {l : Addr} {its : Array Value} {n : Nat} {k : Int} {u : Tok} {x : Value} {Q : Value → Shared → Prop} (N : News h₀ L s.heap news) (hm : (l, W.listOf its n) ∈ news)
    (h0 : 0 ≤ k) (hhi : k < 2 ^ 63) (hx : its[k.toNat]? = some x) (h : Q x s)
    (hs : subscripted slice false (.ref l) (.int k u) = operate [.ref l, .int k u] (getItem (.ref l) (.int k u))) : wpAny (model prog w) A (subscriptTail value slice (.ref l) (.int k u)) Q E s :=
  have hl := N.isList hm
  tail_any hl.typeIs slot_list_getitem.lookup (wpAny_getItem_list hl h0 hhi hx h) hs
theorem ints_get_at {us : List Value} {zs : List Int} (hi : IntsAre us zs) : ∀ {k : Nat} (h : k < zs.length), ∃ t, us[k]? = some (.int zs[k] t) := by
  induction hi with
  | nil => intro k h; cases h
  | cons x t _ ih =>
    intro k h
    cases k with
    | zero => exact ⟨t, by simp⟩
    | succ k => simpa using ih (k := k) (by simpa using h)
theorem item_first {value slice : Expr} {l : Addr} {x : Value} {r : List Value} {n : Nat} {u : Tok} {Q : Value → Shared → Prop} (N : News h₀ L s.heap news) (hm : (l, W.listOf (x :: r).toArray n) ∈ news) (h : Q x s)
    (hs : subscripted slice false (.ref l) (.int 0 u) = operate [.ref l, .int 0 u] (getItem (.ref l) (.int 0 u))) : wpAny (model prog w) A (subscriptTail value slice (.ref l) (.int 0 u)) Q E s :=
  item_listL N hm (by decide) (by decide) (by simp) h hs
theorem menu3 {value slice : Expr} {l : Addr} {a b c : Str} {ta tb tc : Tok} {n : Nat} {i : Int} {u : Tok} {Q : Value → Shared → Prop} (N : News h₀ L s.heap news) (hm : (l, W.listOf #[.str a ta, .str b tb, .str c tc] n) ∈ news)
    (h : ∀ x t, (x = a ∨ x = b ∨ x = c) → Q (.str x t) s)
    (hs : subscripted slice false (.ref l) (.int (Int.fmod i 3) u) = operate [.ref l, .int (Int.fmod i 3) u] (getItem (.ref l) (.int (Int.fmod i 3) u))) : wpAny (model prog w) A (subscriptTail value slice (.ref l) (.int (Int.fmod i 3) u)) Q E s := by
  have h0 : 0 ≤ Int.fmod i 3 := Int.fmod_nonneg_of_pos i (by decide)
  have h1 : Int.fmod i 3 < 3 := Int.fmod_lt_of_pos i (by decide)
  have h3 : Int.fmod i 3 = 0 ∨ Int.fmod i 3 = 1 ∨ Int.fmod i 3 = 2 := by omega
  rcases h3 with e | e | e
  · exact item_listL N hm (by omega) (by omega) (by rw [e]; rfl) (h a ta (.inl rfl)) hs
  · exact item_listL N hm (by omega) (by omega) (by rw [e]; rfl) (h b tb (.inr (.inl rfl))) hs
  · exact item_listL N hm (by omega) (by omega) (by rw [e]; rfl) (h c tc (.inr (.inr rfl))) hs
end

/-- a test that keeps all but the count of fresh things: its ways join -/
theorem via_bool {M : Model} {A : Around} {E : Value → Shared → Prop} {s : Shared} {t : Sem Bool} {Q : Bool → Shared → Prop} (R : Bool → Prop)
    (h : ∀ Q' : Bool → Shared → Prop, (∀ b tk, R b → Q' b { s with toks := tk }) → wpAny M A t Q' E s) (k : ∀ b tk, R b → Q b { s with toks := tk }) : wpAny M A t Q E s := h Q k

/-- a ledger is what is new ahead of what stood -/
def Cut (news B : List (Addr × Obj)) : Prop := ∃ tl, B = tl ++ news ∧ Fresh news tl
theorem Cut.nil {news : List (Addr × Obj)} : Cut news news := ⟨[], rfl, .nil⟩
theorem Cut.cons {a : Addr} {o : Obj} {news B : List (Addr × Obj)} (h : AllLt a news) : Cut news B → Cut news ((a, o) :: B)
  | ⟨tl, e, f⟩ => ⟨(a, o) :: tl, by rw [e]; rfl, .cons h f⟩
theorem Cut.consO {a : Addr} {o : Obj} {news B : List (Addr × Obj)} (h : AllNe a news) : Cut news B → Cut news ((a, o) :: B)
  | ⟨tl, e, f⟩ => ⟨(a, o) :: tl, by rw [e]; rfl, .consO h f⟩
theorem off_ne {D : Addr} : ∀ {B : List (Addr × Obj)}, LCg.Off1 D B → ∀ {l : List (Addr × Obj)}, (∀ q ∈ l, q ∈ B) → AllNe D l := fun {B} h {l} k q hq => by
  have := k q hq
  clear hq k
  induction B with
  | nil => cases this
  | cons b B ih =>
    rcases List.mem_cons.mp this with rfl | this
    · exact h.1
    · exact ih h.2 this
theorem Cut.app {news t B : List (Addr × Obj)} (h : Fresh news t) : Cut news B → Cut news (t ++ B)
  | ⟨tl, e, f⟩ => ⟨t ++ tl, by rw [e, List.append_assoc], .app h f⟩
theorem Cut.of {h₀ h : Heap} {L : Addr} {news B : List (Addr × Obj)} (_ : News h₀ L h B) (c : Cut news B) : ∃ tl, B = tl ++ news ∧ Fresh news tl := c
/-- what a callee made is of what is new -/
theorem here_of {news news' tl t B : List (Addr × Obj)} {a : Addr} (e : B = tl ++ news) (hat : a ∈ t.map (·.1)) (f : Fresh news' t) (hn : ∀ q ∈ news, q ∈ news') (hB : ∀ q ∈ t, q ∈ B) : a ∈ tl.map (·.1) := by
  obtain ⟨q, hq, rfl⟩ := List.mem_map.mp hat
  have hm := hB q hq
  rw [e] at hm
  rcases List.mem_append.mp hm with hm | hm
  · exact List.mem_map_of_mem hm
  · exact absurd rfl (f q (hn q hm) q hq)
theorem allLt_sub {l B : List (Addr × Obj)} {a : Addr} (h : AllLt a B) (k : ∀ q ∈ l, q ∈ B) : AllLt a l := allLt_of fun q hq => lt_all h q (k q hq)
theorem lt_sub2 {l B : List (Addr × Obj)} {a : Addr} (h : ∀ q ∈ B, q.1 < a) (k : ∀ q ∈ l, q ∈ B) : AllLt a l := allLt_of fun q hq => h q (k q hq)
theorem lt_succ {l : List (Addr × Obj)} {a : Nat} (h : AllLt a l) : AllLt (a + 1) l := allLt_of fun q hq => Nat.lt_succ_of_lt (lt_all h q hq)
theorem lt_up {l : List (Addr × Obj)} {a b : Addr} (h : ∀ q ∈ l, q.1 < b) (k : b ≤ a) : AllLt a l := allLt_of fun q hq => Nat.lt_of_lt_of_le (h q hq) k

theorem nameOk_menu {x : Str} {pl : Int} (h0 : 0 ≤ pl) (h1 : pl ≤ 100) (h : x = Str.ofString "" ∨ x = Str.ofString "r" ++ Str.ofString (toString pl) ∨ x = Str.ofString "sum") : NameOk x := by
  rcases h with rfl | rfl | rfl
  · exact ⟨by decide +kernel, by decide +kernel⟩
  · have all : ∀ k : Fin 101, NameOk (Str.ofString "r" ++ Str.ofString (toString ((k.val : Nat) : Int))) := by
      unfold NameOk; decide +kernel
    have e : pl = ((pl.toNat : Nat) : Int) := by omega
    rw [e]
    exact all ⟨pl.toNat, by omega⟩
  · exact ⟨by decide +kernel, by decide +kernel⟩

theorem new_mem {news tl B : List (Addr × Obj)} {q : Addr × Obj} (e : B = tl ++ news) (hq : q ∈ B) (h : AllLt q.1 news) : q ∈ tl := by
  rw [e] at hq
  rcases List.mem_append.mp hq with hq | hq
  · exact hq
  · exact absurd (lt_all h q hq) (Nat.lt_irrefl _)
theorem new_memO {news tl B : List (Addr × Obj)} {q : Addr × Obj} (e : B = tl ++ news) (hq : q ∈ B) (h : AllNe q.1 news) : q ∈ tl := by
  rw [e] at hq
  rcases List.mem_append.mp hq with hq | hq
  · exact hq
  · exact absurd rfl (h q hq)
theorem new_sub {news news' tl t B : List (Addr × Obj)} (e : B = tl ++ news) (f : Fresh news' t) (hn : ∀ q ∈ news, q ∈ news') (hB : ∀ q ∈ t, q ∈ B) : ∀ q ∈ t, q ∈ tl := fun q hq => by
  have hm := hB q hq
  rw [e] at hm
  rcases List.mem_append.mp hm with hm | hm
  · exact hm
  · exact absurd rfl (f q (hn q hm) q hq)
theorem leaf_out {news tl B : List (Addr × Obj)} {Tx nm : Str} {st en : Int} {n k : Nat} {D D1 l' a e : Addr} {t1 t2 t3 t4 : Tok} (hs : Fresh news tl) (mem : (D, tupO [.ref a, .ref D1]) ∈ tl)
    (m1 : (D1, tupO [.str (Str.ofString "'" ++ sub Tx st en ++ Str.ofString "'") t1, .str nm t2, .int st t3, .int en t4, .ref l']) ∈ tl) (m2 : (l', W.listOf ([] : List Value).toArray k) ∈ tl)
    (rN : NodeObj tl a e Tx st en []) (rL : LitIn tl e (sub Tx st en) nm) (nameOk : NameOk nm) (h0 : 0 ≤ st) (h1 : st ≤ en) (h2 : en ≤ Tx.length) :
    MadeOut news tl Tx (n + 1) (.ref D) (.mk a (.lit (sub Tx st en)) nm st en []) := by
  refine ⟨hs, ⟨_, _, rfl, mem, ⟨_, rN, rL, fun _ h => nomatch h⟩, ⟨_, _, _, _, _, _, _, [], rfl, m1, m2, .nil⟩⟩, ⟨nameOk, h0, h1, h2, Nat.zero_le _, ⟨rfl, rfl⟩, fun _ h => nomatch h⟩, by simp [addrs], fun b hb => ?_⟩
  obtain rfl : b = a := by simpa [addrs] using hb
  obtain ⟨d, c, _, _, _, _, h, _⟩ := rN
  exact List.mem_map_of_mem h

theorem ints_snoc {vs : List Value} {ns : List Int} {x : Int} {t : Tok} (h : IntsAre vs ns) : IntsAre (vs ++ [.int x t]) (ns ++ [x]) := IntsAre.append h (.cons x t .nil)
/-- the law's cuts so far -/
def CutsInv (st en : Int) (B : List (Addr × Obj)) (i : Nat) (ys : List Value) (nw : List (Addr × Obj)) : Prop :=
  nw = B ∧ ∃ is : List Int, IntsAre ys is ∧ is.length = i ∧ ∀ x ∈ is, st ≤ x ∧ x ≤ en
theorem CutsInv.step {st en : Int} {B : List (Addr × Obj)} {i : Nat} {ys : List Value} {nw : List (Addr × Obj)} {a : Int} {t : Tok} (h : CutsInv st en B i ys nw) (h1 : st ≤ en) : CutsInv st en B (i + 1) (ys ++ [.int (st + Int.fmod a (en - st + 1)) t]) nw := by
  obtain ⟨e, is, hi, hl, hb⟩ := h
  refine ⟨e, is ++ [st + Int.fmod a (en - st + 1)], ints_snoc hi, by simp [hl], fun x hx => ?_⟩
  rcases List.mem_append.mp hx with hx | hx
  · exact hb x hx
  · obtain rfl := List.mem_singleton.mp hx
    have a0 := Int.fmod_nonneg_of_pos a (show 0 < en - st + 1 by omega)
    have a1 := Int.fmod_lt_of_pos a (show 0 < en - st + 1 by omega)
    omega
theorem fmod3 (a : Int) : 0 ≤ Int.fmod a 3 ∧ Int.fmod a 3 < 3 := ⟨Int.fmod_nonneg_of_pos a (by decide), Int.fmod_lt_of_pos a (by decide)⟩
theorem small_to {b : Int} (h0 : 0 ≤ b) (h1 : b < 1000) : Builtin.Range.small 0 b 1 = true := small_one (by decide) (by decide) (by omega) (by omega)
theorem size_to {b : Int} : Builtin.Range.rangeSize 0 b 1 = ((b.toNat : Nat) : Int) := by rw [rangeSize_nat]; simp
end
example : True := by
  w_top off
  trivial
section
theorem ints_item {prog : Program} {w : World} {A : Around} {E : Value → Shared → Prop} {s : Shared} {h₀ : Heap} {L : Addr} {news : List (Addr × Obj)} {value slice : Expr} {l : Addr} {us : List Value} {zs : List Int} {n : Nat} {k : Int} {u : Tok} {Q : Value → Shared → Prop} (N : News h₀ L s.heap news) (hm : (l, W.listOf us.toArray n) ∈ news)
    (hi : IntsAre us zs) (h0 : 0 ≤ k) (h1 : k < zs.length) (hz : zs.length ≤ 1000) (h : ∀ x t, zs[k.toNat]? = some x → Q (.int x t) s)
    (hs : subscripted slice false (.ref l) (.int k u) = operate [.ref l, .int k u] (getItem (.ref l) (.int k u))) : wpAny (model prog w) A (subscriptTail value slice (.ref l) (.int k u)) Q E s := by
  have hlt : k.toNat < zs.length := by omega
  obtain ⟨t, ht⟩ := ints_get_at hi hlt
  exact item_listL N hm h0 (by omega) (by simpa using ht) (h _ t (List.getElem?_eq_getElem hlt)) hs
theorem places_at {st en : Int} {ns is : List Int} (hp : ns.Perm is) (ho : ns.Pairwise (fun x y => x ≤ y)) (hb : ∀ x ∈ is, st ≤ x ∧ x ≤ en) (h1 : st ≤ en) {i j : Nat} {x y : Int} (hj : j = i + 1)
    (hx : ([st] ++ ns ++ [en])[i]? = some x) (hy : ([st] ++ ns ++ [en])[j]? = some y) : st ≤ x ∧ x ≤ y ∧ y ≤ en := by
  subst hj
  have hb' : ∀ z ∈ ns, st ≤ z ∧ z ≤ en := fun z hz => hb z (hp.mem_iff.mp hz)
  have hP : ([st] ++ ns ++ [en]).Pairwise (fun x y => x ≤ y) := by
    rw [List.append_assoc, List.singleton_append, List.pairwise_cons, List.pairwise_append]
    refine ⟨fun z hz => ?_, ho, by simp, fun a ha b hb2 => ?_⟩
    · rcases List.mem_append.mp hz with hz | hz
      · exact (hb' z hz).1
      · obtain rfl := List.mem_singleton.mp hz; exact h1
    · obtain rfl := List.mem_singleton.mp hb2; exact (hb' a ha).2
  have hall : ∀ z ∈ ([st] ++ ns ++ [en]), st ≤ z ∧ z ≤ en := fun z hz => by
    rcases List.mem_append.mp hz with hz | hz
    · rcases List.mem_append.mp hz with hz | hz
      · obtain rfl := List.mem_singleton.mp hz; omega
      · exact hb' z hz
    · obtain rfl := List.mem_singleton.mp hz; omega
  obtain ⟨li, ei⟩ := List.getElem?_eq_some_iff.mp hx
  obtain ⟨lj, ej⟩ := List.getElem?_eq_some_iff.mp hy
  refine ⟨(hall x (List.mem_of_getElem? hx)).1, ?_, (hall y (List.mem_of_getElem? hy)).2⟩
  rw [← ei, ← ej]
  exact List.pairwise_iff_getElem.mp hP i (i + 1) li lj (Nat.lt_succ_self i)

/-- the law's parts so far -/
def PartsInv (B : List (Addr × Obj)) (T : Str) (n i : Nat) (ys : List Value) (nw : List (Addr × Obj)) : Prop :=
  ∃ tl ds, nw = tl ++ B ∧ Fresh B tl ∧ ys.length = i ∧ All2 (MadeIn tl T n) ys ds ∧ (∀ d ∈ ds, NdOk T n d) ∧ (ds.flatMap (addrs n)).Nodup ∧ ∀ a ∈ ds.flatMap (addrs n), a ∈ tl.map (·.1)
theorem PartsInv.nil {B : List (Addr × Obj)} {T : Str} {n : Nat} : PartsInv B T n 0 [] B := ⟨[], [], rfl, .nil, rfl, .nil, by simp, by simp, by simp⟩
theorem PartsInv.step {B : List (Addr × Obj)} {T : Str} {n i : Nat} {ys : List Value} {nw tl1 W3 : List (Addr × Obj)} {v : Value} {d : Nd} (h : PartsInv B T n i ys nw) (hW : ∀ q ∈ nw, q ∈ W3) (M : MadeOut W3 tl1 T n v d) : PartsInv B T n (i + 1) (ys ++ [v]) (tl1 ++ nw) := by
  obtain ⟨tl, ds, rfl, fr, hl, hm, hok, hnd, hh⟩ := h
  have f1 : Fresh (tl ++ B) tl1 := M.fresh.sub hW
  refine ⟨tl1 ++ tl, ds ++ [d], by rw [List.append_assoc], .app (f1.sub fun q hq => List.mem_append_right _ hq) fr, by simp [hl], ?_, ?_, ?_, ?_⟩
  · exact (hm.mono fun _ _ x => x.mono fun q hq => List.mem_append_right _ hq).snoc (M.made.mono fun q hq => List.mem_append_left _ hq)
  · intro e he
    rcases List.mem_append.mp he with he | he
    · exact hok e he
    · obtain rfl := List.mem_singleton.mp he; exact M.ok
  · rw [List.flatMap_append, List.nodup_append]
    refine ⟨hnd, by simpa using M.nodup, fun a ha b hb e => ?_⟩
    subst e
    obtain ⟨q, hq, rfl⟩ := List.mem_map.mp (hh a ha)
    obtain ⟨q', hq', e'⟩ := List.mem_map.mp (M.here q.1 (by simpa using hb))
    exact f1 q (List.mem_append_left _ hq) q' hq' e'.symm
  · intro a ha
    rw [List.map_append, List.mem_append]
    rw [List.flatMap_append, List.mem_append] at ha
    rcases ha with ha | ha
    · exact .inr (hh a ha)
    · exact .inl (M.here a (by simpa using ha))
theorem off3_app {I C D : Addr} {oI oC oD : Obj} {nw : List (Addr × Obj)} (h : LCg.Off3 I C D nw) : ∀ {tl : List (Addr × Obj)}, Fresh ((I, oI) :: (C, oC) :: (D, oD) :: nw) tl → LCg.Off3 I C D (tl ++ nw)
  | [], _ => h
  | p :: r, f => ⟨⟨(f _ (.head _) p (.head _)).symm, (f _ (.tail _ (.head _)) p (.head _)).symm, (f _ (.tail _ (.tail _ (.head _))) p (.head _)).symm⟩, off3_app h fun q hq p hp => f q hq p (.tail _ hp)⟩
theorem swap3 {I C D : Addr × Obj} {nw tl : List (Addr × Obj)} : ∀ p ∈ I :: C :: D :: (tl ++ nw), p ∈ tl ++ (I :: C :: D :: nw) := fun p hp => by
  simp only [List.mem_cons, List.mem_append] at hp ⊢
  rcases hp with h | h | h | h | h
  · exact .inr (.inl h)
  · exact .inr (.inr (.inl h))
  · exact .inr (.inr (.inr (.inl h)))
  · exact .inl h
  · exact .inr (.inr (.inr (.inr h)))

/-- the firsts of the parts so far -/
def FstInv (B : List (Addr × Obj)) (ds : List Nd) (i : Nat) (ys : List Value) (nw : List (Addr × Obj)) : Prop := nw = B ∧ ys = (ds.take i).map fun t => .ref t.addr
theorem FstInv.step {B : List (Addr × Obj)} {ds : List Nd} {i : Nat} {ys : List Value} {nw : List (Addr × Obj)} {d : Nd} (h : FstInv B ds i ys nw) (e : ds[i]? = some d) : FstInv B ds (i + 1) (ys ++ [.ref d.addr]) nw := by
  obtain ⟨rfl, rfl⟩ := h
  refine ⟨rfl, ?_⟩
  rw [List.take_add_one, e]
  simp
/-- the seconds -/
def SndInv (B tl : List (Addr × Obj)) (n : Nat) (ds : List Nd) (i : Nat) (ys : List Value) (nw : List (Addr × Obj)) : Prop := nw = B ∧ All2 (OwnIn tl n) ys (ds.take i)
theorem SndInv.step {B tl : List (Addr × Obj)} {n : Nat} {ds : List Nd} {i : Nat} {ys : List Value} {nw : List (Addr × Obj)} {d : Nd} {v : Value} (h : SndInv B tl n ds i ys nw) (e : ds[i]? = some d) (k : OwnIn tl n v d) : SndInv B tl n ds (i + 1) (ys ++ [v]) nw := by
  obtain ⟨rfl, h⟩ := h
  refine ⟨rfl, ?_⟩
  rw [List.take_add_one, e]
  exact h.snoc k
theorem NodeMk.mono {news news' : List (Addr × Obj)} (h : ∀ q ∈ news, q ∈ news') {a e c : Addr} {T : Str} {st en : Int} (k : NodeMk news a e T st en c) : NodeMk news' a e T st en c := let ⟨d, t1, t2, t3, p, q⟩ := k; ⟨d, t1, t2, t3, h _ p, h _ q⟩
theorem hat_of {B t l : List (Addr × Obj)} {a : Addr} (f : Fresh B t) (h : a ∈ t.map (·.1)) (k : ∀ q ∈ l, q ∈ B) : AllNe a l := fun q hq => by
  obtain ⟨p, hp, rfl⟩ := List.mem_map.mp h
  exact f q (k q hq) p hp
theorem rest_out {news tl : List (Addr × Obj)} {Tx nm : Str} {st en : Int} {n k : Nat} {D D1 l' a e c : Addr} {t1 t2 t3 t4 : Tok} {kd : Kd} {ds : List Nd} {ps : List Value} {tp : List (Addr × Obj)} (hs : Fresh news tl) (mem : (D, tupO [.ref a, .ref D1]) ∈ tl)
    (m1 : (D1, tupO [.str kd.words t1, .str nm t2, .int st t3, .int en t4, .ref l']) ∈ tl) (m2 : (l', W.listOf ps.toArray k) ∈ tl)
    (rN : NodeMk tl a e Tx st en c) {k2 : Nat} (hc : (c, W.listOf (ds.map fun t => Value.ref t.addr).toArray k2) ∈ tl) (rL : ExprIn tl e kd nm) (hk : KdOk Tx st en ds kd) (hp : ∀ q ∈ tp, q ∈ tl) {vs : List Value} (hM : All2 (MadeIn tp Tx n) vs ds) (hO : All2 (OwnIn tp n) ps ds) (hok : ∀ d ∈ ds, NdOk Tx n d)
    (hnd : (ds.flatMap (addrs n)).Nodup) (hh : ∀ a ∈ ds.flatMap (addrs n), a ∈ tp.map (·.1)) (hlen : ds.length ≤ 3) (hat : AllNe a tp) (nameOk : NameOk nm) (h0 : 0 ≤ st) (h1 : st ≤ en) (h2 : en ≤ Tx.length) :
    MadeOut news tl Tx (n + 1) (.ref D) (.mk a kd nm st en ds) := by
  refine ⟨hs, ⟨_, _, rfl, mem, ?_, ?_⟩, ⟨nameOk, h0, h1, h2, hlen, hk, hok⟩, ?_, ?_⟩
  · obtain ⟨d, u1, u2, u3, x, y⟩ := rN
    refine ⟨e, ⟨d, c, u1, u2, u3, k2, x, y, hc⟩, rL, fun t ht => ?_⟩
    obtain ⟨v, b, o, _, _, h, _⟩ := hM.mem_right ht
    exact h.mono hp
  · exact ⟨_, _, _, _, _, _, _, ps, rfl, m1, m2, hO.mono fun _ _ x => x.mono hp⟩
  · show (a :: ds.flatMap (addrs n)).Nodup
    refine List.nodup_cons.mpr ⟨fun h => ?_, hnd⟩
    obtain ⟨q, hq, e⟩ := List.mem_map.mp (hh a h)
    exact hat q hq e
  · intro b hb
    rcases List.mem_cons.mp (show b ∈ a :: ds.flatMap (addrs n) from hb) with rfl | hb
    · obtain ⟨d, u1, u2, u3, x, y⟩ := rN
      exact List.mem_map_of_mem x
    · obtain ⟨q, hq, rfl⟩ := List.mem_map.mp (hh b hb)
      exact List.mem_map_of_mem (hp q hq)
theorem tup_item {prog : Program} {w : World} {A : Around} {E : Value → Shared → Prop} {s : Shared} {h₀ : Heap} {L : Addr} {news t : List (Addr × Obj)} {value slice : Expr} {l : Addr} {vs : List Value} {k : Int} {j : Nat} {u : Tok} {x : Value} {Q : Value → Shared → Prop} (N : News h₀ L s.heap news) (hm : (l, tupO vs) ∈ t)
    (ht : ∀ q ∈ t, q ∈ news) (h0 : 0 ≤ k) (h1 : k < 100) (hj : seqIndex? k vs.length = some j) (hx : vs[j]? = some x) (h : Q x s)
    (hs : subscripted slice false (.ref l) (.int k u) = operate [.ref l, .int k u] (getItem (.ref l) (.int k u))) : wpAny (model prog w) A (subscriptTail value slice (.ref l) (.int k u)) Q E s := by
  have hl : IsTup s.heap l vs.toArray := News.isTup N (ht _ hm)
  exact item_tupleT hl (by omega) (by omega) hj hx h hs
theorem lit_new {B tl news news' t : List (Addr × Obj)} {e : Addr} {x nm : Str} (hB : B = tl ++ news) (k : LitIn t e x nm) (f : Fresh news' t) (hn : ∀ q ∈ news, q ∈ news') (hs : ∀ q ∈ t, q ∈ B) : LitIn tl e x nm := k.mono (new_sub hB f hn hs)
theorem expr_seq {tl : List (Addr × Obj)} {e m1 m2 : Addr} {nm : Str} (c : CompIn tl 394 e m1 m2 nm) (a : LitIn tl m1 "a" "") (b : LitIn tl m2 "" "empty") : ExprIn tl e .seq nm := ⟨m1, m2, c, a, b⟩
theorem expr_one {tl : List (Addr × Obj)} {e m1 m2 : Addr} {nm : Str} (c : CompIn tl 420 e m1 m2 nm) (a : LitIn tl m1 "a" "") (b : LitIn tl m2 "" "empty") : ExprIn tl e .one nm := ⟨m1, m2, c, a, b⟩
end
local macro_rules | `(tactic| walk_at "mine fresh") => `(tactic| (repeat' (first | exact Fresh.nil | (with_reducible assumption) | (refine Fresh.cons (by first | tbn_find | exact allLt_of (by assumption) | exact lt_up (by assumption) (by omega)) ?_) | (refine Fresh.app (Fresh.sub (by assumption) (fun q9 hq9 => by k_mem)) ?_))))
local macro_rules | `(tactic| walk_at "mine split") => `(tactic| (repeat' (first | exact Cut.nil | (refine Cut.cons (by first | tbn_find | exact allLt_of (by assumption) | (refine' allLt_sub ?a ?b; (case a => tbn_find); (case b => (intro q9 hq9; k_mem))) | (refine' lt_sub2 ?a ?b; (case a => assumption); (case b => (intro q9 hq9; k_mem))) | ((repeat refine lt_succ ?_); exact allLt_of (by assumption))) ?_) | (refine Cut.consO (off_ne (by assumption) (fun q9 hq9 => by k_mem)) ?_) | (refine Cut.app (by first | assumption | exact Fresh.sub (by assumption) (fun q9 hq9 => by k_mem)) ?_))))
local macro_rules | `(tactic| walk_at "mine above") => `(tactic| (first | tbn_find | exact allLt_of (by assumption) | (refine' allLt_sub ?a ?b; (case a => tbn_find); (case b => (intro q9 hq9; k_mem))) | (refine' lt_sub2 ?a ?b; (case a => assumption); (case b => (intro q9 hq9; k_mem))) | ((repeat refine lt_succ ?_); exact allLt_of (by assumption))))
local macro_rules | `(tactic| walk_at "mine room") => `(tactic| first | assumption | (simp only [depth_under_make, depth_under_kw, depth_in1, depth_deeper, depth_caller, units_in1, units_deeper, Around.mark_units, units_caller]; omega) | omega)
local macro_rules | `(tactic| walk_at "mine goes") => `(tactic| ((try (case F => k_asm)); (try (case X => k_asm)); (try (case N => k_asm)); (try (case T => k_asm)); (try (case hh => assumption)); (try (case hd => walk_at "mine room")); (try (case hu => walk_at "mine room"))))
local macro_rules | `(tactic| walk_at "call ref") => `(tactic| (k_here; k_dflt (first
  | (refine' num_call ?F ?X ?N ?T ?hl ?hi ?hlay ?hn ?hp ?hp2 ?hh ?hd ?hu ?_; walk_at "mine goes"; (case hl => assumption); (case hi => assumption); (case hlay => assumption); (case hn => assumption); (case hp => omega); (case hp2 => omega); intro t' h' tk' F' N'; (try k_fold))
  | (refine' lit_call ?F ?X ?N ?T ?hh ?hd ?hu ?_; walk_at "mine goes"; intro a' tl' h' tk' F' N' fr' R'; (try k_fold))
  | (refine' lit_call0 ?F ?X ?N ?T ?hh ?hd ?hu ?_; walk_at "mine goes"; intro a' tl' h' tk' F' N' fr' R'; (try k_fold))
  | (refine' seq_call ?F ?X ?N ?T ?hh ?hd ?hu ?_; walk_at "mine goes"; intro a' tl' h' tk' F' N' fr' R'; (try k_fold))
  | (refine' one_call ?F ?X ?N ?T ?hh ?hd ?hu ?_; walk_at "mine goes"; intro a' tl' h' tk' F' N' fr' R'; (try k_fold))
  | (refine' node_call4 ?F ?X ?N ?T ?hh ?hd ?hu ?_; walk_at "mine goes"; intro a' tl' h' tk' F' N' fr' at' R'; (try k_fold))
  | (refine' node_call5 ?F ?X ?N ?T ?hh ?hd ?hu ?hne ?hch ?hys ?_; walk_at "mine goes"; (case hch => k_mem); (case hne => assumption); (case hys => first | assumption | (simp only [List.length_cons, List.length_nil]; omega)); intro a' tl' h' tk' F' N' fr' at' R'; (try k_fold)))))
local macro_rules | `(tactic| walk_at "subscriptTail") => `(tactic| (k_here; (with_reducible show wpAny _ _ (subscriptTail _ _ (Value.ref _) (Value.int (Int.fmod _ 3) _)) _ _ _); k_dflt (refine' menu3 ?N ?m ?_ ?hs; (case N => k_asm); (case m => k_mem); (case hs => with_unfolding_all rfl); intro x' t' hx')))
local macro_rules | `(tactic| walk_at "subscriptTail Name") => `(tactic| (k_here; (with_reducible show wpAny _ _ (subscriptTail _ _ (Value.ref _) (Value.int 0 _)) _ _ _); k_dflt (refine' item_first ?N ?m ?_ ?hs; (case N => k_asm); (case m => k_mem); (case hs => with_unfolding_all rfl))))
local macro_rules | `(tactic| walk_at "subscriptTail Name") => `(tactic| (k_here; (with_reducible show wpAny _ _ (subscriptTail _ _ (Value.ref _) (Value.int _ _)) _ _ _); k_dflt (refine' ints_item ?N ?m ?hi ?h0 ?h1 ?hz ?_ ?hs; (case N => k_asm); (case m => k_mem); (case hi => with_reducible assumption); (case h0 => omega); (case h1 => ((simp only [List.length_append, List.length_cons, List.length_nil]); omega)); (case hz => ((simp only [List.length_append, List.length_cons, List.length_nil]); omega)); (case hs => with_unfolding_all rfl); intro x' t' hx')))
local macro_rules | `(tactic| walk_at "mine size") => `(tactic| ((simp only [Str.length_append, sizeLine_eq, ll1, ll2, ll3, ll4, ll5, ll6, ll7, ll8, ll9, ll10, ll11, ll12, ll13, ll14, ll15, ll16, ll17, ll18, ll19, ll20, ll21, ll22, ll23, ll24, ll25, ll26, ll27, ll28, ll29]); omega))
local macro_rules | `(tactic| walk_at "binaryOp Add str str") => `(tactic| (k_here; k_dflt (refine SBL.add ?_ (by walk_at "mine size"); intro t' k')))
local macro_rules | `(tactic| walk_at "mine stop") => `(tactic| first
  | (with_reducible show wpAny _ _ (exec (Stmt.Assign [_] (Expr.ListComp _ _ _ _) _) _) _ _ _)
  | (with_reducible show wpAny _ _ (eval (Expr.ListComp _ _ _ _) _) _ _ _)
  | (with_reducible show wpAny _ _ (call (Value.ref 434) _ _) _ _ _)
  | (with_reducible show wpAny _ _ (call (Value.ref 99) [_, _, _, _, _] _) _ _ _)
  | (with_reducible show wpAny _ _ (isTrue (Expr.BoolOp _ _ _) _ _) _ _ _)
  | (with_reducible show LCg.CompSrc _ _ _ _ _ _ _ _ _ _ _ _ _ _)
  | (with_reducible show LCg.CompEnd _ _ _ _ _ _ _ _ _ _ _ _ _ _)
  | (with_reducible show LCg.FinE _ _ _ _ _ _ _)
  | (with_reducible show LCg.FinA _ _ _ _ _ _ _ _)
  | (with_reducible show wpAny _ _ (call (Value.builtin "sorted") _ _) _ _ _)
  | (with_reducible show wpAny _ _ (binaryOp Operator.Add (Value.ref _) (Value.ref _)) _ _ _))
local macro_rules | `(tactic| walk_at "mine steps") => `(tactic| repeat' ((fail_if_success (walk_at "mine stop")); (first | (k_unfold; (try dsimp only)) | (k_end; wrow_close) | walk1 | (dsimp only; walk1) | (leave1; walk_say "STEP leave1"; try dsimp only) | fail "no step")))
local macro_rules | `(tactic| k_all) => `(tactic| (tbn_letter; refine tbn_neAll ?_; first | tbn_find | exact allLt_of (by assumption) | ((repeat refine lt_succ ?_); exact allLt_of (by assumption))))
local macro_rules | `(tactic| walk_at "call builtin:len") => `(tactic| (k_here; (with_reducible show wpAny _ _ (call (Value.builtin "len") [Value.ref _]) _ _ _); k_dflt (refine' len_ints_fit ?hl ?hi ?hf ?_; (case hl => exact News.isList (items := List.toArray _) (by k_asm) (by k_mem)); (case hi => with_reducible assumption); (case hf => (simp only [List.length_append, List.length_cons, List.length_nil]; omega)); (try simp only [List.length_append, List.length_cons, List.length_nil]))))
local macro_rules | `(tactic| walk_at "callWith ref") => `(tactic| (k_here; (with_reducible show wpAny _ _ (callWith _ (Value.ref _) _ (backTo _ (starEach [Expr.Starred _ _] _)) (backToKw _ (keywordEach (_ :: _) _))) _ _ _); k_dflt (refine' callWith_SKW ?k1 ?k2 ?k3 ?_; (case k1 => k_asm); (case k2 => k_is); (case k3 => exact rfl); k_whole)))
local macro_rules | `(tactic| walk_at "subscriptTail Name") => `(tactic| (k_here; (with_reducible show wpAny _ _ (subscriptTail _ _ (Value.ref _) (Value.int _ _)) _ _ _); k_dflt (refine' tup_item ?N ?hm ?ht ?h0 ?h1 ?hj ?hx ?_ ?hs; (case hm => with_reducible assumption); (case N => k_asm); (case ht => (intro q9 hq9; k_mem)); (case h0 => decide); (case h1 => decide); (case hj => exact rfl); (case hx => exact rfl); (case hs => with_unfolding_all rfl))))
local macro_rules | `(tactic| walk_at "mine lit") => `(tactic| (refine' lit_new (by assumption) ?k ?f ?hn ?hs; (case k => assumption); (case f => assumption); (case hn => (intro q9 hq9; k_mem)); (case hs => (intro q9 hq9; k_mem))))
local macro_rules | `(tactic| walk_at "assign Tuple") => `(tactic| (k_here; (with_reducible show wpAny _ _ (assign (Expr.Tuple _ _ _) _ (Value.ref _)) _ _ _); k_dflt (refine' unpackN_ ?k1 ?k2 ?k3 ?k4 ?k5 ?k6 ?_; (case k1 => k_asm); (case k2 => k_asm); (case k3 => exact News.isTup (by k_asm) (by k_mem)); (case k4 => first | exact rfl | assumption); (case k5 => exact rfl); (case k6 => exact rfl)); intro h' F' N'; (try k_sweep)))
local macro_rules | `(tactic| walk_at "getAttr ref") => `(tactic| (k_here; k_dflt (refine' get_propS ?k1 ?k2 ?k3 ?k4 ?k5 ?k6 ?k7 ?k8 ?k9 ?_; (case k1 => k_asm); (case k2 => k_asm); (case k3 => k_inst); (case k4 => k_is); (case k5 => k_is); (case k6 => k_is); (case k7 => k_is); (case k8 => k_is); (case k9 => k_is); k_whole; walk_at "mine enter")))
example : True := by
  w_top off
  trivial
section
/-- what _law_made answers, at the heights below n -/
def MadeCall (n : Nat) : Prop := ∀ {w : World} {A : Around} {s : Shared} {h₀ : Heap} {L l : Addr} {m mg mb : Str → Option Value} {news : List (Addr × Obj)} {p : Program} {loose : List Str} {mean : ExcName → Option Value}
    {vs : List Value} {ns : List Int} {pl st en : Int} {Tx : Str} {t1 t2 t3 t4 t5 : Tok} {Q E : Value → Shared → Prop}
    (F : Fr h₀ L s.heap m) (X : (hd.heap_39 w.params).In h₀) (N : News h₀ L s.heap news) (T : Top p loose mean mg mb h₀)
    (hl : h₀.IsList l vs.toArray) (hi : IntsAre vs ns) (hlay : (PyData.list (ns.map PyData.int)).layable0 = true) (hn : ns.length ≤ 63) (hp : 0 ≤ pl) (hp2 : pl ≤ bnd n)
    (hT : TextOk Tx) (h0 : 0 ≤ st) (h1 : st ≤ en) (h2 : en ≤ Tx.length)
    (hh : A.handled = none) (hd : A.depth + 20 * (n + 1) ≤ 900) (hu : A.units + 300 * (n + 1) ≤ 9000)
    (hQ : ∀ v d tl h' tk', Fr h₀ L h' m → News h₀ L h' (tl ++ news) → MadeOut news tl Tx (n + 1) v d → Q v { s with heap := h', toks := tk' }),
    wpAny (model PySem.Challenge.rw_vy0010_01.row.prog w) A (call (.ref 434) [.ref l, .int pl t1, .str Tx t2, .int st t3, .int en t4, .int n t5]) Q E s
theorem made_step (n : Nat) (hn2 : n ≤ 2) (IH : ∀ k, n = k + 1 → MadeCall k) : MadeCall n := by
  intro w A s h₀ L l m mg mb news p loose mean vs ns pl st en Tx t1 t2 t3 t4 t5 Q E F X N T hl hi hlay hn hp hp2 hT h0 h1 h2 hh hd hu hQ
  revert X; k_fill; intro X
  have hpb : pl ≤ 100 := by unfold bnd at hp2; split at hp2 <;> omega
  have hTl := hT.1
  refine wpAny_call ?_
  k_dflt walk_at "mine enterC"
  walk_at "mine steps"
  have nameOk := nameOk_menu hp hpb (by assumption)
  refine via_bool (fun b => b = false → n ≠ 0) ?_ ?_
  · intro Q' hQ'
    k_steps
    all_goals (first | exact hQ' _ _ (fun e => Bool.noConfusion e) | (rename ((n : Int) ≠ 0) => hz; exact hQ' _ _ fun _ e => hz (by rw [e]; rfl)))
  intro b tk hb
  cases b
  · dsimp only
    have hn0 := hb rfl
    obtain ⟨n', hn'⟩ : ∃ k, n = k + 1 := ⟨n - 1, by omega⟩
    have IH' : MadeCall n' := IH n' hn'
    have hbn : 4 * pl + 4 ≤ bnd n' + 1 := by
      subst hn'
      have hx : n' = 0 ∨ n' = 1 := by omega
      rcases hx with rfl | rfl <;> simp only [bnd] at hp2 ⊢ <;> omega
    walk_at "mine steps"
    refine LCg.ListComp_U (F₀ := by k_asm) (by with_unfolding_all rfl) (by decide) (by rfl) (by decide) (by rfl) ?_
    walk_at "mine steps"
    have hf3 := fmod3 (Int.fdiv (num ns pl) 12)
    refine LCg.CompSrc.range (by exact hh) (by k_asm) (by k_asm) (by assumption) (small_to hf3.1 (by omega)) size_to (by rw [sizeLine_eq]; omega) ?_
    intro g9
    refine rest_inv (CutsInv st en _) ?_ ?_ _ 0 [] _ (Nat.zero_add _) ⟨rfl, [], .nil, rfl, fun _ h => nomatch h⟩
    · intro i ys nw v I oI C oC D m₂ h tk E' hi9 hv hI hoC hx9 F9 N9 off9 ne9
      obtain ⟨t9, rfl⟩ := hv
      obtain ⟨rfl, hI'⟩ := id hI
      walk_at "mine steps"
      refine LCg.CompEnd.intro (by assumption) (by assumption) _ (fun p hp => hp) off9 trivial ?_
      exact hI.step h1
    · intro ys nw hI
      obtain ⟨rfl, is, his, hlen, hbd⟩ := hI
      unfold LCg.FinE
      intro D9 h9 tk9 F9 N9 off9
      walk_at "mine steps"
      refine kso_sorted (by k_asm) N9 (N9.isList (items := ys.toArray) (List.Mem.head _)) his (by omega) ?_
      intro D8 vs8 ns8 c8 h8 F8 N8 l8 hi8 hl8 hp8 ho8 _
      walk_at "mine steps"
      refine kmk_add_ints (by k_asm) (by k_asm) (News.isList (items := [_].toArray) (by k_asm) (by k_mem)) (News.isList (items := vs8.toArray) (by k_asm) (by k_mem)) (.cons st _ .nil) hi8 ?_ (by rw [sizeLine_eq]; simp only [List.length_cons, List.length_nil]; omega)
      intro D7 us7 h7 F7 N7 l7 hi7
      walk_at "mine steps"
      refine kmk_add_ints (by k_asm) (by k_asm) (News.isList (items := us7.toArray) (by k_asm) (by k_mem)) (News.isList (items := [_].toArray) (by k_asm) (by k_mem)) hi7 (.cons en _ .nil) ?_ (by rw [sizeLine_eq]; simp only [List.length_append, List.length_cons, List.length_nil]; omega)
      intro D6 us6 h6 F6 N6 l6 hi6
      have o9 := off9
      simp only [LCg.Off1] at o9
      k_lt l8
      k_lt l7
      k_lt l6
      walk_at "mine steps"
      refine LCg.Assign_ListComp_U (F₀ := by k_asm) (by rfl) (by with_unfolding_all rfl) (by with_unfolding_all rfl) (by decide) (by rfl) (by decide) (by rfl) (by rfl) (by rfl) ?_
      walk_at "mine steps"
      refine LCg.CompSrc.range (n := ns8.length + 1) (by exact hh) (by k_asm) (by k_asm) (by assumption) (small_to (by omega) (by omega)) (by rw [size_to]; omega) (by rw [sizeLine_eq]; omega) ?_
      intro g9
      refine rest_inv (PartsInv _ Tx n) ?_ ?_ _ 0 [] _ (Nat.zero_add _) PartsInv.nil
      · intro i ys nw v I oI C oC D m₂ h tk E' hi9 hv hI hoC hx9 F9 N9 off9 ne9
        obtain ⟨t9, rfl⟩ := hv
        have hI9 := hI
        obtain ⟨tl9, ds9, rfl, fr9, hl9, hm9, hok9, hnd9, hh9⟩ := hI9
        walk_at "mine steps"
        have pa := places_at hp8 ho8 hbd h1 (show (0 + (i : Int) + 1).toNat = (0 + (i : Int)).toNat + 1 by omega) (by assumption) (by assumption)
        rw [show (n : Int) - 1 = (n' : Int) by omega]
        refine' IH' ?F ?X ?N ?T (by assumption) (by assumption) hlay hn (by omega) (by omega) hT (Int.le_trans h0 pa.1) pa.2.1 (Int.le_trans pa.2.2 h2) ?hh ?hd ?hu ?_
        walk_at "mine goes"
        intro v d tl1 h5 tk5 F5 N5 M5
        k_unfold
        dsimp only
        refine LCg.CompEnd.intro F5 N5 (tl1 ++ (tl9 ++ _)) swap3 (off3_app off9 M5.fresh) trivial ?_
        exact hI.step (fun q hq => List.mem_cons_of_mem _ (List.mem_cons_of_mem _ (List.mem_cons_of_mem _ hq))) (hn' ▸ M5)
      · intro ys nw hI
        obtain ⟨tl9, ds, rfl, fr9, hl9, hm9, hok9, hnd9, hh9⟩ := hI
        unfold LCg.FinA
        intro D5 h5 tk5 F5 N5 off5
        have hlenD : ds.length = ns8.length + 1 := hm9.length.symm.trans hl9
        walk_at "mine steps"
        all_goals (
          refine LCg.ListComp_U (F₀ := by k_asm) (by with_unfolding_all rfl) (by decide) (by rfl) (by decide) (by rfl) ?_
          walk_at "mine steps"
          refine LCg.CompSrc.ledger (by exact hh) (by k_asm) (by k_asm) (by k_mem) (by rw [sizeLine_eq, List.size_toArray]; omega) ?_
          intro g8
          refine rest_inv (FstInv _ ds) ?_ ?_ _ 0 [] _ (Nat.zero_add _) ⟨rfl, rfl⟩
          · intro i zs nw v I oI C oC D m₂ h tk E' hi9 hv hI hoC hx9 F9 N9 off9 ne9
            obtain ⟨d, hd9, b9, o9, rfl, hb9, hn9, ho9⟩ := hm9.get (show ys[i]? = some v by simpa using hv)
            obtain ⟨rfl, hI'⟩ := id hI
            walk_at "mine steps"
            refine LCg.CompEnd.intro (by assumption) (by assumption) _ (fun p hp => hp) off9 (.inr ⟨_, by k_mem, rfl, _, rfl⟩) ?_
            exact hI.step hd9
          · intro zs nw hI
            obtain ⟨rfl, hzs⟩ := hI
            rw [List.take_of_length_le (by rw [List.size_toArray]; omega)] at hzs
            subst hzs
            unfold LCg.FinE
            intro D4 h4 tk4 F4 N4 off4
            walk_at "mine steps"
            refine' node_call5 ?F ?X ?N ?T ?hh ?hd ?hu ?hne ?hch ?hys ?_
            walk_at "mine goes"
            case hch => k_mem
            case hne => intro e; rw [List.map_eq_nil_iff] at e; rw [e] at hlenD; exact absurd hlenD (by simp)
            case hys => rw [List.length_map]; omega
            intro a3 tl3 h3 tk3 F3 N3 fr3 at3 R3
            walk_at "mine steps"
            refine LCg.ListComp_U (F₀ := by k_asm) (by with_unfolding_all rfl) (by decide) (by rfl) (by decide) (by rfl) ?_
            walk_at "mine steps"
            refine LCg.CompSrc.ledger (its := ys.toArray) (by exact hh) (by k_asm) (by k_asm) (by k_mem) (by rw [sizeLine_eq, List.size_toArray]; omega) ?_
            intro g7
            refine rest_inv (SndInv _ tl9 n ds) ?_ ?_ _ 0 [] _ (Nat.zero_add _) ⟨rfl, .nil⟩
            · intro i zs nw v I oI C oC D m₂ h tk E' hi9 hv hI hoC hx9 F9 N9 off9 ne9
              obtain ⟨d, hd9, b9, o9, rfl, hb9, hn9, ho9⟩ := hm9.get (show ys[i]? = some v by simpa using hv)
              obtain ⟨rfl, hI'⟩ := id hI
              walk_at "mine steps"
              refine LCg.CompEnd.intro (by assumption) (by assumption) _ (fun p hp => hp) off9 (.inr ⟨_, by k_mem, rfl, _, rfl⟩) ?_
              exact hI.step hd9 ho9
            · intro ps nw hI
              obtain ⟨rfl, hps⟩ := hI
              rw [List.take_of_length_le (by rw [List.size_toArray]; omega)] at hps
              unfold LCg.FinE
              intro D2 h2' tk2 F2 N2 off2
              walk_at "mine steps"
              rename CompIn _ _ _ _ _ _ => rC
              rename News _ _ _ _ => kN
              rename Fr _ _ _ _ => kF
              obtain ⟨tl, hB, hs⟩ := Cut.of (news := news) kN (by walk_at "mine split")
              have kN' := kN
              rw [hB] at kN'
              refine' hQ _ _ tl _ _ kF kN' (rest_out hs (new_mem hB (by k_mem) (by walk_at "mine above")) ?m1 (new_memO hB (q := (D2, LCg.lst ps)) (by k_mem) (off_ne off2 (fun q9 hq9 => by k_mem)))
                (R3.mono (new_sub hB fr3 (fun q hq => by k_mem) (fun q hq => by k_mem))) (new_memO hB (q := (D4, LCg.lst _)) (by k_mem) (off_ne off4 (fun q9 hq9 => by k_mem))) ?rL ?hk
                (new_sub hB fr9 (fun q hq => by k_mem) (fun q hq => by k_mem)) hm9 hps hok9 hnd9 hh9 (by omega) (hat_of fr3 at3 (fun q9 hq9 => by k_mem)) nameOk h0 h1 h2)
              case rL => first
                | exact expr_seq (rC.mono (new_sub hB (by assumption) (fun q hq => by k_mem) (fun q hq => by k_mem))) (by walk_at "mine lit") (by walk_at "mine lit")
                | exact expr_one (rC.mono (new_sub hB (by assumption) (fun q hq => by k_mem) (fun q hq => by k_mem))) (by walk_at "mine lit") (by walk_at "mine lit")
              case hk => intro e; rw [e] at hlenD; exact absurd hlenD (by simp)
              case m1 => exact new_mem hB (by k_mem) (by walk_at "mine above"))
  · dsimp only
    walk_at "mine steps"
    rename NodeObj _ _ _ _ _ _ _ => rN
    rename LitIn _ _ _ _ => rL
    rename News _ _ _ _ => kN
    rename Fr _ _ _ _ => kF
    obtain ⟨tl, hB, hs⟩ := Cut.of (news := news) kN (by walk_at "mine split")
    have kN' := kN
    rw [hB] at kN'
    exact hQ _ _ tl _ _ kF kN' (leaf_out (B := []) hs (new_mem hB (by k_mem) (by walk_at "mine above")) (new_mem hB (by k_mem) (by walk_at "mine above")) (new_mem hB (by k_mem) (by walk_at "mine above")) (rN.mono (new_sub hB (by assumption) (fun q hq => by k_mem) (fun q hq => by k_mem))) (rL.mono (new_sub hB (by assumption) (fun q hq => by k_mem) (fun q hq => by k_mem))) nameOk h0 h1 h2)
theorem made_call : ∀ n, n ≤ 2 → MadeCall n
  | 0, h => made_step 0 h fun k e => by omega
  | n + 1, h => made_step (n + 1) h fun k e => by
      obtain rfl : n = k := by omega
      exact made_call n (by omega)
end
example : True := by
  w_top off
  trivial
section
theorem sub_cons {t B : List (Addr × Obj)} {a : Addr × Obj} (h : ∀ q ∈ t, q ∈ B) : ∀ q ∈ t, q ∈ a :: B := fun q hq => List.mem_cons_of_mem _ (h q hq)
theorem sub_app {t B C : List (Addr × Obj)} (h : ∀ q ∈ t, q ∈ B) : ∀ q ∈ t, q ∈ C ++ B := fun q hq => List.mem_append_right _ (h q hq)
theorem expr_name_get {w : World} {A : Around} {s : Shared} {h₀ : Heap} {L e : Addr} {m mg mb : Str → Option Value} {news t : List (Addr × Obj)} {p : Program} {loose : List Str} {mean : ExcName → Option Value} {kd : Kd} {nm : Str} {b : Bool} {Q E : Value → Shared → Prop}
    (F : Fr h₀ L s.heap m) (X : (hd.heap_39 w.params).In h₀) (N : News h₀ L s.heap news) (T : Top p loose mean mg mb h₀) (hE : ExprIn t e kd nm) (ht : ∀ q ∈ t, q ∈ news)
    (hQ : ∀ u, Q (.str nm u) { s with toks := s.toks + 1 }) :
    wpAny (model PySem.Challenge.rw_vy0010_01.row.prog w) A (getAttr (.ref e) "name" b) Q E s := by
  revert X; k_fill; intro X
  cases kd with
  | lit x =>
    obtain ⟨d, it, t1, t2, a1, a2⟩ := hE
    have b1 := ht _ a1
    have b2 := ht _ a2
    walk1
    exact hQ _
  | seq =>
    obtain ⟨m1, m2, ⟨d, it, mm, t1, a1, a2, a3⟩, _, _⟩ := hE
    have b1 := ht _ a1
    have b2 := ht _ a2
    walk1
    exact hQ _
  | one =>
    obtain ⟨m1, m2, ⟨d, it, mm, t1, a1, a2, a3⟩, _, _⟩ := hE
    have b1 := ht _ a1
    have b2 := ht _ a2
    walk1
    exact hQ _
theorem slice_mem {x : Str} {l u : Option Int} : ∀ c ∈ (Txt.slice x l u).cps.toList, c ∈ x.cps.toList := fun c hc => by
  unfold Txt.slice at hc
  split at hc
  · exact hc
  · simp only [List.mem_filterMap] at hc
    obtain ⟨i, _, hi⟩ := hc
    exact Array.mem_toList_iff.mpr (Array.mem_of_getElem? hi)
theorem sub_ok {T : Str} {st en : Int} (h : TextOk T) : TextOk (sub T st en) := ⟨Nat.le_trans (Txt.slice_le _ _ _) h.1, fun c hc => h.2 c (slice_mem c hc)⟩
theorem strOk_of {x : Str} (h : ∀ c ∈ x.cps.toList, c < 1114112) : PyData.strOk x = true := by
  unfold PyData.strOk
  rw [Array.all_eq_true_iff_forall_mem]
  exact fun c hc => decide_eq_true (h c (Array.mem_toList_iff.mpr hc))
theorem text_strOk {T : Str} (h : TextOk T) : PyData.strOk T = true := strOk_of fun c hc => by rcases h.2 c hc with e | e <;> omega
theorem name_strOk {T : Str} (h : NameOk T) : PyData.strOk T = true := strOk_of fun c hc => by have := h.2 c hc; omega
local macro_rules | `(tactic| walk_at "call builtin:iter") => `(tactic| (k_here; (with_reducible show wpAny _ _ (call (Value.builtin "iter") [Value.ref _]) _ _ _); k_dflt (refine' iter_list ?F ?N ?hc ?_; (case F => k_asm); (case N => k_asm); (case hc => k_mem)); intro J' h' F' N' l1))
theorem node_iter {w : World} {A : Around} {s : Shared} {h₀ : Heap} {L a d c e : Addr} {m mg mb : Str → Option Value} {news : List (Addr × Obj)} {p : Program} {loose : List Str} {mean : ExcName → Option Value}
    {Tx : Str} {st en : Int} {t1 t2 t3 : Tok} {n : Nat} {ys : List Value} {Q E : Value → Shared → Prop}
    (F : Fr h₀ L s.heap m) (X : (hd.heap_39 w.params).In h₀) (N : News h₀ L s.heap news) (T : Top p loose mean mg mb h₀)
    (ha : (a, (⟨.ref 99, some d, .plain, #[some (.ref c), some (.int en t3), some (.ref e), some (.str Tx t1), some (.int st t2)]⟩ : Obj)) ∈ news) (hd' : (d, dictOf [] 0) ∈ news) (hc : (c, W.listOf ys.toArray n) ∈ news)
    (hh : A.handled = none) (hd : A.depth + 10 ≤ 900) (hu : A.units + 100 ≤ 9000)
    (hQ : ∀ J h' tk', Fr h₀ L h' m → News h₀ L h' ((J, iterO c) :: news) → (∀ q ∈ news, q.1 < J) → Q (.ref J) { s with heap := h', toks := tk' }) :
    wpAny (model PySem.Challenge.rw_vy0010_01.row.prog w) A (call (.ref 52) [.ref a]) Q E s := by
  revert X; k_fill; intro X
  refine wpAny_call ?_
  walk_at "mine enter"
  k_steps
  exact hQ _ _ _ (by assumption) (by assumption) (by assumption)
/-- a comprehension with a test that always fails, by an invariant -/
theorem rest_none {prog : Program} {w : World} {A : Around} {s : Shared} {h₀ : Heap} {L : Addr} {m : Str → Option Value} {env : Env} {ct elt : Expr} {x : Str} {scope : Scope} {cl : List (Str × Addr)} {P : Nat → Value → Prop} {Fin : List Value → List (Addr × Obj) → Prop} {n : Nat} {nw : List (Addr × Obj)}
    (step : ∀ i v I oI C oC D m₂ h tk (E' : Value → Shared → Prop), i < n → P i v → LCg.NsObj oC m₂ → m₂ x = some v → Fr h₀ L h m → News h₀ L h ((I, oI) :: (C, oC) :: (D, LCg.lst []) :: nw) → LCg.Off3 I C D nw → ((@Ne Nat I C) ∧ (@Ne Nat I D) ∧ (@Ne Nat C D)) →
      wpAny (model prog w) A (isTrue ct (compEnvC scope cl C env) (eval ct (compEnvC scope cl C env))) (fun ok s' => ok = false ∧ ∃ h' tk', s' = { s with heap := h', toks := tk' } ∧ Fr h₀ L h' m ∧ News h₀ L h' ((I, oI) :: (C, oC) :: (D, LCg.lst []) :: nw)) E' { s with heap := h, toks := tk })
    (fin : Fin [] nw) : ∀ k i, i + k = n → LCt.CompRestT prog w A h₀ L m env ct elt x scope cl s (fun _ => True) P Fin k i [] nw
  | 0, i, e => .zero fin
  | k + 1, i, e => .succ fun v I oI C oC D m₂ h tk E' hP hC hx F N off ne =>
    wpAny_mono (step i v I oI C oC D m₂ h tk E' (by omega) hP hC hx F N off ne) (fun ok s' ⟨hok, h', tk', e', F', N'⟩ => by
      subst hok
      subst e'
      rw [if_neg Bool.false_ne_true]
      exact ⟨h', tk', nw, rfl, F', N', off, trivial, rest_none step fin k (i + 1) (by omega)⟩) fun _ _ x => x
end
local macro_rules | `(tactic| walk_at "mine sub") => `(tactic| (repeat' (first | assumption | exact fun q9 hq9 => hq9 | (refine sub_cons ?_) | (refine sub_app ?_))))
local macro_rules | `(tactic| walk_at "getAttr ref") => `(tactic| (k_here; (with_reducible show wpAny _ _ (getAttr (Value.ref _) (PySem.Str.ofString "name") _) _ _ _); k_dflt (refine' expr_name_get ?F ?X ?N ?T ?hE ?ht ?_; (case F => k_asm); (case X => k_asm); (case N => k_asm); (case T => k_asm); (case hE => assumption); (case ht => walk_at "mine sub"); intro u')))
local macro_rules | `(tactic| ke_room) => `(tactic| k_units)
local macro_rules | `(tactic| ke_shaped) => `(tactic| (simp [SeqAt.shaped, PyData.canLay0, PyData.canLayAll0, PyData.depth, PyData.depthAll, *]; done))
local macro_rules | `(tactic| walk_at "compareOp NotEq ref ref") => `(tactic| (k_here; (with_reducible show wpAny _ _ (compareOp CmpOp.NotEq (Value.ref _) (Value.ref _)) _ _ _); k_dflt (refine ne_dataH (by ke_read) (by ke_read) (by ke_shaped) (by ke_shaped) (by ke_room) ?_); ke_norm))
local macro_rules | `(tactic| walk_at "compareOp Eq ref ref") => `(tactic| (k_here; (with_reducible show wpAny _ _ (compareOp CmpOp.Eq (Value.ref _) (Value.ref _)) _ _ _); k_dflt (refine eq_dataH (by ke_read) (by ke_read) (by ke_shaped) (by ke_shaped) (by ke_room) ?_); ke_norm))
local macro_rules | `(tactic| walk_at "call builtin:len") => `(tactic| (k_here; (with_reducible show wpAny _ _ (call (Value.builtin "len") [Value.ref _]) _ _ _); k_dflt (refine' PyProof.Rows.len_list ?hl ?hf ?_; (case hl => exact News.isList (by k_asm) (by k_mem)); (case hf => ((simp only [List.size_toArray, List.length_map]); omega)); (try simp only [List.size_toArray, List.length_map]))))
local macro_rules | `(tactic| walk_at "mine stop") => `(tactic| first
  | (with_reducible show LCt.CompSrcT _ _ _ _ _ _ _ _ _ _ _ _ _ _ _)
  | (with_reducible show wpAny _ _ (call (Value.ref 451) _ _) _ _ _))
example : True := by
  w_top off
  trivial
section
def RightCall (n : Nat) : Prop := ∀ {w : World} {A : Around} {s : Shared} {h₀ : Heap} {L : Addr} {m mg mb : Str → Option Value} {news t : List (Addr × Obj)} {p : Program} {loose : List Str} {mean : ExcName → Option Value}
    {d : Nd} {v : Value} {Tx : Str} {t1 : Tok} {Q E : Value → Shared → Prop}
    (F : Fr h₀ L s.heap m) (X : (hd.heap_39 w.params).In h₀) (N : News h₀ L s.heap news) (T : Top p loose mean mg mb h₀)
    (hn : NodeIn t Tx n d) (ho : OwnIn t n v d) (hok : NdOk Tx n d) (ht : ∀ q ∈ t, q ∈ news) (hT : TextOk Tx)
    (hh : A.handled = none) (hd : A.depth + 20 * n ≤ 900) (hu : A.units + 300 * n ≤ 9000)
    (hQ : ∀ h' tk', Fr h₀ L h' m → News h₀ L h' news → Q (.bool true) { s with heap := h', toks := tk' }),
    wpAny (model PySem.Challenge.rw_vy0010_01.row.prog w) A (call (.ref 451) [.ref d.addr, v, .str Tx t1]) Q E s
theorem refs_item {prog : Program} {w : World} {A : Around} {E : Value → Shared → Prop} {s : Shared} {h₀ : Heap} {L : Addr} {news : List (Addr × Obj)} {value slice : Expr} {l : Addr} {us : List Value} {n i : Nat} {k : Int} {u : Tok} {x : Value} {Q : Value → Shared → Prop} (hx : us[i]? = some x) (N : News h₀ L s.heap news) (hm : (l, W.listOf us.toArray n) ∈ news)
    (hk : k = (i : Int)) (hi : i < 1000) (h : Q x s)
    (hs : subscripted slice false (.ref l) (.int k u) = operate [.ref l, .int k u] (getItem (.ref l) (.int k u))) : wpAny (model prog w) A (subscriptTail value slice (.ref l) (.int k u)) Q E s :=
  item_listL N hm (by omega) (by omega) (by rw [show k.toNat = i by omega]; simpa using hx) h hs
local macro_rules | `(tactic| walk_at "subscriptTail Name Name ref int") => `(tactic| (k_here; (with_reducible show wpAny _ _ (subscriptTail _ _ (Value.ref _) (Value.int _ _)) _ _ _); k_dflt (first
  | (refine' refs_item ?hx ?N ?m ?hk ?hi ?_ ?hs; (case N => k_asm); (case m => k_mem); (case hx => with_reducible assumption); (case hk => omega); (case hi => omega); (case hs => with_unfolding_all rfl)))))
theorem right_step (n : Nat) (hn2 : n ≤ 2) (IH : ∀ k, n = k + 1 → RightCall (k + 1)) : RightCall (n + 1) := by
  intro w A s h₀ L m mg mb news t p loose mean d v Tx t1 Q E F X N T hn ho hok ht hT hh hd hu hQ
  obtain ⟨a, kd, nm, st, en, kids⟩ := d
  obtain ⟨e, hN, hE, hK⟩ := hn
  obtain ⟨b, pl, u1, u2, u3, u4, m1, ps, rfl, ho1, ho2, ho3⟩ := ho
  obtain ⟨hnm, h0, h1, h2, hk3, hkd, hkok⟩ := hok
  obtain ⟨d1, c1, v1, v2, v3, n1, hN1, hN2, hN3⟩ := hN
  have hTl := hT.1
  have hpl := ho3.length
  have ok1 := text_strOk hT
  have ok2 := name_strOk hnm
  have ok3 := text_strOk (sub_ok (st := st) (en := en) hT)
  have ho1' := ht _ ho1
  have ho2' := ht _ ho2
  have hN1' := ht _ hN1
  have hN2' := ht _ hN2
  have hN3' := ht _ hN3
  revert X; k_fill; intro X
  show wpAny _ A (call (.ref 451) [.ref a, _, _] _) _ _ _
  refine wpAny_call ?_
  k_dflt walk_at "mine enterC"
  walk_at "mine steps"
  refine list_own (C := 99) (f := 52) (ox := _) (od := some (dictOf [] 0)) (by exact hh) (by k_asm) (by k_asm) (by k_asm) (fun h N' => InstAt.of_news N' (by k_mem) (by k_mem)) (by k_mem) (by k_is) (by k_is) (by k_is) (by k_is) ?_
  intro S c₀ h₁ F₁ N₁ l₁
  dsimp only
  refine' node_iter ?F ?X ?N ?T ?ha ?hd' ?hc ?hh ?hd ?hu ?_
  walk_at "mine goes"
  case ha => k_mem
  case hd' => k_mem
  case hc => k_mem
  intro J h₂ tk₂ F₂ N₂ l₂
  refine ⟨J, c1, _, _, c₀, rfl, F₂, N₂, Ne.symm (Nat.ne_of_lt (l₂ _ (.head _))), fun q hq => Nat.ne_of_lt (l₂ q (.tail _ hq)), by k_mem, by rw [sizeLine_eq, List.size_toArray, List.length_map]; omega, ?_⟩
  intro h₃ tk₃ c' F₃ N₃
  k_lt l₁
  walk_at "mine steps"
  · refine LCt.ListComp_T (F₀ := by k_asm) (by with_unfolding_all rfl) (by decide) (by rfl) (by decide) (by rfl) ?_
    walk_at "mine steps"
    refine LCt.CompSrcT.range (n := ps.length) (by exact hh) (by k_asm) (by k_asm) (by assumption) (small_to (by omega) (by omega)) (by rw [size_to]; omega) (by rw [sizeLine_eq]; omega) ?_
    intro g9
    refine rest_none ?_ ?_ _ 0 (Nat.zero_add _)
    · intro i v I oI C oC D m₂ h tk E' hi9 hv hC hx9 F9 N9 off9 ne9
      obtain ⟨t9, rfl⟩ := hv
      obtain ⟨v9, hv9⟩ : ∃ v, ps[i]? = some v := ⟨_, List.getElem?_eq_getElem hi9⟩
      obtain ⟨d9, hd9, ho9⟩ := ho3.get hv9
      have hm9 : (kids.map fun t => Value.ref t.addr)[i]? = some (.ref d9.addr) := by rw [List.getElem?_map, hd9]; rfl
      have hd9' := List.mem_of_getElem? hd9
      iterate 40 (first | (with_reducible show wpAny _ _ (call (Value.ref 451) _ _) _ _ _) | (fail_if_success (walk_at "mine stop")); (first | (k_unfold; (try dsimp only)) | (k_end; wrow_close) | walk1))
      obtain ⟨k9, rfl⟩ : ∃ k, n = k + 1 := by
        cases n with
        | zero => exact (hK d9 hd9').elim
        | succ k => exact ⟨k, rfl⟩
      refine' IH k9 rfl ?F ?X ?N ?T (hK d9 hd9') ho9 (hkok d9 hd9') ?ht hT ?hh ?hd ?hu ?_
      walk_at "mine goes"
      case ht => walk_at "mine sub"
      intro h8 tk8 F8 N8
      walk_at "mine steps"
      all_goals with_reducible assumption
    · intro D8 h8 tk8 F8 N8 off8
      dsimp only
      walk_at "mine steps"
      exact hQ _ _ (by with_reducible assumption) fun q9 hq9 => (by assumption : News h₀ L _ (_ :: _)) q9 (by k_mem)
  · exfalso; omega
theorem right_call : ∀ n, n ≤ 2 → RightCall (n + 1)
  | 0, h => right_step 0 h fun k e => by omega
  | n + 1, h => right_step (n + 1) h fun k e => by
    obtain rfl : n = k := by omega
    exact right_call n (by omega)
end
example : True := by
  w_top off
  trivial
section
theorem kid_at {kids : List Nd} {i : Nat} {v : Value} (h : ((kids.map fun t => Value.ref t.addr).toArray)[i]? = some v) : ∃ d, kids[i]? = some d ∧ v = .ref d.addr := by
  rw [List.getElem?_toArray, List.getElem?_map] at h
  cases hq : kids[i]? with
  | none => rw [hq] at h; cases h
  | some d => rw [hq] at h; exact ⟨d, rfl, (Option.some.inj h).symm⟩
theorem nodeIn_obj {t : List (Addr × Obj)} {Tx : Str} : ∀ {n : Nat} {d : Nd}, NodeIn t Tx n d → ∃ d1 c e v1 v2 v3 st en, (d.addr, (⟨.ref 99, some d1, .plain, #[some (.ref c), some (.int en v3), some (.ref e), some (.str Tx v1), some (.int st v2)]⟩ : Obj)) ∈ t ∧ (d1, dictOf [] 0) ∈ t
  | 0, _, h => h.elim
  | n + 1, .mk a k nm st en kids, ⟨e, ⟨d1, c1, v1, v2, v3, n1, h1, h2, _⟩, _, _⟩ => ⟨d1, c1, e, v1, v2, v3, st, en, h1, h2⟩
theorem nodeIn_pos {t : List (Addr × Obj)} {Tx : Str} {n : Nat} {d : Nd} (h : NodeIn t Tx n d) : 0 < n := by
  rcases Nat.eq_zero_or_pos n with e | e
  · rw [e] at h; exact h.elim
  · exact e
end
example : True := by
  w_top off
  trivial
section
def calledT (nm : Str) : Str := if nm = "" then ("" : Str) else " called \"" ++ nm ++ "\""
def errV : Option Addr → Value
  | none => .none
  | some b => .ref b
def markT (b : Bool) : Str := if b then "  <-- *** We were here. ***" else ""
theorem ll31 : (Str.ofString "Node").length = 4 := by decide +kernel
theorem ll32 : (Str.ofString "<").length = 1 := by decide +kernel
theorem ll33 : (Str.ofString "    ").length = 4 := by decide +kernel
theorem ll34 : (Str.ofString "\n").length = 1 := by decide +kernel
def indentT (x : Str) : Str := Txt.join "\n" ((Txt.lines x).map fun y => Str.ofString "    " ++ y)
def headT (nm x : Str) (b : Bool) : Str := Str.empty ++ "<" ++ "Node" ++ calledT nm ++ " matching \"" ++ x ++ "\">" ++ markT b
def pretty (Tx : Str) : Nat → Nd → Option Addr → Str
  | 0, _, _ => ""
  | n + 1, .mk a k nm st en kids, err => Txt.join "\n" (headT nm (sub Tx st en) (err == some a) :: kids.map fun d => indentT (pretty Tx n d err))
def ind (y : Str) : Str := Str.ofString "    " ++ y
def pL (Tx : Str) : Nat → Nd → Option Addr → List Str
  | 0, _, _ => []
  | n + 1, .mk a k nm st en kids, err => headT nm (sub Tx st en) (err == some a) :: kids.flatMap fun d => (pL Tx n d err).map ind
/-- signs that end no line -/
def Plain (x : Str) : Prop := ∀ c ∈ x.cps.toList, 32 ≤ c ∧ c ≤ 126
theorem Plain.app {a b : Str} (h : Plain a) (k : Plain b) : Plain (a ++ b) := fun c hc => by
  rw [Str.cps_append, Array.toList_append] at hc
  rcases List.mem_append.mp hc with hc | hc
  · exact h c hc
  · exact k c hc
theorem plain_break {c : Nat} (h : 32 ≤ c ∧ c ≤ 126) : Unicode.isLineBreak c = false := by
  have : ∀ c : Fin 127, 32 ≤ c.val → Unicode.isLineBreak c.val = false := by decide +kernel
  exact this ⟨c, by omega⟩ h.1
theorem Plain.lit {x : Str} (h : (x.cps.toList.all fun c => decide (32 ≤ c ∧ c ≤ 126)) = true) : Plain x := fun c hc => by
  have := List.all_eq_true.mp h c hc
  simpa using this
theorem plain_name {nm : Str} (h : NameOk nm) : Plain nm := fun c hc => by have := h.2 c hc; omega
theorem plain_text {x : Str} (h : TextOk x) : Plain x := fun c hc => by have := h.2 c hc; omega
theorem plain_called {nm : Str} (h : NameOk nm) : Plain (calledT nm) := by
  unfold calledT
  split
  · exact .lit (by decide +kernel)
  · exact ((Plain.lit (by decide +kernel)).app (plain_name h)).app (.lit (by decide +kernel))
theorem plain_mark (b : Bool) : Plain (markT b) := by
  unfold markT
  split
  · exact .lit (by decide +kernel)
  · exact .lit (by decide +kernel)
theorem plain_head {nm x : Str} {b : Bool} (h : NameOk nm) (k : TextOk x) : Plain (headT nm x b) :=
  (((((((Plain.lit (by decide +kernel)).app (.lit (by decide +kernel))).app (.lit (by decide +kernel))).app (plain_called h)).app (.lit (by decide +kernel))).app (plain_text k)).app (.lit (by decide +kernel))).app (plain_mark b)
theorem called_len {nm : Str} (h : NameOk nm) : (calledT nm).length ≤ 50 := by
  have := h.1
  unfold calledT
  split
  · rw [ll3]; omega
  · rw [Str.length_append, Str.length_append, ll6, ll7]; omega
theorem mark_len (b : Bool) : (markT b).length ≤ 30 := by
  unfold markT
  split
  · rw [ll10]; omega
  · rw [ll3]; omega
theorem empty_len : Str.empty.length = 0 := by decide +kernel
theorem head_len {nm x : Str} {b : Bool} (h : NameOk nm) (k : TextOk x) : 1 ≤ (headT nm x b).length ∧ (headT nm x b).length ≤ 120 := by
  have h1 := called_len h
  have h2 := mark_len b
  have h3 := k.1
  unfold headT
  simp only [Str.length_append, ll31, ll32, ll8, ll9, empty_len]
  omega
theorem pL_ne {Tx : Str} {n : Nat} {d : Nd} {err : Option Addr} (h : NdOk Tx n d) : pL Tx n d err ≠ [] := by
  cases n with
  | zero => exact h.elim
  | succ n => obtain ⟨a, k, nm, st, en, kids⟩ := d; unfold pL; nofun
theorem pL_line {Tx : Str} (hT : TextOk Tx) {err : Option Addr} : ∀ {n : Nat} {d : Nd}, NdOk Tx n d → ∀ y ∈ pL Tx n d err, Plain y ∧ 1 ≤ y.length ∧ y.length ≤ 120 + 4 * n
  | 0, _, h, _, _ => h.elim
  | n + 1, .mk a k nm st en kids, h, y, hy => by
    obtain ⟨hnm, h0, h1, h2, hk3, hkd, hk⟩ := h
    unfold pL at hy
    rcases List.mem_cons.mp hy with rfl | hy
    · have := head_len (b := err == some a) hnm (sub_ok (st := st) (en := en) hT)
      exact ⟨plain_head hnm (sub_ok hT), this.1, by omega⟩
    · obtain ⟨d, hd, hy⟩ := List.mem_flatMap.mp hy
      obtain ⟨z, hz, rfl⟩ := List.mem_map.mp hy
      have ih := pL_line hT (hk d hd) z hz
      refine ⟨(Plain.lit (by decide +kernel)).app ih.1, ?_, ?_⟩
      · unfold ind; rw [Str.length_append, ll33]; omega
      · unfold ind; rw [Str.length_append, ll33]; omega
theorem flat_len {α β : Type} (f : α → List β) (B : Nat) : ∀ {l : List α}, (∀ x ∈ l, (f x).length ≤ B) → (l.flatMap f).length ≤ l.length * B
  | [], _ => by simp
  | x :: r, h => by
    have h1 := h x (.head _)
    have h2 := flat_len f B (l := r) fun y hy => h y (.tail _ hy)
    simp only [List.flatMap_cons, List.length_append, List.length_cons, Nat.add_mul, Nat.one_mul]
    omega
theorem pL_len {Tx : Str} {err : Option Addr} : ∀ {n : Nat} {d : Nd}, NdOk Tx n d → (pL Tx n d err).length ≤ 4 ^ n
  | 0, _, h => h.elim
  | n + 1, .mk a k nm st en kids, h => by
    obtain ⟨hnm, h0, h1, h2, hk3, hkd, hk⟩ := h
    unfold pL
    have := flat_len (fun d => (pL Tx n d err).map ind) (4 ^ n) (l := kids) fun d hd => by rw [List.length_map]; exact pL_len (hk d hd)
    have e : 4 ^ (n + 1) = 4 ^ n * 4 := Nat.pow_succ ..
    have p : 0 < 4 ^ n := Nat.pow_pos (by decide)
    have q : kids.length * 4 ^ n ≤ 3 * 4 ^ n := Nat.mul_le_mul_right _ hk3
    rw [List.length_cons]
    omega
theorem lnOk {y : Str} (h : Plain y) (k : 1 ≤ y.length) : y.cps.toList ≠ [] ∧ ∀ c ∈ y.cps.toList, Unicode.isLineBreak c = false := by
  refine ⟨fun e => ?_, fun c hc => plain_break (h c hc)⟩
  have : y.length = y.cps.toList.length := by simp [Str.length]
  rw [e] at this
  simp at this
  omega
theorem pL_lines {Tx : Str} (hT : TextOk Tx) {err : Option Addr} {n : Nat} {d : Nd} (h : NdOk Tx n d) : Txt.lines (Txt.join "\n" (pL Tx n d err)) = pL Tx n d err :=
  lines_join _ (pL_ne h) fun y hy => lnOk (pL_line hT h y hy).1 (pL_line hT h y hy).2.1
theorem joinN_app : ∀ {xs ys : List (List Nat)}, xs ≠ [] → ys ≠ [] → joinN (xs ++ ys) = joinN xs ++ 10 :: joinN ys
  | [], _, h, _ => absurd rfl h
  | [x], [], _, h => absurd rfl h
  | [x], y :: r, _, _ => rfl
  | x :: z :: r, ys, _, h => by
    show x ++ 10 :: joinN ((z :: r) ++ ys) = (x ++ 10 :: joinN (z :: r)) ++ 10 :: joinN ys
    rw [joinN_app (xs := z :: r) nofun h]
    simp
theorem joinN_splice {g X : List (List Nat)} (h : g ≠ []) : ∀ {pre : List (List Nat)}, joinN (pre ++ (joinN g :: X)) = joinN (pre ++ (g ++ X)) := by
  have base : joinN (joinN g :: X) = joinN (g ++ X) := by
    cases X with
    | nil => simp [joinN]
    | cons x r => rw [joinN_app h (List.cons_ne_nil x r)]; rfl
  intro pre
  cases pre with
  | nil => exact base
  | cons p r =>
    rw [joinN_app (List.cons_ne_nil p r) (List.cons_ne_nil _ X), joinN_app (List.cons_ne_nil p r) (by cases g with | nil => exact absurd rfl h | cons _ _ => exact List.cons_ne_nil _ _), base]
theorem joinN_flat {α : Type} {g : α → List (List Nat)} : ∀ {ds : List α}, (∀ d ∈ ds, g d ≠ []) → ∀ pre : List (List Nat), joinN (pre ++ ds.map fun d => joinN (g d)) = joinN (pre ++ ds.flatMap g)
  | [], _, _ => rfl
  | d :: r, h, pre => by
    have ih := joinN_flat (ds := r) (fun d hd => h d (.tail _ hd)) (pre ++ [joinN (g d)])
    simp only [List.map_cons, List.flatMap_cons]
    simp only [List.append_assoc, List.singleton_append] at ih
    rw [ih, joinN_splice (h d (.head _))]
theorem str_inj {a b : Str} (h : a.cps.toList = b.cps.toList) : a = b := by
  obtain ⟨x⟩ := a
  obtain ⟨y⟩ := b
  have : x = y := Array.toList_inj.mp h
  rw [this]
theorem join_flat {α : Type} {g : α → List Str} {ds : List α} (h : ∀ d ∈ ds, g d ≠ []) (x : Str) : Txt.join "\n" (x :: ds.map fun d => Txt.join "\n" (g d)) = Txt.join "\n" (x :: ds.flatMap g) := by
  apply str_inj
  simp only [txt_join]
  rw [join_joinN, join_joinN]
  have := joinN_flat (g := fun d => (g d).map (·.cps.toList)) (ds := ds) (fun d hd e => h d hd (List.map_eq_nil_iff.mp e)) [x.cps.toList]
  simp only [List.map_cons, List.map_map, List.map_flatMap]
  have e : (Function.comp (fun y : Str => y.cps.toList) fun d => Str.join "\n" (g d)) = fun d => joinN ((g d).map (·.cps.toList)) := by
    funext d; exact join_joinN (g d)
  rw [e]
  exact this
theorem indent_join {ls : List Str} (hne : ls ≠ []) (h : ∀ y ∈ ls, Plain y ∧ 1 ≤ y.length) : indentT (Txt.join "\n" ls) = Txt.join "\n" (ls.map ind) := by
  unfold indentT
  rw [lines_join ls hne fun y hy => lnOk (h y hy).1 (h y hy).2]
  rfl
theorem pretty_eq {Tx : Str} (hT : TextOk Tx) {err : Option Addr} : ∀ {n : Nat} {d : Nd}, NdOk Tx n d → pretty Tx n d err = Txt.join "\n" (pL Tx n d err)
  | 0, _, h => h.elim
  | n + 1, .mk a k nm st en kids, h => by
    obtain ⟨hnm, h0, h1, h2, hk3, hkd, hk⟩ := h
    unfold pretty pL
    rw [← join_flat (fun d hd e => pL_ne (hk d hd) (List.map_eq_nil_iff.mp e))]
    congr 2
    apply List.map_congr_left
    intro d hd
    rw [pretty_eq hT (hk d hd), indent_join (pL_ne (hk d hd)) fun y hy => ⟨(pL_line hT (hk d hd) y hy).1, (pL_line hT (hk d hd) y hy).2.1⟩]
theorem sum_len {B : Nat} {ls : List Str} (h : ∀ y ∈ ls, y.length ≤ B) : (ls.map (·.length)).sum ≤ ls.length * B := sum_le _ B h
theorem join_bound {ls : List Str} {B C : Nat} (h : ∀ y ∈ ls, y.length ≤ B) (k : ls.length ≤ C) : (Txt.join "\n" ls).length ≤ C * (B + 1) := by
  have h1 := txt_join_len "\n" ls
  have h2 := sum_len h
  rw [ll34] at h1
  have h3 : ls.length * (B + 1) ≤ C * (B + 1) := Nat.mul_le_mul_right _ k
  rw [Nat.mul_add] at h3
  rw [Nat.mul_add] at h3
  rw [Nat.mul_add]
  omega
theorem pretty_len {Tx : Str} (hT : TextOk Tx) {err : Option Addr} {n : Nat} {d : Nd} (h : NdOk Tx n d) (hn : n ≤ 3) : (pretty Tx n d err).length ≤ 8512 := by
  rw [pretty_eq hT h]
  have hl := pL_len (err := err) h
  have h4 : 4 ^ n ≤ 4 ^ 3 := Nat.pow_le_pow_right (by decide) hn
  exact join_bound (B := 132) (C := 64) (fun y hy => by have := (pL_line hT h y hy).2.2; omega) (by omega)
theorem indent_len {Tx : Str} (hT : TextOk Tx) {err : Option Addr} {n : Nat} {d : Nd} (h : NdOk Tx n d) (hn : n ≤ 3) : (indentT (pretty Tx n d err)).length ≤ 8768 := by
  rw [pretty_eq hT h, indent_join (pL_ne h) fun y hy => ⟨(pL_line hT h y hy).1, (pL_line hT h y hy).2.1⟩]
  have hl := pL_len (err := err) h
  have h4 : 4 ^ n ≤ 4 ^ 3 := Nat.pow_le_pow_right (by decide) hn
  refine join_bound (B := 136) (C := 64) (fun y hy => ?_) (by rw [List.length_map]; omega)
  obtain ⟨z, hz, rfl⟩ := List.mem_map.mp hy
  have := (pL_line hT h z hz).2.2
  unfold ind
  rw [Str.length_append, ll33]
  omega
/-- the sizes at the call of indent -/
theorem lines_size {Tx : Str} (hT : TextOk Tx) {err : Option Addr} {n : Nat} {d : Nd} (h : NdOk Tx n d) (hn : n ≤ 3) :
    JoinOk "\n" ((Txt.lines (pretty Tx n d err)).map fun y => Str.ofString "    " ++ y) = true ∧ (Txt.lines (pretty Tx n d err)).length ≤ 64 ∧ ∀ y ∈ Txt.lines (pretty Tx n d err), y.length ≤ 132 := by
  rw [pretty_eq hT h, pL_lines hT h]
  have hl := pL_len (err := err) h
  have h4 : 4 ^ n ≤ 4 ^ 3 := Nat.pow_le_pow_right (by decide) hn
  have hb : ∀ y ∈ pL Tx n d err, y.length ≤ 132 := fun y hy => by have := (pL_line hT h y hy).2.2; omega
  refine ⟨joinOk_of ?_, by omega, hb⟩
  have := sum_len (B := 136) (ls := (pL Tx n d err).map ind) fun y hy => by
    obtain ⟨z, hz, rfl⟩ := List.mem_map.mp hy
    have := hb z hz
    unfold ind
    rw [Str.length_append, ll33]
    omega
  rw [List.length_map] at this
  have e : (pL Tx n d err).map (fun y => Str.ofString "    " ++ y) = (pL Tx n d err).map ind := rfl
  have hll : (pL Tx n d err).length ≤ 64 := by omega
  rw [e, ll34, List.length_map]
  have : (pL Tx n d err).length * 136 ≤ 64 * 136 := Nat.mul_le_mul_right _ hll
  omega
/-- the sizes at the last join -/
theorem kids_size {Tx : Str} (hT : TextOk Tx) {err : Option Addr} {n : Nat} {kids : List Nd} {x : Str} (hk : ∀ d ∈ kids, NdOk Tx n d) (h3 : kids.length ≤ 3) (hn : n ≤ 3) (hx : x.length ≤ 120) :
    JoinOk "\n" (x :: kids.map fun d => indentT (pretty Tx n d err)) = true := by
  refine joinOk_of ?_
  have := sum_len (B := 8768) (ls := kids.map fun d => indentT (pretty Tx n d err)) fun y hy => by
    obtain ⟨d, hd, rfl⟩ := List.mem_map.mp hy
    exact indent_len hT (hk d hd) hn
  rw [List.length_map] at this
  have h5 : kids.length * 8768 ≤ 3 * 8768 := Nat.mul_le_mul_right _ h3
  simp only [List.map_cons, List.sum_cons, List.length_cons, List.length_map, ll34] at this ⊢
  omega
theorem kids_weight {Tx : Str} (hT : TextOk Tx) {err : Option Addr} {n : Nat} {kids : List Nd} {x : Str} (hk : ∀ d ∈ kids, NdOk Tx n d) (h3 : kids.length ≤ 3) (hn : n ≤ 3) (hx : x.length ≤ 120) :
    ((x :: kids.map fun d => indentT (pretty Tx n d err)).map (·.length)).sum + (x :: kids.map fun d => indentT (pretty Tx n d err)).length ≤ 1048576 := by
  have := sum_len (B := 8768) (ls := kids.map fun d => indentT (pretty Tx n d err)) fun y hy => by
    obtain ⟨d, hd, rfl⟩ := List.mem_map.mp hy
    exact indent_len hT (hk d hd) hn
  rw [List.length_map] at this
  have h5 : kids.length * 8768 ≤ 3 * 8768 := Nat.mul_le_mul_right _ h3
  simp only [List.map_cons, List.sum_cons, List.length_cons, List.length_map] at this ⊢
  omega
end
example : True := by
  w_top off
  trivial
section
def AbInv (nw0 : List (Addr × Obj)) (i : Nat) (ys : List Value) (nw : List (Addr × Obj)) : Prop := nw = nw0 ∧ ∃ ss, StrsAre ys ss ∧ ss.length = i ∧ ∀ x ∈ ss, x = Str.ofString "a" ∨ x = Str.ofString "b"
theorem fmod2 (a : Int) : Int.fmod a 2 = 0 ∨ Int.fmod a 2 = 1 := by
  have h0 := Int.fmod_nonneg_of_pos a (b := 2) (by decide)
  have h1 := Int.fmod_lt_of_pos a (b := 2) (by decide)
  omega
theorem fmod9 (a : Int) : 0 ≤ Int.fmod a 9 ∧ Int.fmod a 9 < 9 := ⟨Int.fmod_nonneg_of_pos a (by decide), Int.fmod_lt_of_pos a (by decide)⟩
theorem ab_item (a : Int) : Txt.item (Str.ofString "ab") (Int.fmod a 2) = Str.ofString "a" ∨ Txt.item (Str.ofString "ab") (Int.fmod a 2) = Str.ofString "b" := by
  rcases fmod2 a with h | h <;> rw [h]
  · exact .inl (by decide +kernel)
  · exact .inr (by decide +kernel)
theorem AbInv.step {nw0 nw : List (Addr × Obj)} {i : Nat} {ys : List Value} {x : Str} {t : Tok} (h : AbInv nw0 i ys nw) (hx : x = Str.ofString "a" ∨ x = Str.ofString "b") : AbInv nw0 (i + 1) (ys ++ [.str x t]) nw := by
  obtain ⟨e, ss, hs, hl, hb⟩ := h
  refine ⟨e, ss ++ [x], hs.append' (.cons _ _ .nil), by simp [hl], fun y hy => ?_⟩
  rcases List.mem_append.mp hy with hy | hy
  · exact hb y hy
  · rw [List.mem_singleton.mp hy]; exact hx
theorem ab_join : ∀ ss : List Str, (∀ x ∈ ss, x = Str.ofString "a" ∨ x = Str.ofString "b") → (Str.join (Str.ofString "") ss).length = ss.length ∧ ∀ c ∈ (Str.join (Str.ofString "") ss).cps.toList, c = 97 ∨ c = 98
  | [], _ => ⟨rfl, fun c hc => nomatch hc⟩
  | [x], h => by
    have hx := h x (.head _)
    show x.length = 1 ∧ ∀ c ∈ x.cps.toList, c = 97 ∨ c = 98
    rcases hx with rfl | rfl <;> exact ⟨by decide +kernel, by decide +kernel⟩
  | x :: y :: r, h => by
    have ih := ab_join (y :: r) fun z hz => h z (.tail _ hz)
    have hx := h x (.head _)
    have e : Str.join (Str.ofString "") (x :: y :: r) = x ++ (Str.ofString "" ++ Str.join (Str.ofString "") (y :: r)) := by first | rfl | (simp [Str.join, Str.append_assoc])
    have hx2 : x.length = 1 ∧ ∀ c ∈ x.cps.toList, c = 97 ∨ c = 98 := by
      rcases hx with rfl | rfl <;> exact ⟨by decide +kernel, by decide +kernel⟩
    rw [e]
    refine ⟨?_, fun c hc => ?_⟩
    · rw [Str.length_append, Str.length_append, ll3, ih.1, hx2.1]; simp only [List.length_cons]; omega
    · rw [Str.cps_append, Array.toList_append] at hc
      rcases List.mem_append.mp hc with hc | hc
      · exact hx2.2 c hc
      · rw [Str.cps_append, Array.toList_append] at hc
        rcases List.mem_append.mp hc with hc | hc
        · have : (Str.ofString "").cps.toList = [] := by decide +kernel
          rw [this] at hc; cases hc
        · exact ih.2 c hc
theorem ab_text {ss : List Str} {i : Nat} (h : ∀ x ∈ ss, x = Str.ofString "a" ∨ x = Str.ofString "b") (hl : ss.length = i) (hi : i ≤ 8) : TextOk (Txt.join (Str.ofString "") ss) := by
  rw [txt_join]
  have := ab_join ss h
  exact ⟨by omega, this.2⟩
theorem ab_weight {ss : List Str} {i : Nat} (h : ∀ x ∈ ss, x = Str.ofString "a" ∨ x = Str.ofString "b") (hl : ss.length = i) (hi : i ≤ 8) : (ss.map (·.length)).sum + ss.length ≤ 1048576 := by
  have := sum_le (fun x : Str => x.length) 1 (l := ss) fun x hx => by rcases h x hx with rfl | rfl <;> decide +kernel
  omega
end
example : True := by
  w_top off
  trivial
section
/-- the way zs leads from d to d2 -/
inductive AtC : Nat → Nd → List Int → Nat → Nd → Prop where
  | nil (n : Nat) (d : Nd) : AtC n d [] n d
  | cons {n n2 i : Nat} {a : Addr} {k : Kd} {nm : Str} {st en : Int} {kids : List Nd} {d1 d2 : Nd} {zs : List Int} : kids[i]? = some d1 → AtC n d1 zs n2 d2 → AtC (n + 1) (.mk a k nm st en kids) ((i : Int) :: zs) n2 d2
theorem AtC.snoc {n n2 : Nat} {d d2 d3 : Nd} {zs : List Int} {i : Nat} {a : Addr} {k : Kd} {nm : Str} {st en : Int} {kids : List Nd} (h : AtC n d zs (n2 + 1) d2) (e : d2 = .mk a k nm st en kids) (hi : kids[i]? = some d3) : AtC n d (zs ++ [(i : Int)]) n2 d3 := by
  generalize hm : n2 + 1 = m at h
  induction h with
  | nil n d => subst hm; subst e; exact .cons hi (.nil _ _)
  | cons h1 _ ih => exact .cons h1 (ih e hm)
theorem AtC.mem {n n2 : Nat} {d d2 : Nd} {zs : List Int} (h : AtC n d zs n2 d2) (hn : 0 < n2) : d2.addr ∈ addrs n d := by
  induction h with
  | nil n d =>
    obtain ⟨a, k, nm, st, en, kids⟩ := d
    cases n with
    | zero => exact absurd hn (by decide)
    | succ n => exact .head _
  | cons h1 _ ih => exact .tail _ (List.mem_flatMap.mpr ⟨_, List.mem_of_getElem? h1, ih hn⟩)
/-- what a turn of the loop over the way reads -/
theorem turn_facts {t : List (Addr × Obj)} {Tx : Str} {n : Nat} {d : Nd} {v : Value} (hn : NodeIn t Tx n d) (ho : OwnIn t n v d) (hok : NdOk Tx n d) :
    ∃ (kids : List Nd) (d1 c e b pl : Addr) (v1 v2 v3 t1 t2 t3 t4 : Tok) (st en : Int) (w nm : Str) (n1 m1 : Nat) (ps : List Value),
      (d.addr, (⟨.ref 99, some d1, .plain, #[some (.ref c), some (.int en v3), some (.ref e), some (.str Tx v1), some (.int st v2)]⟩ : Obj)) ∈ t ∧ (d1, dictOf [] 0) ∈ t ∧ (c, W.listOf (kids.map fun t => Value.ref t.addr).toArray n1) ∈ t ∧
      v = .ref b ∧ (b, tupO [.str w t1, .str nm t2, .int st t3, .int en t4, .ref pl]) ∈ t ∧ (pl, W.listOf ps.toArray m1) ∈ t ∧ ps.length = kids.length ∧ kids.length ≤ 3 ∧
      ∀ (i : Nat), i < kids.length → ∃ d2 v2, kids[i]? = some d2 ∧ (kids.map fun t => Value.ref t.addr)[i]? = some (.ref d2.addr) ∧ ps[i]? = some v2 ∧ ∃ n2, NodeIn t Tx n2 d2 ∧ OwnIn t n2 v2 d2 ∧ NdOk Tx n2 d2 ∧ ∀ n0 d0 zs, AtC n0 d0 zs n d → AtC n0 d0 (zs ++ [(i : Int)]) n2 d2 := by
  cases n with
  | zero => exact hn.elim
  | succ n =>
    obtain ⟨a, kd, nm, st, en, kids⟩ := d
    obtain ⟨e, ⟨d1, c1, v1, v2, v3, n1, hN1, hN2, hN3⟩, hE, hK⟩ := hn
    obtain ⟨b, pl, t1, t2, t3, t4, m, ps, hv, hb, hp, hA⟩ := ho
    obtain ⟨hnm, h0, h1, h2, hk3, hkd, hkok⟩ := hok
    refine ⟨kids, d1, c1, e, b, pl, v1, v2, v3, t1, t2, t3, t4, st, en, _, nm, n1, m, ps, hN1, hN2, hN3, hv, hb, hp, hA.length, hk3, fun i hi => ?_⟩
    have hki : kids[i]? = some kids[i] := List.getElem?_eq_getElem hi
    have hpi : ps[i]? = some (ps[i]'(by rw [hA.length]; exact hi)) := List.getElem?_eq_getElem _
    obtain ⟨d2, hd2, hR⟩ := hA.get hpi
    rw [hki] at hd2
    cases hd2
    exact ⟨kids[i], _, hki, by rw [List.getElem?_map, hki]; rfl, hpi, n, hK _ (List.getElem_mem hi), hR, hkok _ (List.getElem_mem hi), fun n0 d0 zs h => h.snoc rfl hki⟩
def wayM (M : Str → Option Value) (K : Option Value) (a v : Value) : Str → Option Value := fun y => if y = Str.ofString "there" then some v else if y = Str.ofString "at" then some a else if y = Str.ofString "k" then K else M y
theorem wayM_zero (M : Str → Option Value) (a v : Value) : (fun y => if y = Str.ofString "there" then some v else if y = Str.ofString "at" then some a else M y) = wayM M (M (Str.ofString "k")) a v := by
  funext y
  unfold wayM
  by_cases h1 : y = Str.ofString "there"
  · simp only [if_pos h1]
  · by_cases h2 : y = Str.ofString "at"
    · simp only [if_neg h1, if_pos h2]
    · by_cases h3 : y = Str.ofString "k"
      · simp only [if_neg h1, if_neg h2, if_pos h3]
        rw [h3]
      · simp only [if_neg h1, if_neg h2, if_neg h3]
theorem wayM_k (M : Str → Option Value) (K K' : Option Value) (a v : Value) : (fun y => if y = Str.ofString "k" then K' else wayM M K a v y) = wayM M K' a v := by
  funext y
  unfold wayM
  by_cases h3 : y = Str.ofString "k"
  · have h1 : ¬ y = Str.ofString "there" := by rw [h3]; decide
    have h2 : ¬ y = Str.ofString "at" := by rw [h3]; decide
    simp only [if_neg h1, if_neg h2, if_pos h3]
  · simp only [if_neg h3]
theorem wayM_at (M : Str → Option Value) (K : Option Value) (a v a' v' : Value) : (fun y => if y = Str.ofString "there" then some v' else if y = Str.ofString "at" then some a' else wayM M K a v y) = wayM M K a' v' := by
  funext y
  unfold wayM
  by_cases h1 : y = Str.ofString "there"
  · simp only [if_pos h1]
  · by_cases h2 : y = Str.ofString "at"
    · simp only [if_neg h1, if_pos h2]
    · simp only [if_neg h1, if_neg h2]
/-- before the turn i of the loop over the way -/
def WI (g : Heap) (L : Addr) (M : Str → Option Value) (Wa J : Addr) (r : Int) (tl base : List (Addr × Obj)) (Tx : Str) (n0 : Nat) (d0 : Nd) (g0 : Array GenState) (os0 : OsState) (i : Nat) (s' : Shared) : Prop :=
  ∃ (K : Option Value) (us : List Value) (zs : List Int) (kk n : Nat) (d : Nd) (v : Value), Fr g L s'.heap (wayM M K (.ref d.addr) v) ∧
    News g L s'.heap ((J, ({ cls := .type "range_iterator", data := .fields #[rawInt ((0 : Int) + (i : Int) * 1), rawInt (r - (i : Int)), rawInt 1] } : Obj)) :: (Wa, W.listOf us.toArray kk) :: base) ∧ IntsAre us zs ∧ zs.length ≤ i ∧
    NodeIn tl Tx n d ∧ OwnIn tl n v d ∧ NdOk Tx n d ∧ AtC n0 d0 zs n d ∧ s'.gens = g0 ∧ s'.os = os0
theorem WI.zero {g : Heap} {L : Addr} {m M : Str → Option Value} {Wa : Addr} {r : Int} {tl base : List (Addr × Obj)} {Tx : Str} {n0 kk : Nat} {d0 : Nd} {v : Value} {s : Shared} (F : Fr g L s.heap m) (N : News g L s.heap ((Wa, W.listOf (List.toArray []) kk) :: base))
    (em : m = fun y => if y = Str.ofString "there" then some v else if y = Str.ofString "at" then some (.ref d0.addr) else M y) (hn : NodeIn tl Tx n0 d0) (ho : OwnIn tl n0 v d0) (hok : NdOk Tx n0 d0) :
    WI g L M Wa s.heap.objs.size r tl base Tx n0 d0 s.gens s.os 0 { s with heap := s.heap.push { cls := .type "range_iterator", data := .fields #[rawInt 0, rawInt r, rawInt 1] } } := by
  have e0 : r - ((0 : Nat) : Int) = r := by simp
  refine ⟨M (Str.ofString "k"), [], [], kk, n0, d0, v, ?_, fun q hq => ?_, .nil, Nat.le_refl _, hn, ho, hok, .nil _ _, rfl, rfl⟩
  · rw [← wayM_zero, ← em]
    exact F.push _
  · rcases List.mem_cons.mp hq with rfl | hq
    · refine ⟨?_, Nat.ne_of_gt F.ns.lt, Heap.get?_none_of_le (Nat.le_trans F.above (Nat.le_of_lt F.ns.lt))⟩
      rw [e0]
      exact Heap.get?_push_size _ rfl
    · exact ⟨Heap.get?_push_of_some _ (N q hq).1, (N q hq).2⟩
theorem WI.iter {g : Heap} {L : Addr} {M : Str → Option Value} {Wa J : Addr} {r : Int} {tl base : List (Addr × Obj)} {Tx : Str} {n0 i : Nat} {d0 : Nd} {g0 : Array GenState} {os0 : OsState} {s' : Shared} (h : WI g L M Wa J r tl base Tx n0 d0 g0 os0 i s') :
    IsRangeIter s'.heap J ((0 : Int) + (i : Int) * 1) (r - (i : Int)) 1 := by
  obtain ⟨K, us, zs, kk, n, d, v, F, N, _⟩ := h
  exact (N _ (.head _)).1
theorem WI.turn {g h' : Heap} {L : Addr} {M : Str → Option Value} {Wa J : Addr} {r : Int} {tl base : List (Addr × Obj)} {Tx : Str} {n0 i : Nat} {d0 : Nd} {g0 : Array GenState} {os0 : OsState} {s' : Shared} (h : WI g L M Wa J r tl base Tx n0 d0 g0 os0 i s')
    (hWJ : @Ne Nat Wa J) (hJ : ∀ q ∈ base, @Ne Nat q.1 J) (hI : IsRangeIter h' J ((0 : Int) + ((i + 1 : Nat) : Int) * 1) (r - ((i + 1 : Nat) : Int)) 1) (hk : ∀ b o, b ≠ J → s'.heap.get? b = some o → h'.get? b = some o) :
    ∃ (K : Option Value) (us : List Value) (zs : List Int) (kk n : Nat) (d : Nd) (v : Value), Fr g L h' (wayM M K (.ref d.addr) v) ∧
    News g L h' ((J, ({ cls := .type "range_iterator", data := .fields #[rawInt ((0 : Int) + ((i + 1 : Nat) : Int) * 1), rawInt (r - ((i + 1 : Nat) : Int)), rawInt 1] } : Obj)) :: (Wa, W.listOf us.toArray kk) :: base) ∧ IntsAre us zs ∧ zs.length ≤ i ∧
    NodeIn tl Tx n d ∧ OwnIn tl n v d ∧ NdOk Tx n d ∧ AtC n0 d0 zs n d ∧ s'.gens = g0 ∧ s'.os = os0 := by
  obtain ⟨K, us, zs, kk, n, d, v, F, N, hi, hz, hn, ho, hok, hat, hg, hos⟩ := h
  have nJ := N _ (.head _)
  refine ⟨K, us, zs, kk, n, d, v, ⟨F.ns.at fun o e => hk _ o (Ne.symm nJ.2.1) e, fun b o e => hk b o (fun q => by rw [q, nJ.2.2] at e; cases e) (F.keep b o e), F.above⟩, fun q hq => ?_, hi, hz, hn, ho, hok, hat, hg, hos⟩
  rcases List.mem_cons.mp hq with rfl | hq
  · exact ⟨hI, nJ.2⟩
  · have k := N q (.tail _ hq)
    refine ⟨hk _ _ ?_ k.1, k.2⟩
    rcases List.mem_cons.mp hq with rfl | hq
    · exact hWJ
    · exact hJ q hq
theorem WI.done {g h' : Heap} {L : Addr} {M : Str → Option Value} {Wa J : Addr} {r : Int} {tl base : List (Addr × Obj)} {Tx : Str} {n0 i : Nat} {d0 : Nd} {g0 : Array GenState} {os0 : OsState} {s' : Shared} (h : WI g L M Wa J r tl base Tx n0 d0 g0 os0 i s')
    (hWJ : @Ne Nat Wa J) (hJ : ∀ q ∈ base, @Ne Nat q.1 J) (hk : ∀ b o, b ≠ J → s'.heap.get? b = some o → h'.get? b = some o) :
    ∃ (K : Option Value) (us : List Value) (zs : List Int) (kk n : Nat) (d : Nd) (v : Value), Fr g L h' (wayM M K (.ref d.addr) v) ∧
    News g L h' ((Wa, W.listOf us.toArray kk) :: base) ∧ IntsAre us zs ∧ zs.length ≤ i ∧
    NodeIn tl Tx n d ∧ OwnIn tl n v d ∧ NdOk Tx n d ∧ AtC n0 d0 zs n d ∧ s'.gens = g0 ∧ s'.os = os0 := by
  obtain ⟨K, us, zs, kk, n, d, v, F, N, hi, hz, hn, ho, hok, hat, hg, hos⟩ := h
  have nJ := N _ (.head _)
  refine ⟨K, us, zs, kk, n, d, v, ⟨F.ns.at fun o e => hk _ o (Ne.symm nJ.2.1) e, fun b o e => hk b o (fun q => by rw [q, nJ.2.2] at e; cases e) (F.keep b o e), F.above⟩, fun q hq => ?_, hi, hz, hn, ho, hok, hat, hg, hos⟩
  have k := N q (.tail _ hq)
  refine ⟨hk _ _ ?_ k.1, k.2⟩
  rcases List.mem_cons.mp hq with rfl | hq
  · exact hWJ
  · exact hJ q hq
/-- a turn at a node without children -/
theorem WI.stay {g : Heap} {L : Addr} {m M : Str → Option Value} {Wa J : Addr} {r : Int} {tl base : List (Addr × Obj)} {Tx : Str} {n0 n i kk : Nat} {d0 d : Nd} {g0 : Array GenState} {os0 : OsState} {s' : Shared} {us : List Value} {zs : List Int} {K K' : Option Value} {v : Value}
    (F : Fr g L s'.heap m) (em : m = fun y => if y = Str.ofString "k" then K' else wayM M K (.ref d.addr) v y)
    (N : News g L s'.heap ((J, ({ cls := .type "range_iterator", data := .fields #[rawInt ((0 : Int) + ((i + 1 : Nat) : Int) * 1), rawInt (r - ((i + 1 : Nat) : Int)), rawInt 1] } : Obj)) :: (Wa, W.listOf us.toArray kk) :: base)) (hi : IntsAre us zs) (hz : zs.length ≤ i)
    (hn : NodeIn tl Tx n d) (ho : OwnIn tl n v d) (hok : NdOk Tx n d) (hat : AtC n0 d0 zs n d) (hg : s'.gens = g0) (hos : s'.os = os0) : WI g L M Wa J r tl base Tx n0 d0 g0 os0 (i + 1) s' := by
  refine ⟨K', us, zs, kk, n, d, v, ?_, N, hi, Nat.le_succ_of_le hz, hn, ho, hok, hat, hg, hos⟩
  rw [← wayM_k M K, ← em]
  exact F
/-- a turn down to a child -/
theorem WI.down {g : Heap} {L : Addr} {m M : Str → Option Value} {Wa J : Addr} {r : Int} {tl base : List (Addr × Obj)} {Tx : Str} {n0 n n2 i j kk : Nat} {d0 d d2 : Nd} {g0 : Array GenState} {os0 : OsState} {s' : Shared} {us : List Value} {zs : List Int} {K K' : Option Value} {v v2 a' : Value} {t : Tok} {z : Int}
    (F : Fr g L s'.heap m) (em : m = fun y => if y = Str.ofString "at" then some (.ref d2.addr) else if y = Str.ofString "there" then some v2 else if y = Str.ofString "k" then K' else wayM M K a' v y)
    (N : News g L s'.heap ((J, ({ cls := .type "range_iterator", data := .fields #[rawInt ((0 : Int) + ((i + 1 : Nat) : Int) * 1), rawInt (r - ((i + 1 : Nat) : Int)), rawInt 1] } : Obj)) :: (Wa, W.listOf (us ++ [Value.int z t]).toArray kk) :: base)) (hi : IntsAre us zs) (hz : zs.length ≤ i)
    (ez : z = (j : Int)) (hn : NodeIn tl Tx n2 d2) (ho : OwnIn tl n2 v2 d2) (hok : NdOk Tx n2 d2) (hat : ∀ n0 d0 zs, AtC n0 d0 zs n d → AtC n0 d0 (zs ++ [(j : Int)]) n2 d2) (hat0 : AtC n0 d0 zs n d) (hg : s'.gens = g0) (hos : s'.os = os0) : WI g L M Wa J r tl base Tx n0 d0 g0 os0 (i + 1) s' := by
  subst ez
  refine ⟨K', us ++ [Value.int (j : Int) t], zs ++ [(j : Int)], kk, n2, d2, v2, ?_, N, hi.append (.cons _ _ .nil), by simp only [List.length_append, List.length_cons, List.length_nil]; omega, hn, ho, hok, hat _ _ _ hat0, hg, hos⟩
  have e2 : m = wayM M K' (.ref d2.addr) v2 := by
    rw [em]
    funext y
    have e1 := congrFun (wayM_k M K K' a' v) y
    rw [e1]
    unfold wayM
    by_cases h2 : y = Str.ofString "at"
    · have h3 : ¬ y = Str.ofString "there" := by rw [h2]; decide
      simp only [if_pos h2, if_neg h3]
    · by_cases h3 : y = Str.ofString "there"
      · simp only [if_neg h2, if_pos h3]
      · simp only [if_neg h2, if_neg h3]
  rw [← e2]
  exact F
theorem WI.zero' {g : Heap} {L D : Addr} {o : Obj} {m M1 : Str → Option Value} {Wa : Addr} {r : Int} {tl base : List (Addr × Obj)} {Tx : Str} {n0 kk : Nat} {d0 : Nd} {v w : Value} {s : Shared} (F : Fr g L s.heap m) (N : News g L s.heap ((D, o) :: (Wa, W.listOf (List.toArray []) kk) :: base))
    (em : m = fun y => if y = Str.ofString "way" then some w else if y = Str.ofString "at" then some (.ref d0.addr) else if y = Str.ofString "there" then some v else M1 y) (hn : NodeIn tl Tx n0 d0) (ho : OwnIn tl n0 v d0) (hok : NdOk Tx n0 d0) :
    WI g L (fun y => if y = Str.ofString "way" then some w else M1 y) Wa s.heap.objs.size r tl base Tx n0 d0 s.gens s.os 0 { s with heap := s.heap.push { cls := .type "range_iterator", data := .fields #[rawInt 0, rawInt r, rawInt 1] } } := by
  refine WI.zero F (fun q hq => N q (.tail _ hq)) ?_ hn ho hok
  rw [em]
  funext y
  by_cases h1 : y = Str.ofString "way"
  · have h2 : ¬ y = Str.ofString "at" := by rw [h1]; decide
    have h3 : ¬ y = Str.ofString "there" := by rw [h1]; decide
    simp only [if_pos h1, if_neg h2, if_neg h3]
  · by_cases h2 : y = Str.ofString "at"
    · have h3 : ¬ y = Str.ofString "there" := by rw [h2]; decide
      simp only [if_neg h1, if_pos h2, if_neg h3]
    · simp only [if_neg h1, if_neg h2]
theorem upd_at {g h : Heap} {L J Wa : Addr} {oJ : Obj} {us : List Value} {kk : Nat} {base : List (Addr × Obj)} (N : News g L h ((J, oJ) :: (Wa, W.listOf us.toArray kk) :: base)) (h1 : @Ne Nat Wa J) (h2 : ∀ q ∈ base, @Ne Nat q.1 Wa) (x : Value) :
    Upd Wa (W.listOf us.toArray kk) (W.listOf (us ++ [x]).toArray (kk + 1)) ((J, oJ) :: (Wa, W.listOf us.toArray kk) :: base) ((J, oJ) :: (Wa, W.listOf (us ++ [x]).toArray (kk + 1)) :: base) :=
  .tail (Ne.symm h1) (.head h2)
theorem fmod_len {a : Int} {n : Nat} (h : 0 < n) : ∃ j : Nat, Int.fmod a (n : Int) = (j : Int) ∧ j < n := by
  have h0 := Int.fmod_nonneg_of_pos a (b := (n : Int)) (by omega)
  have h1 := Int.fmod_lt_of_pos a (b := (n : Int)) (by omega)
  exact ⟨(Int.fmod a (n : Int)).toNat, by omega, by omega⟩
theorem last_item {prog : Program} {w : World} {A : Around} {E : Value → Shared → Prop} {s : Shared} {h₀ : Heap} {L : Addr} {news : List (Addr × Obj)} {value slice : Expr} {l : Addr} {us : List Value} {zs : List Int} {n : Nat} {z : Int} {t0 u : Tok} {Q : Value → Shared → Prop} (N : News h₀ L s.heap news)
    (hm : (l, W.listOf (us ++ [Value.int z t0]).toArray n) ∈ news) (hi : IntsAre us zs) (h : ∀ t, Q (.int z t) s)
    (hs : subscripted slice false (.ref l) (.int (-1) u) = operate [.ref l, .int (-1) u] (getItem (.ref l) (.int (-1) u))) : wpAny (model prog w) A (subscriptTail value slice (.ref l) (.int (-1) u)) Q E s := by
  refine item_list_ints_negR (ns := zs ++ [z]) (N.isList hm) (hi.append (.cons _ _ .nil)) (by decide) (by simp only [List.length_append, List.length_cons, List.length_nil]; omega) (by decide) (fun t => ?_) hs
  have e : ((-1 : Int) + ((zs ++ [z]).length : Int)).toNat = zs.length := by simp only [List.length_append, List.length_cons, List.length_nil]; omega
  rw [e, List.getD_eq_getElem?_getD, List.getElem?_append_right (Nat.le_refl _), Nat.sub_self]
  exact h t
end
local macro_rules | `(tactic| walk_at "subscriptTail Name Name ref int") => `(tactic| (k_here; (with_reducible show wpAny _ _ (subscriptTail _ _ (Value.ref _) (Value.int _ _)) _ _ _); k_dflt (first
  | (refine' refs_item ?hx ?N ?m ?hk ?hi ?_ ?hs; (case N => k_asm); (case m => k_mem); (case hx => with_reducible assumption); (case hk => omega); (case hi => omega); (case hs => with_unfolding_all rfl)))))
example : True := by
  w_top off
  trivial
section
def PtIn (news : List (Addr × Obj)) : Value → Option (List Int) → Prop
  | v, none => v = .none
  | v, some zs => ∃ l us k, v = .ref l ∧ (l, W.listOf us.toArray k) ∈ news ∧ IntsAre us zs
def nextPt (po : Option (List Int)) (k : Nat) : Option (List Int) := match po with
  | some (z :: zs) => if z = (k : Int) then some zs else none
  | _ => none
def firstLine (Tx nm : Str) (st en : Int) (po : Option (List Int)) (deep : Nat) : Str :=
  Txt.mul " " (deep : Int) ++ "<Node" ++  (if nm = "" then ("" : Str) else " called \"" ++ nm ++ "\"") ++ " matching \"" ++ sub Tx st en ++ "\">" ++ (if po = some [] then ("  <-- *** We were here. ***" : Str) else "")
def kidLines (f : Nd → Option (List Int) → List Str) (po : Option (List Int)) : List Nd → Nat → List Str
  | [], _ => []
  | d :: r, k => f d (nextPt po k) ++ kidLines f po r (k + 1)
def tLines (Tx : Str) : Nat → Nd → Option (List Int) → Nat → List Str
  | 0, _, _, _ => []
  | n + 1, .mk _ k nm st en kids, po, deep => firstLine Tx nm st en po deep :: kidLines (fun d q => tLines Tx n d q (deep + 4)) po kids 0
def LinesCall (n : Nat) : Prop := ∀ {w : World} {A : Around} {s : Shared} {h₀ : Heap} {L : Addr} {m mg mb : Str → Option Value} {news t : List (Addr × Obj)} {p : Program} {loose : List Str} {mean : ExcName → Option Value}
    {d : Nd} {v pv : Value} {po : Option (List Int)} {deep : Nat} {Tx : Str} {t1 t2 : Tok} {Q E : Value → Shared → Prop}
    (F : Fr h₀ L s.heap m) (X : (hd.heap_39 w.params).In h₀) (N : News h₀ L s.heap news) (T : Top p loose mean mg mb h₀)
    (ho : OwnIn t n v d) (hok : NdOk Tx n d) (ht : ∀ q ∈ t, q ∈ news) (hT : TextOk Tx) (hp : PtIn news pv po) (hpl : ∀ zs, po = some zs → zs.length ≤ 4) (hdp : deep + 4 * n ≤ 12)
    (hh : A.handled = none) (hd : A.depth + 20 * n ≤ 900) (hu : A.units + 300 * n ≤ 9000)
    (hQ : ∀ l us k h' tk', Fr h₀ L h' m → News h₀ L h' ((l, W.listOf us.toArray k) :: news) → (∀ q ∈ news, q.1 < l) → StrsAre us (tLines Tx n d po deep) → Q (.ref l) { s with heap := h', toks := tk' }),
    wpAny (model PySem.Challenge.rw_vy0010_01.row.prog w) A (call (.ref 441) [v, .str Tx t1, pv, .int deep t2]) Q E s
local macro_rules | `(tactic| walk_at "compareOp Eq none ref") => `(tactic| (k_here; k_dflt (refine' PySem.EqBoolInt.of_rc (SeqAt.RcAt.none_list ?hl ?hu) ?_; (case hl => exact News.isList (by k_asm) (by k_mem)); (case hu => k_units))))
local macro_rules | `(tactic| walk_at "compareOp Eq ref ref") => `(tactic| (k_here; (with_reducible show wpAny _ _ (compareOp CmpOp.Eq (Value.ref _) (Value.ref _)) _ _ _); k_dflt (refine' eq_intsK ?k1 ?k2 ?k3 ?k4 ?k5 ?_; (case k1 => exact News.isList (items := List.toArray _) (by k_asm) (by k_mem)); (case k2 => with_reducible assumption); (case k3 => exact News.isList (items := List.toArray _) (by k_asm) (by k_mem)); (case k4 => exact IntsAre.nil); (case k5 => k_units); (try simp only [reduceCtorEq, decide_false, decide_true]))))
local macro_rules | `(tactic| walk_at "compareOp NotEq ref ref") => `(tactic| (k_here; (with_reducible show wpAny _ _ (compareOp CmpOp.NotEq (Value.ref _) (Value.ref _)) _ _ _); k_dflt (refine' ne_intsK ?k1 ?k2 ?k3 ?k4 ?k5 ?_; (case k1 => exact News.isList (items := List.toArray _) (by k_asm) (by k_mem)); (case k2 => with_reducible assumption); (case k3 => exact News.isList (items := List.toArray _) (by k_asm) (by k_mem)); (case k4 => exact IntsAre.nil); (case k5 => k_units); (try simp only [reduceCtorEq, decide_false, decide_true, Bool.not_false, Bool.not_true]))))
local macro_rules | `(tactic| walk_at "exec For Tuple Call cons nil") => `(tactic| (k_here; (rename Fr _ _ _ _ => lF'); (with_unfolding_all refine' For_turns lF' ?_; k_whole)))
local macro_rules | `(tactic| walk_at "mine stop") => `(tactic| first
  | (with_reducible show wpAny _ _ (call (Value.type "enumerate") _ _) _ _ _)
  | (with_reducible show wpAny _ _ (call (Value.ref 441) _ _) _ _ _)
  | (with_reducible show UnrPostW _ _ _ _ _ _ _ _))
local macro_rules | `(tactic| walk_at "mine halt") => `(tactic| first
  | (with_reducible show wpAny _ _ (call (Value.type "enumerate") _ _) _ _ _)
  | (with_reducible show wpAny _ _ (call (Value.ref 441) _ _) _ _ _)
  | (with_reducible show wpAny _ _ (binaryOp Operator.Add (Value.ref _) (Value.ref _)) _ _ _)
  | (with_reducible show UnrPostW _ _ _ _ _ _ _ _))
local macro_rules | `(tactic| walk_at "mine go") => `(tactic| repeat' ((fail_if_success (walk_at "mine halt")); (first | (k_unfold; (try dsimp only)) | (k_end; wrow_close) | walk1 | (dsimp only; walk1) | (leave1; walk_say "STEP leave1"; try dsimp only) | fail "no step")))
local macro_rules | `(tactic| walk_at "subscriptTail Name Slice ref ref") => `(tactic| (k_here; (with_reducible show wpAny _ _ (subscriptTail _ (PySem.Expr.Slice _ _ none _) (Value.ref _) (Value.ref _)) _ _ _); k_dflt (refine' kmk_slice_ints ?F ?N ?l ?p ?q ?i ?m ?c ?_ ?s ?t ?z; (case F => k_asm); (case N => k_asm); (case l => exact News.isList (items := List.toArray _) (by k_asm) (by k_mem)); (case p => kmk_part); (case q => kmk_part); (case i => with_reducible assumption); (case m => exact kmk_from (by with_reducible assumption) (by decide)); (case c => rfl); (case s => with_unfolding_all rfl); (case t => kmk_pure); (case z => (rw [List.size_toArray, sizeLine_eq]; exact Nat.le_trans (by with_reducible assumption) (by decide)))); intro D' ws' h' F' N' l1 hI' hC' hL'; (try k_lt l1)))
theorem eq_beq9 {z i : Int} (h : (z == i) = true) : z = i := by simpa using h
theorem ne_beq9 {z i : Int} (h : (z == i) = false) : ¬ z = i := by simpa using h
theorem kidLines_snoc {f : Nd → Option (List Int) → List Str} {po : Option (List Int)} : ∀ {kids : List Nd} {i k : Nat} {d : Nd}, kids[i]? = some d → kidLines f po (kids.take (i + 1)) k = kidLines f po (kids.take i) k ++ f d (nextPt po (k + i))
  | [], _, _, _, e => by simp at e
  | x :: r, 0, k, d, e => by
    simp at e; subst e
    simp [kidLines]
  | x :: r, i + 1, k, d, e => by
    have e' : r[i]? = some d := by simpa using e
    have ih := kidLines_snoc (f := f) (po := po) (k := k + 1) e'
    simp only [List.take_succ_cons, kidLines, ih, List.append_assoc]
    rw [show k + 1 + i = k + (i + 1) by omega]
theorem kidLines_len {f : Nd → Option (List Int) → List Str} {po : Option (List Int)} {B : Nat} : ∀ {kids : List Nd} {k : Nat}, (∀ d ∈ kids, ∀ q, (f d q).length ≤ B) → (kidLines f po kids k).length ≤ kids.length * B
  | [], _, _ => by simp [kidLines]
  | x :: r, k, h => by
    have h1 := h x (.head _) (nextPt po k)
    have h2 := kidLines_len (f := f) (po := po) (kids := r) (k := k + 1) fun d hd => h d (.tail _ hd)
    simp only [kidLines, List.length_append, List.length_cons, Nat.add_mul, Nat.one_mul]
    omega
theorem tLines_len {Tx : Str} : ∀ {n : Nat} {d : Nd}, NdOk Tx n d → ∀ po deep, (tLines Tx n d po deep).length ≤ 4 ^ n
  | 0, _, h, _, _ => h.elim
  | n + 1, .mk a k nm st en kids, ⟨_, _, _, _, h3, _, hk⟩, po, deep => by
    have h2 := kidLines_len (f := fun d q => tLines Tx n d q (deep + 4)) (po := po) (kids := kids) (k := 0) fun d hd q => tLines_len (hk d hd) q (deep + 4)
    have h4 : kids.length * 4 ^ n ≤ 3 * 4 ^ n := Nat.mul_le_mul_right _ h3
    have h5 : 0 < 4 ^ n := Nat.pow_pos (by decide)
    simp only [tLines, List.length_cons, Nat.pow_succ]
    omega
theorem turn_len {Tx : Str} {n i : Nat} {kids : List Nd} {po : Option (List Int)} {deep : Nat} {d : Nd} {q : Option (List Int)} {x : Str} (hn : n ≤ 2) (h3 : kids.length ≤ 3) (hk : ∀ t ∈ kids, NdOk Tx n t) (hd : d ∈ kids) :
    (x :: kidLines (fun d q => tLines Tx n d q deep) po (kids.take i) 0).length + (tLines Tx n d q deep).length ≤ sizeLine := by
  have h1 := kidLines_len (f := fun d q => tLines Tx n d q deep) (po := po) (kids := kids.take i) (k := 0) fun d hd q => tLines_len (hk d (List.mem_of_mem_take hd)) q deep
  have h2 := tLines_len (hk d hd) q deep
  have h4 : 4 ^ n ≤ 4 ^ 2 := Nat.pow_le_pow_right (by decide) hn
  have h5 : (kids.take i).length ≤ 3 := by rw [List.length_take]; omega
  have h6 : (kids.take i).length * 4 ^ n ≤ 3 * 4 ^ 2 := Nat.mul_le_mul h5 h4
  rw [sizeLine_eq]
  simp only [List.length_cons]
  omega
theorem above_sub {B l : List (Addr × Obj)} {D : Addr} (h : ∀ p ∈ B, p.1 < D) (hs : ∀ q ∈ l, q ∈ B) : ∀ q ∈ l, q.1 < D := fun q hq => h q (hs q hq)
local macro_rules | `(tactic| walk_at "mine sub") => `(tactic| (repeat' (first | assumption | exact fun q9 hq9 => hq9 | (refine sub_consL (by k_mem) ?_) | (refine sub_cons ?_) | (refine sub_app ?_))))
local macro_rules | `(tactic| walk_at "assign Tuple") => `(tactic| (k_here; (with_reducible show wpAny _ _ (assign (Expr.Tuple _ _ _) _ (Value.ref _)) _ _ _); k_dflt (refine' unpackN_ ?k1 ?k2 ?k3 ?k4 ?k5 ?k6 ?_; (case k1 => k_asm); (case k2 => k_asm); (case k3 => with_reducible assumption); (case k4 => first | exact rfl | assumption); (case k5 => exact rfl); (case k6 => exact rfl)); intro h' F' N'; (try k_sweep)))
theorem nm_no {nm : Str} (h0 : ¬ nm = Str.ofString "") (h : (nm != Str.ofString "") = false) : False := h0 (by simpa using h)
theorem nextPt_eq {z : Int} {zs : List Int} {i : Nat} (h : z = (i : Int)) : nextPt (some (z :: zs)) (0 + i) = some zs := by
  rw [Nat.zero_add]; exact if_pos h
theorem nextPt_ne {z : Int} {zs : List Int} {i : Nat} (h : ¬ z = (i : Int)) : nextPt (some (z :: zs)) (0 + i) = none := by
  rw [Nat.zero_add]; exact if_neg h
theorem nm_yes {nm : Str} (h0 : ¬ nm = Str.ofString "") : (nm != Str.ofString "") = true := bne_iff_ne.mpr h0
local macro_rules | `(tactic| walk_at "mine halt") => `(tactic| first
  | (with_reducible show wpAny _ _ (eval (Expr.IfExp _ (Expr.BinOp _ _ _ _) _ _) _) _ _ _)
  | (with_reducible show ∃ _, _))
local macro_rules | `(tactic| walk_at "ite") => `(tactic| (first | (refine Eq.mpr (if_pos (by with_reducible assumption)) ?_) | (refine Eq.mpr (if_neg (ne_true_of_eq_false (by with_reducible assumption))) ?_)))
local macro_rules | `(tactic| walk_at "storeName") => `(tactic| (k_here; k_dflt (refine' storeX_L ?F ?N ?_ ?a ?b; (case F => k_asm); (case N => k_asm); (case a => rfl); (case b => rfl); k_whole; intro h' F' N'; (try k_sweep))))
theorem first_called (Tx nm : Str) (st en : Int) (po : Option (List Int)) (deep : Nat) : firstLine Tx nm st en po deep =
    Txt.mul " " (deep : Int) ++ "<Node" ++ calledT nm ++ " matching \"" ++ sub Tx st en ++ "\">" ++ (if po = some [] then ("  <-- *** We were here. ***" : Str) else "") := by
  unfold firstLine calledT
  rfl
theorem lines_step (n : Nat) (hn2 : n ≤ 2) (IH : ∀ k, n = k + 1 → LinesCall (k + 1)) : LinesCall (n + 1) := by
  intro w A s h₀ L m mg mb news t p loose mean d v pv po deep Tx t1 t2 Q E F X N T ho hok ht hT9 hp hpl hdp hh hd hu hQ
  obtain ⟨a, kd, nm, st, en, kids⟩ := d
  obtain ⟨b, pl, u1, u2, u3, u4, m1, ps, rfl, ho1, ho2, ho3⟩ := ho
  obtain ⟨hnm, h0, h1, h2, hk3, hkd, hkok⟩ := hok
  have hTl := hT9.1
  have hnl := hnm.1
  have hpl9 := ho3.length
  have ho1' := ht _ ho1
  have ho2' := ht _ ho2
  have hcl := called_len hnm
  cases po with
  | none =>
    obtain rfl : pv = .none := hp
    revert X; k_fill; intro X
    show wpAny _ A (call (.ref 441) _ _) _ _ _
    refine wpAny_call ?_
    walk_at "mine enter"
    walk_at "mine go"
    refine ev_cut (calledT nm) (by k_asm) (by k_asm) ?_ ?_
    · walk1
      by_cases hnm0 : nm = ""
      · subst hnm0
        walk_at "mine go"
        exact ⟨_, _, _, by unfold calledT; rw [if_pos rfl], rfl, by k_asm, by k_asm⟩
      · have hnt := nm_yes hnm0
        walk_at "mine go"
        exact ⟨_, _, _, by unfold calledT; rw [if_neg hnm0], rfl, by k_asm, by k_asm⟩
    intro t8 h8 tk8 F8 N8
    walk_at "mine steps"
    refine ktu_enum (lo := W.listOf ps.toArray m1) (vs := ps) (by exact hh) (by k_asm) (by k_asm) (by k_mem) rfl rfl rfl ?_
    intro I lI
    refine rows_items (f := fun i => firstLine Tx nm st en (none) deep :: kidLines (fun d q => tLines Tx n d q (deep + 4)) (none) (kids.take i) 0) rfl ?hs ?ha lI ?step ?fin
    case hs =>
      show StrsAre _ [firstLine Tx nm st en (none) deep]
      rw [first_called]
      rw [if_neg (by simp)]
      exact .cons _ _ .nil
    case ha =>
      exact lt_all (by assumption)
    case step =>
      intro i v T t9 l us k K O h tk hv hT8 hs ha hl1 hl2 hb Fi o1 o2 Ni
      obtain ⟨d9, hd9, ho9⟩ := ho3.get hv
      have hd9' := List.mem_of_getElem? hd9
      obtain ⟨n9, rfl⟩ : ∃ k, n = k + 1 := by
        cases n with
        | zero => exact ho9.elim
        | succ k => exact ⟨k, rfl⟩
      unfold rowsM at Fi
      walk_at "mine go"
      rw [show ((deep : Int) + 4) = ((deep + 4 : Nat) : Int) by omega]
      refine' IH n9 rfl (po := none) ?F ?X ?N ?T ho9 (hkok d9 hd9') ?ht hT9 ?hp ?hpl ?hdp ?hh ?hd ?hu ?_
      walk_at "mine goes"
      case ht => walk_at "mine sub"
      case hp => exact rfl
      case hpl => (intro zs e; cases e)
      case hdp => omega
      intro l9 us9 k9 h9 tk9 F9 N9 la9 hs9
      k_lt la9
      walk_at "mine go"
      refine add_strs (by k_asm) (by k_asm) (News.isList (items := us.toArray) (by k_asm) (by k_mem)) (News.isList (items := us9.toArray) (by k_asm) (by k_mem)) hs hs9 ?_ (turn_len hn2 hk3 hkok hd9')
      intro D8 us8 h8 F8 N8 la8 hs8
      have la8' := la8
      k_lt la8
      walk_at "mine steps"
      exact rows_next (by k_asm) (by k_asm) (by walk_at "mine sub") (rowsM_twice _ l _ K O _ _ _ rfl) (by k_mem) (by show StrsAre us8 (_ :: kidLines _ _ (kids.take (i + 1)) 0); rw [kidLines_snoc hd9]; exact hs8) (above_sub la8' (by walk_at "mine sub")) (la8' (I, o2) (by k_mem)) (la8' (I + 1, o1) (by k_mem)) hb
    case fin =>
      intro l us k K O h tk hs ha Fi Ni
      unfold rowsM at Fi
      walk_at "mine steps"
      refine hQ l us k _ _ (by k_asm) (fun q hq => (by assumption : News h₀ L _ (_ :: _)) q ((by walk_at "mine sub" : ∀ q ∈ (l, W.listOf us.toArray k) :: news, q ∈ _) q hq)) (above_sub ha (by walk_at "mine sub")) ?_
      rw [hpl9, List.take_length] at hs
      exact hs
  | some zs =>
    obtain ⟨lp, up, kp, rfl, hp1, hp2⟩ := hp
    cases zs with
    | nil =>
      revert X; k_fill; intro X
      show wpAny _ A (call (.ref 441) _ _) _ _ _
      refine wpAny_call ?_
      walk_at "mine enter"
      walk_at "mine go"
      refine ev_cut (calledT nm) (by k_asm) (by k_asm) ?_ ?_
      · walk1
        by_cases hnm0 : nm = ""
        · subst hnm0
          walk_at "mine go"
          exact ⟨_, _, _, by unfold calledT; rw [if_pos rfl], rfl, by k_asm, by k_asm⟩
        · have hnt := nm_yes hnm0
          walk_at "mine go"
          exact ⟨_, _, _, by unfold calledT; rw [if_neg hnm0], rfl, by k_asm, by k_asm⟩
      intro t8 h8 tk8 F8 N8
      walk_at "mine steps"
      refine ktu_enum (lo := W.listOf ps.toArray m1) (vs := ps) (by exact hh) (by k_asm) (by k_asm) (by k_mem) rfl rfl rfl ?_
      intro I lI
      refine rows_items (f := fun i => firstLine Tx nm st en (some []) deep :: kidLines (fun d q => tLines Tx n d q (deep + 4)) (some []) (kids.take i) 0) rfl ?hs ?ha lI ?step ?fin
      case hs =>
        show StrsAre _ [firstLine Tx nm st en (some []) deep]
        rw [first_called]
        rw [if_pos rfl]
        exact .cons _ _ .nil
      case ha =>
        exact lt_all (by assumption)
      case step =>
        intro i v T t9 l us k K O h tk hv hT8 hs ha hl1 hl2 hb Fi o1 o2 Ni
        obtain ⟨d9, hd9, ho9⟩ := ho3.get hv
        have hd9' := List.mem_of_getElem? hd9
        obtain ⟨n9, rfl⟩ : ∃ k, n = k + 1 := by
          cases n with
          | zero => exact ho9.elim
          | succ k => exact ⟨k, rfl⟩
        unfold rowsM at Fi
        walk_at "mine go"
        rw [show ((deep : Int) + 4) = ((deep + 4 : Nat) : Int) by omega]
        refine' IH n9 rfl (po := none) ?F ?X ?N ?T ho9 (hkok d9 hd9') ?ht hT9 ?hp ?hpl ?hdp ?hh ?hd ?hu ?_
        walk_at "mine goes"
        case ht => walk_at "mine sub"
        case hp => exact rfl
        case hpl => (intro zs e; cases e)
        case hdp => omega
        intro l9 us9 k9 h9 tk9 F9 N9 la9 hs9
        k_lt la9
        walk_at "mine go"
        refine add_strs (by k_asm) (by k_asm) (News.isList (items := us.toArray) (by k_asm) (by k_mem)) (News.isList (items := us9.toArray) (by k_asm) (by k_mem)) hs hs9 ?_ (turn_len hn2 hk3 hkok hd9')
        intro D8 us8 h8 F8 N8 la8 hs8
        have la8' := la8
        k_lt la8
        walk_at "mine steps"
        exact rows_next (by k_asm) (by k_asm) (by walk_at "mine sub") (rowsM_twice _ l _ K O _ _ _ rfl) (by k_mem) (by show StrsAre us8 (_ :: kidLines _ _ (kids.take (i + 1)) 0); rw [kidLines_snoc hd9]; exact hs8) (above_sub la8' (by walk_at "mine sub")) (la8' (I, o2) (by k_mem)) (la8' (I + 1, o1) (by k_mem)) hb
      case fin =>
        intro l us k K O h tk hs ha Fi Ni
        unfold rowsM at Fi
        walk_at "mine steps"
        refine hQ l us k _ _ (by k_asm) (fun q hq => (by assumption : News h₀ L _ (_ :: _)) q ((by walk_at "mine sub" : ∀ q ∈ (l, W.listOf us.toArray k) :: news, q ∈ _) q hq)) (above_sub ha (by walk_at "mine sub")) ?_
        rw [hpl9, List.take_length] at hs
        exact hs
    | cons z zs =>
      obtain ⟨tz, up', rfl, hp3⟩ : ∃ t up', up = .int z t :: up' ∧ IntsAre up' zs := by
        cases hp2 with
        | cons _ t r => exact ⟨t, _, rfl, r⟩
      have hul : (Value.int z tz :: up').length ≤ 4 := by rw [hp2.length]; exact hpl _ rfl
      revert X; k_fill; intro X
      show wpAny _ A (call (.ref 441) _ _) _ _ _
      refine wpAny_call ?_
      walk_at "mine enter"
      walk_at "mine go"
      refine ev_cut (calledT nm) (by k_asm) (by k_asm) ?_ ?_
      · walk1
        by_cases hnm0 : nm = ""
        · subst hnm0
          walk_at "mine go"
          exact ⟨_, _, _, by unfold calledT; rw [if_pos rfl], rfl, by k_asm, by k_asm⟩
        · have hnt := nm_yes hnm0
          walk_at "mine go"
          exact ⟨_, _, _, by unfold calledT; rw [if_neg hnm0], rfl, by k_asm, by k_asm⟩
      intro t8 h8 tk8 F8 N8
      walk_at "mine steps"
      refine ktu_enum (lo := W.listOf ps.toArray m1) (vs := ps) (by exact hh) (by k_asm) (by k_asm) (by k_mem) rfl rfl rfl ?_
      intro I lI
      refine rows_items (f := fun i => firstLine Tx nm st en (some (z :: zs)) deep :: kidLines (fun d q => tLines Tx n d q (deep + 4)) (some (z :: zs)) (kids.take i) 0) rfl ?hs ?ha lI ?step ?fin
      case hs =>
        show StrsAre _ [firstLine Tx nm st en (some (z :: zs)) deep]
        rw [first_called]
        rw [if_neg (by simp)]
        exact .cons _ _ .nil
      case ha =>
        exact lt_all (by assumption)
      case step =>
        intro i v T t9 l us k K O h tk hv hT8 hs ha hl1 hl2 hb Fi o1 o2 Ni
        obtain ⟨d9, hd9, ho9⟩ := ho3.get hv
        have hd9' := List.mem_of_getElem? hd9
        obtain ⟨n9, rfl⟩ : ∃ k, n = k + 1 := by
          cases n with
          | zero => exact ho9.elim
          | succ k => exact ⟨k, rfl⟩
        unfold rowsM at Fi
        walk_at "mine go"
        · have hz : z = (i : Int) := by assumption
          rw [show ((deep : Int) + 4) = ((deep + 4 : Nat) : Int) by omega]
          refine' IH n9 rfl (po := some zs) ?F ?X ?N ?T ho9 (hkok d9 hd9') ?ht hT9 ?hp ?hpl ?hdp ?hh ?hd ?hu ?_
          walk_at "mine goes"
          case ht => walk_at "mine sub"
          case hp => exact ⟨_, _, _, rfl, by k_mem, by assumption⟩
          case hpl => (intro q e; cases e; have := hpl _ rfl; simp only [List.length_cons] at this; omega)
          case hdp => omega
          intro l9 us9 k9 h9 tk9 F9 N9 la9 hs9
          k_lt la9
          walk_at "mine go"
          refine add_strs (by k_asm) (by k_asm) (News.isList (items := us.toArray) (by k_asm) (by k_mem)) (News.isList (items := us9.toArray) (by k_asm) (by k_mem)) hs hs9 ?_ (turn_len hn2 hk3 hkok hd9')
          intro D8 us8 h8 F8 N8 la8 hs8
          have la8' := la8
          k_lt la8
          walk_at "mine steps"
          exact rows_next (by k_asm) (by k_asm) (by walk_at "mine sub") (rowsM_twice _ l _ K O _ _ _ rfl) (by k_mem) (by show StrsAre us8 (_ :: kidLines _ _ (kids.take (i + 1)) 0); rw [kidLines_snoc hd9, nextPt_eq hz]; exact hs8) (above_sub la8' (by walk_at "mine sub")) (la8' (I, o2) (by k_mem)) (la8' (I + 1, o1) (by k_mem)) hb
        · have hz : ¬ z = (i : Int) := by assumption
          rw [show ((deep : Int) + 4) = ((deep + 4 : Nat) : Int) by omega]
          refine' IH n9 rfl (po := none) ?F ?X ?N ?T ho9 (hkok d9 hd9') ?ht hT9 ?hp ?hpl ?hdp ?hh ?hd ?hu ?_
          walk_at "mine goes"
          case ht => walk_at "mine sub"
          case hp => exact rfl
          case hpl => (intro zs e; cases e)
          case hdp => omega
          intro l9 us9 k9 h9 tk9 F9 N9 la9 hs9
          k_lt la9
          walk_at "mine go"
          refine add_strs (by k_asm) (by k_asm) (News.isList (items := us.toArray) (by k_asm) (by k_mem)) (News.isList (items := us9.toArray) (by k_asm) (by k_mem)) hs hs9 ?_ (turn_len hn2 hk3 hkok hd9')
          intro D8 us8 h8 F8 N8 la8 hs8
          have la8' := la8
          k_lt la8
          walk_at "mine steps"
          exact rows_next (by k_asm) (by k_asm) (by walk_at "mine sub") (rowsM_twice _ l _ K O _ _ _ rfl) (by k_mem) (by show StrsAre us8 (_ :: kidLines _ _ (kids.take (i + 1)) 0); rw [kidLines_snoc hd9, nextPt_ne hz]; exact hs8) (above_sub la8' (by walk_at "mine sub")) (la8' (I, o2) (by k_mem)) (la8' (I + 1, o1) (by k_mem)) hb
      case fin =>
        intro l us k K O h tk hs ha Fi Ni
        unfold rowsM at Fi
        walk_at "mine steps"
        refine hQ l us k _ _ (by k_asm) (fun q hq => (by assumption : News h₀ L _ (_ :: _)) q ((by walk_at "mine sub" : ∀ q ∈ (l, W.listOf us.toArray k) :: news, q ∈ _) q hq)) (above_sub ha (by walk_at "mine sub")) ?_
        rw [hpl9, List.take_length] at hs
        exact hs
theorem lines_call : ∀ n, n ≤ 2 → LinesCall (n + 1)
  | 0, h => lines_step 0 h fun k e => by omega
  | n + 1, h => lines_step (n + 1) h fun k e => by
    obtain rfl : n = k := by omega
    exact lines_call n (by omega)
end
example : True := by
  w_top off
  trivial
section
/-- the pointed node and the way to it say the same -/
def PtRel : Nat → Nd → Option (List Int) → Option Addr → Prop
  | 0, _, _, _ => True
  | n + 1, .mk a _ _ _ _ kids, po, err => (po = some [] ↔ err = some a) ∧ ∀ i d, kids[i]? = some d → PtRel n d (nextPt po i) err
theorem ptrel_none {err : Option Addr} : ∀ {n : Nat} {d : Nd}, (∀ a ∈ addrs n d, err ≠ some a) → PtRel n d none err
  | 0, _, _ => trivial
  | n + 1, .mk a k nm st en kids, h => by
    refine ⟨⟨fun e => (by cases e), fun e => absurd e (h a (.head _))⟩, fun i d hi => ?_⟩
    exact ptrel_none fun b hb => h b (.tail _ (List.mem_flatMap.mpr ⟨d, List.mem_of_getElem? hi, hb⟩))
theorem flat_disjoint {f : Nd → List Addr} : ∀ {kids : List Nd} {i j : Nat} {d1 d2 : Nd} {x : Addr}, (kids.flatMap f).Nodup → kids[i]? = some d1 → kids[j]? = some d2 → x ∈ f d1 → x ∈ f d2 → i = j
  | [], i, j, d1, d2, x, _, h1, _, _, _ => by simp at h1
  | d :: r, 0, 0, d1, d2, x, _, _, _, _, _ => rfl
  | d :: r, 0, j + 1, d1, d2, x, hn, h1, h2, m1, m2 => by
    rw [List.flatMap_cons] at hn
    have hd := (List.nodup_append.mp hn).2.2
    simp at h1 h2
    subst h1
    exact absurd rfl (hd x m1 x (List.mem_flatMap.mpr ⟨d2, List.mem_of_getElem? h2, m2⟩))
  | d :: r, i + 1, 0, d1, d2, x, hn, h1, h2, m1, m2 => by
    rw [List.flatMap_cons] at hn
    have hd := (List.nodup_append.mp hn).2.2
    simp at h1 h2
    subst h2
    exact absurd rfl (hd x m2 x (List.mem_flatMap.mpr ⟨d1, List.mem_of_getElem? h1, m1⟩))
  | d :: r, i + 1, j + 1, d1, d2, x, hn, h1, h2, m1, m2 => by
    rw [List.flatMap_cons] at hn
    have := flat_disjoint (i := i) (j := j) (List.nodup_append.mp hn).2.1 (by simpa using h1) (by simpa using h2) m1 m2
    rw [this]
theorem flat_part {f : Nd → List Addr} : ∀ {kids : List Nd} {d : Nd}, (kids.flatMap f).Nodup → d ∈ kids → (f d).Nodup
  | d :: r, e, hn, h => by
    rw [List.flatMap_cons] at hn
    rcases List.mem_cons.mp h with rfl | h
    · exact (List.nodup_append.mp hn).1
    · exact flat_part (List.nodup_append.mp hn).2.1 h
theorem ptrel_path {n n2 : Nat} {d d2 : Nd} {zs : List Int} (h : AtC n d zs n2 d2) (h2 : 0 < n2) (hn : (addrs n d).Nodup) : PtRel n d (some zs) (some d2.addr) := by
  induction h with
  | nil n d =>
    cases n with
    | zero => trivial
    | succ n =>
      obtain ⟨a, k, nm, st, en, kids⟩ := d
      have hn' : (a :: kids.flatMap (addrs n)).Nodup := hn
      refine ⟨⟨fun _ => rfl, fun _ => rfl⟩, fun i d1 hi => ptrel_none fun b hb e => ?_⟩
      have e' : a = b := Option.some.inj e
      exact (List.nodup_cons.mp hn').1 (e' ▸ List.mem_flatMap.mpr ⟨d1, List.mem_of_getElem? hi, hb⟩)
  | @cons n n2 i a k nm st en kids d1 d2 zs h1 hA ih =>
    have hn' : (a :: kids.flatMap (addrs n)).Nodup := hn
    have hm := hA.mem h2
    refine ⟨⟨fun e => (by cases e), fun e => ?_⟩, fun j d3 hj => ?_⟩
    · have e' : d2.addr = a := Option.some.inj e
      exact absurd (List.mem_flatMap.mpr ⟨d1, List.mem_of_getElem? h1, e' ▸ hm⟩) (List.nodup_cons.mp hn').1
    · show PtRel n d3 (if (i : Int) = (j : Int) then some zs else none) (some d2.addr)
      by_cases hij : i = j
      · subst hij
        rw [if_pos rfl]
        rw [h1] at hj
        cases hj
        exact ih h2 (flat_part (List.nodup_cons.mp hn').2 (List.mem_of_getElem? h1))
      · rw [if_neg (by omega)]
        exact ptrel_none fun b hb e => hij (flat_disjoint (List.nodup_cons.mp hn').2 h1 hj hm (by rw [Option.some.inj e]; exact hb))
theorem mul_zero9 (y : Str) : Txt.mul " " ((0 : Nat) : Int) ++ y = y := by
  have : Txt.mul " " ((0 : Nat) : Int) = Str.empty := by decide +kernel
  rw [this, sempty]
theorem mul_four (n : Nat) (y : Str) : Txt.mul " " ((n + 4 : Nat) : Int) ++ y = Txt.mul " " (n : Int) ++ ind y := by
  have e : (" " : Str) = ⟨#[32]⟩ := by decide +kernel
  apply str_inj
  unfold ind
  rw [e]
  simp only [Str.cps_append, Array.toList_append, mul_one_list, Int.toNat_natCast]
  have e4 : (Str.ofString "    ").cps.toList = List.replicate 4 32 := by decide +kernel
  rw [e4, ← List.append_assoc, List.replicate_append_replicate]
theorem sapp4 (a b c d e f g : Str) : a ++ (b ++ c ++ d ++ e ++ f ++ g) = a ++ b ++ c ++ d ++ e ++ f ++ g := by
  simp only [sapp]
theorem first_head {Tx nm : Str} {st en : Int} {po : Option (List Int)} {deep : Nat} {b : Bool} (h : po = some [] ↔ b = true) : firstLine Tx nm st en po deep = Txt.mul " " (deep : Int) ++ headT nm (sub Tx st en) b := by
  have e : Str.empty ++ Str.ofString "<" ++ Str.ofString "Node" = Str.ofString "<Node" := by decide +kernel
  have em : (if po = some [] then ("  <-- *** We were here. ***" : Str) else "") = markT b := by
    unfold markT
    by_cases hp : po = some []
    · rw [if_pos hp, if_pos (h.mp hp)]
    · rw [if_neg hp, if_neg (fun q => hp (h.mpr q))]
  unfold firstLine headT
  rw [em, e]
  show _ = Txt.mul " " (deep : Int) ++ (Str.ofString "<Node" ++ calledT nm ++ _ ++ _ ++ _ ++ _)
  rw [sapp4]
  rfl
theorem kidLines_flat {f : Nd → Option (List Int) → List Str} {g : Nd → List Str} {po : Option (List Int)} : ∀ {kids : List Nd} {k : Nat}, (∀ i d, kids[i]? = some d → f d (nextPt po (k + i)) = g d) → kidLines f po kids k = kids.flatMap g
  | [], _, _ => rfl
  | d :: r, k, h => by
    show f d (nextPt po k) ++ kidLines f po r (k + 1) = g d ++ r.flatMap g
    rw [← h 0 d rfl, kidLines_flat (g := g) fun i e hi => by
      have := h (i + 1) e (by simpa using hi)
      rw [show k + (i + 1) = k + 1 + i by omega] at this
      exact this]
    rfl
theorem tLines_pL {Tx : Str} {err : Option Addr} : ∀ {n : Nat} {d : Nd} {po : Option (List Int)} {deep : Nat}, PtRel n d po err → tLines Tx n d po deep = (pL Tx n d err).map fun y => Txt.mul " " (deep : Int) ++ y
  | 0, _, _, _, _ => rfl
  | n + 1, .mk a k nm st en kids, po, deep, h => by
    obtain ⟨h1, h2⟩ := h
    unfold tLines pL
    rw [List.map_cons, first_head (b := err == some a) ⟨fun e => by rw [h1.mp e]; simp, fun e => h1.mpr (by simpa using e)⟩]
    congr 1
    rw [kidLines_flat (g := fun d => ((pL Tx n d err).map ind).map fun y => Txt.mul " " (deep : Int) ++ y) fun i d hi => ?_, List.map_flatMap]
    rw [Nat.zero_add, tLines_pL (h2 i d hi), List.map_map]
    apply List.map_congr_left
    intro y _
    exact mul_four deep y
theorem tLines_zero {Tx : Str} {err : Option Addr} {n : Nat} {d : Nd} {po : Option (List Int)} (h : PtRel n d po err) : tLines Tx n d po 0 = pL Tx n d err := by
  rw [tLines_pL h]
  conv => rhs; rw [← List.map_id (pL Tx n d err)]
  apply List.map_congr_left
  intro y _
  exact mul_zero9 y
theorem pL_weight {Tx : Str} (hT : TextOk Tx) {err : Option Addr} {n : Nat} {d : Nd} (h : NdOk Tx n d) (hn : n ≤ 3) : ((pL Tx n d err).map (·.length)).sum + (pL Tx n d err).length ≤ 1048576 := by
  have hl := pL_len (err := err) h
  have h4 : 4 ^ n ≤ 4 ^ 3 := Nat.pow_le_pow_right (by decide) hn
  have := sum_len (B := 132) (ls := pL Tx n d err) fun y hy => by have := (pL_line hT h y hy).2.2; omega
  have h5 : (pL Tx n d err).length * 132 ≤ 64 * 132 := Nat.mul_le_mul_right _ (by omega)
  omega
theorem tab_out {tl : List (Addr × Obj)} {Wa D9 ce : Addr} {o1 o2 o3 o : Obj} (h1 : ∀ p ∈ tl ++ [(D9, o2), (ce, o3), (63, o)], p.1 < Wa) (h2 : Fresh [(D9, o2), (ce, o3), (63, o)] tl) (h3 : LCg.Off1 D9 [(ce, o3), (63, o)]) (h4 : @LT.lt Nat _ 63 ce) :
    ∀ q ∈ (Wa, o1) :: (tl ++ [(D9, o2), (ce, o3)]), @Ne Nat q.1 63 := by
  intro q hq
  rcases List.mem_cons.mp hq with rfl | hq
  · exact Ne.symm (Nat.ne_of_lt (h1 (63, o) (by simp)))
  · rcases List.mem_append.mp hq with hq | hq
    · exact Ne.symm (h2 (63, o) (by simp) q hq)
    · rcases List.mem_cons.mp hq with rfl | hq
      · exact Ne.symm h3.2.1
      · rw [List.mem_singleton.mp hq]
        exact Ne.symm (Nat.ne_of_lt h4)
theorem news_tab {g h : Heap} {L : Addr} {tl : List (Addr × Obj)} {Wa D9 ce : Addr} {o1 o2 o3 o : Obj} (N : News g L h ((Wa, o1) :: (tl ++ [(D9, o2), (ce, o3), (63, o)]))) : News g L h ((63, o) :: (Wa, o1) :: (tl ++ [(D9, o2), (ce, o3)])) := fun q hq => N q (by
  simp only [List.mem_append, List.mem_cons, List.not_mem_nil, or_false] at hq ⊢
  rcases hq with h | h | h | h | h
  · exact .inr (.inr (.inr (.inr h)))
  · exact .inl h
  · exact .inr (.inl h)
  · exact .inr (.inr (.inl h))
  · exact .inr (.inr (.inr (.inl h))))
theorem herr_of {tl r : List (Addr × Obj)} {Tx : Str} {n : Nat} {d : Nd} {x : Addr × Obj} (h : NodeIn tl Tx n d) : ∀ b, some d.addr = some b → ∃ ob, (b, ob) ∈ x :: (tl ++ r) ∧ ob.cls = .ref 99 := fun b e => by
  obtain ⟨d1, c, e1, v1, v2, v3, st, en, h1, _⟩ := nodeIn_obj h
  exact ⟨_, .tail _ (List.mem_append_left _ (Option.some.inj e ▸ h1)), rfl⟩
theorem pretty_other {Tx : Str} (hT : TextOk Tx) {err : Option Addr} {n : Nat} {d : Nd} (hok : NdOk Tx n d) (h : ∀ a ∈ addrs n d, err ≠ some a) : pretty Tx n d err = pretty Tx n d none := by
  rw [pretty_eq hT hok, pretty_eq hT hok, ← tLines_zero (ptrel_none h), tLines_zero (err := none) (ptrel_none fun a _ e => by cases e)]
theorem ne_more {tl2 R : List (Addr × Obj)} {c P : Addr} {o oc : Obj} (h : ∀ q ∈ (63, o) :: (c, oc) :: R, @Ne Nat q.1 P) (h2 : ∀ q ∈ tl2, @Ne Nat q.1 P) : ∀ q ∈ (63, o) :: (c, oc) :: (tl2 ++ R), @Ne Nat q.1 P := by
  intro q hq
  rcases List.mem_cons.mp hq with rfl | hq
  · exact h _ (.head _)
  · rcases List.mem_cons.mp hq with rfl | hq
    · exact h _ (.tail _ (.head _))
    · rcases List.mem_append.mp hq with hq | hq
      · exact h2 q hq
      · exact h q (.tail _ (.tail _ hq))
theorem other_out {B tl tl' : List (Addr × Obj)} {a' e : Addr} {T : Str} {st en : Int} {ys : List Value} {n : Nat} {d : Nd} (fr : Fresh B tl') (hs : ∀ q ∈ tl, q ∈ B) (hR : NodeObj tl' a' e T st en ys) (hh : ∀ a ∈ addrs n d, a ∈ tl.map (·.1)) :
    ∀ a ∈ addrs n d, (some a' : Option Addr) ≠ some a := by
  intro a ha e
  obtain ⟨d9, c9, t1, t2, t3, n9, h1, _⟩ := hR
  obtain ⟨q, hq, rfl⟩ := List.mem_map.mp (hh a ha)
  exact fr q (hs q hq) _ h1 (Option.some.inj e).symm
theorem herr_new {r tl' : List (Addr × Obj)} {a' e : Addr} {T : Str} {st en : Int} {ys : List Value} (hR : NodeObj tl' a' e T st en ys) : ∀ b, some a' = some b → ∃ ob, (b, ob) ∈ tl' ++ r ∧ ob.cls = .ref 99 := fun b e => by
  obtain ⟨d9, c9, t1, t2, t3, n9, h1, _⟩ := hR
  exact ⟨_, List.mem_append_left _ (Option.some.inj e ▸ h1), rfl⟩
theorem news_other {g h : Heap} {L : Addr} {tl2 tl1 R : List (Addr × Obj)} {x a b c : Addr × Obj} (N : News g L h (tl2 ++ (tl1 ++ x :: a :: b :: c :: R))) : News g L h (a :: b :: c :: (tl2 ++ R)) := fun q hq => N q (by
  rcases List.mem_cons.mp hq with rfl | hq
  · exact List.mem_append_right _ (List.mem_append_right _ (.tail _ (.head _)))
  · rcases List.mem_cons.mp hq with rfl | hq
    · exact List.mem_append_right _ (List.mem_append_right _ (.tail _ (.tail _ (.head _))))
    · rcases List.mem_cons.mp hq with rfl | hq
      · exact List.mem_append_right _ (List.mem_append_right _ (.tail _ (.tail _ (.tail _ (.head _)))))
      · rcases List.mem_append.mp hq with hq | hq
        · exact List.mem_append_left _ hq
        · exact List.mem_append_right _ (List.mem_append_right _ (.tail _ (.tail _ (.tail _ (.tail _ hq))))))
theorem repr_text {Tx c : Str} (hT : TextOk Tx) : Str.ofString "s = " ++ reprText Tx ++ Str.ofString "\n" ++ c = Str.ofString "s = '" ++ Tx ++ Str.ofString "'\n" ++ c := by
  rw [repr_ab hT.2]
  have e1 : Str.ofString "s = '" = Str.ofString "s = " ++ Str.ofString "'" := by decide +kernel
  have e2 : Str.ofString "'\n" = Str.ofString "'" ++ Str.ofString "\n" := by decide +kernel
  rw [e1, e2]
  simp only [sapp]
end
local macro_rules | `(tactic| walk_at "storeName") => `(tactic| (k_here; k_dflt (refine' storeX_L ?F ?N ?_ ?a ?b; (case F => k_asm); (case N => k_asm); (case a => rfl); (case b => rfl); k_whole; intro h' F' N'; (try k_sweep))))
local macro_rules | `(tactic| walk_at "ite") => `(tactic| (first | (refine Eq.mpr (if_pos (by with_reducible assumption)) ?_) | (refine Eq.mpr (if_neg (ne_true_of_eq_false (by with_reducible assumption))) ?_)))
example : True := by
  w_top off
  trivial
section
def Kd.name : Kd → Str
  | .lit _ => "Literal"
  | .seq => "Sequence"
  | .one => "OneOf"
def told (k : Kd) (nm : Str) : Str := "<" ++ k.name ++ " " ++ (if nm = "" then ("" : Str) else nm ++ " = ") ++ k.words ++ ">"
def tCode : Nat → Nd → Str
  | 0, _ => ""
  | n + 1, .mk _ k nm st en kids => "Node(" ++ told k nm ++ ", s, " ++ Str.ofString (toString st) ++ ", " ++ Str.ofString (toString en) ++ (if kids = [] then ("" : Str) else ", children=[" ++ Txt.join ", " (kids.map (tCode n)) ++ "]") ++ ")"
theorem int_len {i : Int} (h : 0 ≤ i) (k : i ≤ 8) : (Str.ofString (toString i)).length = 1 := by
  have : i = 0 ∨ i = 1 ∨ i = 2 ∨ i = 3 ∨ i = 4 ∨ i = 5 ∨ i = 6 ∨ i = 7 ∨ i = 8 := by omega
  rcases this with rfl | rfl | rfl | rfl | rfl | rfl | rfl | rfl | rfl <;> decide +kernel
theorem words_len {Tx : Str} {st en : Int} {kids : List Nd} {k : Kd} (hT : TextOk Tx) (h : KdOk Tx st en kids k) : k.words.length ≤ 11 := by
  cases k with
  | lit x =>
    obtain ⟨rfl, _⟩ := h
    have := (sub_ok (st := st) (en := en) hT).1
    show (Str.ofString "'" ++ sub Tx st en ++ Str.ofString "'").length ≤ 11
    rw [Str.length_append, Str.length_append, ll1]
    omega
  | seq => show (Str.ofString "'a' empty").length ≤ 11; rw [ll23]; omega
  | one => show (Str.ofString "'a' / empty").length ≤ 11; rw [ll24]; omega
theorem name_len (k : Kd) : k.name.length ≤ 8 := by
  cases k with
  | lit x => show (Str.ofString "Literal").length ≤ 8; rw [ll25]; omega
  | seq => show (Str.ofString "Sequence").length ≤ 8; rw [ll26]; omega
  | one => show (Str.ofString "OneOf").length ≤ 8; rw [ll27]; omega
theorem told_len {Tx nm : Str} {st en : Int} {kids : List Nd} {k : Kd} (hT : TextOk Tx) (hn : NameOk nm) (h : KdOk Tx st en kids k) : (told k nm).length ≤ 65 := by
  have h1 := words_len hT h
  have h2 := name_len k
  have h3 := hn.1
  have h4 : (if nm = "" then ("" : Str) else nm ++ " = ").length ≤ 43 := by
    by_cases e : nm = ""
    · rw [if_pos e, ll3]; omega
    · rw [if_neg e, Str.length_append, ll28]; omega
  unfold told
  simp only [Str.length_append, ll17, ll18, ll29]
  omega
theorem tCode_len {Tx : Str} (hT : TextOk Tx) : ∀ {n : Nat} {d : Nd}, NdOk Tx n d → (tCode n d).length ≤ 100 * 4 ^ n
  | 0, _, h => h.elim
  | n + 1, .mk a k nm st en kids, ⟨hnm, h0, h1, h2, h3, hkd, hk⟩ => by
    have hTl := hT.1
    have e1 := told_len hT hnm hkd
    have e2 := int_len h0 (by omega)
    have e3 := int_len (i := en) (by omega) (by omega)
    have e4 := txt_join_len ", " (kids.map (tCode n))
    have e5 := sum_le (fun d => (tCode n d).length) (100 * 4 ^ n) (l := kids) fun d hd => tCode_len hT (hk d hd)
    have e6 : kids.length * (100 * 4 ^ n) ≤ 3 * (100 * 4 ^ n) := Nat.mul_le_mul_right _ h3
    have e7 : 0 < 4 ^ n := Nat.pow_pos (by decide)
    rw [List.map_map, List.length_map, ll13] at e4
    have e8 : (if kids = [] then ("" : Str) else ", children=[" ++ Txt.join ", " (kids.map (tCode n)) ++ "]").length ≤ 19 + 3 * (100 * 4 ^ n) := by
      by_cases e : kids = []
      · rw [if_pos e, ll3]; omega
      · rw [if_neg e, Str.length_append, Str.length_append, ll15, ll16]
        have : (kids.map ((fun x => x.length) ∘ tCode n)).sum = (kids.map fun d => (tCode n d).length).sum := rfl
        omega
    unfold tCode
    simp only [Str.length_append, ll11, ll12, ll13, ll14, Nat.pow_succ]
    omega
def CodeCall (n : Nat) : Prop := ∀ {w : World} {A : Around} {s : Shared} {h₀ : Heap} {L : Addr} {m mg mb : Str → Option Value} {news t : List (Addr × Obj)} {p : Program} {loose : List Str} {mean : ExcName → Option Value}
    {d : Nd} {v : Value} {Tx : Str} {Q E : Value → Shared → Prop}
    (F : Fr h₀ L s.heap m) (X : (hd.heap_39 w.params).In h₀) (N : News h₀ L s.heap news) (T : Top p loose mean mg mb h₀)
    (ho : OwnIn t n v d) (hok : NdOk Tx n d) (ht : ∀ q ∈ t, q ∈ news) (hT : TextOk Tx)
    (hh : A.handled = none) (hd : A.depth + 20 * n ≤ 900) (hu : A.units + 300 * n ≤ 9000)
    (hQ : ∀ t' h' tk', Fr h₀ L h' m → News h₀ L h' news → Q (.str (tCode n d) t') { s with heap := h', toks := tk' }),
    wpAny (model PySem.Challenge.rw_vy0010_01.row.prog w) A (call (.ref 446) [v]) Q E s
theorem lit_last (x : Str) : (Txt.item (Kd.lit x).words (-1) == Str.ofString "'") = true := by
  have e : (Kd.lit x).words.cps = (Str.ofString "'" ++ x).cps ++ #[39] := by
    show (Str.ofString "'" ++ x ++ Str.ofString "'").cps = _
    rfl
  have hl : (Kd.lit x).words.length = (Str.ofString "'" ++ x).length + 1 := by
    show (Kd.lit x).words.cps.size = (Str.ofString "'" ++ x).cps.size + 1
    rw [e, Array.size_append]; rfl
  have hs : ∀ n : Nat, seqIndex? (-1) (n + 1) = some n := fun n => by
    show (if 0 ≤ (-1 : Int) + ((n + 1 : Nat) : Int) && (-1 : Int) + ((n + 1 : Nat) : Int) < ((n + 1 : Nat) : Int) then some ((-1 : Int) + ((n + 1 : Nat) : Int)).toNat else none) = some n
    rw [if_pos (by rw [Bool.and_eq_true]; exact ⟨decide_eq_true (by omega), decide_eq_true (by omega)⟩)]
    congr 1
    omega
  have h : Txt.charAt (Kd.lit x).words (-1) = some 39 := by
    unfold Txt.charAt
    rw [hl, hs, e]
    show ((Str.ofString "'" ++ x).cps ++ #[39])[(Str.ofString "'" ++ x).cps.size]? = some 39
    simp
  unfold Txt.item
  rw [h]
  decide +kernel
theorem ne_words (k : Kd) : 1 ≤ k.words.length := by
  cases k with
  | lit x =>
    show 1 ≤ (Str.ofString "'" ++ x ++ Str.ofString "'").length
    rw [Str.length_append, Str.length_append, ll1]; omega
  | seq => show 1 ≤ (Str.ofString "'a' empty").length; rw [ll23]; omega
  | one => show 1 ≤ (Str.ofString "'a' / empty").length; rw [ll24]; omega
local macro_rules | `(tactic| walk_at "subscriptTail Name UnaryOp str int") => `(tactic| (k_here; k_dflt (refine item_str (by decide) (by omega) (by omega) ?_; intro _)))
local macro_rules | `(tactic| walk_at "compareOp NotEq ref ref") => `(tactic| (k_here; (with_reducible show wpAny _ _ (compareOp CmpOp.NotEq (Value.ref _) (Value.ref _)) _ _ _); k_dflt (refine' PySem.EqBoolInt.of_rcne (SeqAt.RcNeAt.lists_lengths ?hl ?hb ?hsz ?hu) ?_; (case hl => exact News.isList (by k_asm) (by k_mem)); (case hb => exact News.isList (by k_asm) (by k_mem)); (case hsz => with_reducible assumption); (case hu => k_units))))
local macro_rules | `(tactic| walk_at "mine stop") => `(tactic| first
  | (with_reducible show wpAny _ _ (call (Value.ref 446) _ _) _ _ _)
  | (with_reducible show wpAny _ _ (call (Value.builtin "str.join") _ _) _ _ _))
def CodeInv (nw0 : List (Addr × Obj)) (n : Nat) (kids : List Nd) (i : Nat) (ys : List Value) (nw : List (Addr × Obj)) : Prop := nw = nw0 ∧ StrsAre ys ((kids.take i).map (tCode n))
theorem CodeInv.step {nw0 nw : List (Addr × Obj)} {n : Nat} {kids : List Nd} {i : Nat} {ys : List Value} {d : Nd} {t : Tok} (h : CodeInv nw0 n kids i ys nw) (hd : kids[i]? = some d) : CodeInv nw0 n kids (i + 1) (ys ++ [.str (tCode n d) t]) nw := by
  refine ⟨h.1, ?_⟩
  have e : kids.take (i + 1) = kids.take i ++ [d] := by rw [List.take_add_one, hd]; rfl
  rw [e, List.map_append]
  exact h.2.append' (.cons _ _ .nil)
theorem codes_weight {Tx : Str} (hT : TextOk Tx) {n : Nat} {kids : List Nd} (hn : n ≤ 2) (h3 : kids.length ≤ 3) (hk : ∀ t ∈ kids, NdOk Tx n t) :
    ((kids.map (tCode n)).map (·.length)).sum + (kids.map (tCode n)).length ≤ 1048576 ∧ (Txt.join ", " (kids.map (tCode n))).length ≤ 6000 := by
  have e4 := txt_join_len ", " (kids.map (tCode n))
  have e5 := sum_le (fun d => (tCode n d).length) (100 * 4 ^ n) (l := kids) fun d hd => tCode_len hT (hk d hd)
  have e6 : kids.length * (100 * 4 ^ n) ≤ 3 * (100 * 4 ^ n) := Nat.mul_le_mul_right _ h3
  have e7 : 4 ^ n ≤ 4 ^ 2 := Nat.pow_le_pow_right (by decide) hn
  rw [List.map_map, List.length_map, ll13] at e4
  have e9 : (kids.map ((fun x => x.length) ∘ tCode n)).sum = (kids.map fun d => (tCode n d).length).sum := rfl
  rw [List.map_map, List.length_map]
  constructor <;> omega
theorem tCode_eq (n : Nat) (a : Addr) (k : Kd) (nm : Str) (st en : Int) (kids : List Nd) : tCode (n + 1) (.mk a k nm st en kids) = "Node(" ++ ("<" ++ k.name ++ " " ++ (if nm = "" then ("" : Str) else nm ++ " = ") ++ k.words ++ ">") ++ ", s, " ++ Str.ofString (toString st) ++ ", " ++ Str.ofString (toString en) ++ (if kids = [] then ("" : Str) else ", children=[" ++ Txt.join ", " (kids.map (tCode n)) ++ "]") ++ ")" := rfl
def namE (nm : Str) : Str := if nm = "" then ("" : Str) else nm ++ " = "
theorem namE_len {nm : Str} (h : NameOk nm) : (namE nm).length ≤ 43 := by
  have := h.1
  unfold namE
  split
  · rw [ll3]; omega
  · rw [Str.length_append, show (Str.ofString " = ").length = 3 by decide +kernel]; omega
theorem tCode_eq2 (n : Nat) (a : Addr) (k : Kd) (nm : Str) (st en : Int) (kids : List Nd) : tCode (n + 1) (.mk a k nm st en kids) = "Node(" ++ ("<" ++ k.name ++ " " ++ namE nm ++ k.words ++ ">") ++ ", s, " ++ Str.ofString (toString st) ++ ", " ++ Str.ofString (toString en) ++ (if kids = [] then ("" : Str) else ", children=[" ++ Txt.join ", " (kids.map (tCode n)) ++ "]") ++ ")" := tCode_eq n a k nm st en kids
local macro_rules | `(tactic| walk_at "mine halt") => `(tactic| first
  | (with_reducible show wpAny _ _ (eval (Expr.IfExp _ _ _ _) _) _ _ _)
  | (with_reducible show ∃ _, _))
local macro_rules | `(tactic| walk_at "mine go") => `(tactic| repeat' ((fail_if_success (walk_at "mine halt")); (first | (k_unfold; (try dsimp only)) | (k_end; wrow_close) | walk1 | (dsimp only; walk1) | (leave1; walk_say "STEP leave1"; try dsimp only) | fail "no step")))
theorem code_step (n : Nat) (hn2 : n ≤ 2) (IH : ∀ k, n = k + 1 → CodeCall (k + 1)) : CodeCall (n + 1) := by
  intro w A s h₀ L m mg mb news t p loose mean d v Tx Q E F X N T ho hok ht hT9 hh hd hu hQ
  obtain ⟨a, kd, nm, st, en, kids⟩ := d
  obtain ⟨b, pl, u1, u2, u3, u4, m1, ps, rfl, ho1, ho2, ho3⟩ := ho
  obtain ⟨hnm, h0, h1, h2, hk3, hkd, hkok⟩ := hok
  have hTl := hT9.1
  have hnl := hnm.1
  have hpl9 := ho3.length
  have ho1' := ht _ ho1
  have ho2' := ht _ ho2
  have hle1 := int_len h0 (by omega)
  have hle2 := int_len (i := en) (by omega) (by omega)
  have hle3 := words_len hT9 hkd
  have hpl9 := ho3.length
  obtain ⟨W, hW⟩ : ∃ W, W = kd.words := ⟨_, rfl⟩
  have hW1 := ne_words kd
  rw [← hW] at ho1 ho1' hle3 hW1
  have hkl := name_len kd
  have hml := namE_len hnm
  rw [tCode_eq2, ← hW] at hQ
  revert X; k_fill; intro X
  show wpAny _ A (call (.ref 446) _) _ _ _
  refine wpAny_call ?_
  walk_at "mine enter"
  walk_at "mine go"
  refine ev_cut kd.name (by k_asm) (by k_asm) ?_ ?_
  · cases kd with
    | seq =>
      have hq1 : (Txt.item W (-1) == Str.ofString "'") = false := by rw [hW]; decide +kernel
      have hq2 : (!(Builtin.Str.occurrences W (Str.ofString "/") 0 W.length 1).isEmpty) = false := by rw [hW]; decide +kernel
      walk1
      walk_at "mine go"
      walk1
      walk_at "mine go"
      exact ⟨_, _, _, rfl, rfl, by k_asm, by k_asm⟩
    | one =>
      have hq1 : (Txt.item W (-1) == Str.ofString "'") = false := by rw [hW]; decide +kernel
      have hq2 : (!(Builtin.Str.occurrences W (Str.ofString "/") 0 W.length 1).isEmpty) = true := by rw [hW]; decide +kernel
      walk1
      walk_at "mine go"
      walk1
      walk_at "mine go"
      exact ⟨_, _, _, rfl, rfl, by k_asm, by k_asm⟩
    | lit x =>
      have hq1 : (Txt.item W (-1) == Str.ofString "'") = true := by rw [hW]; exact lit_last _
      walk1
      walk_at "mine go"
      exact ⟨_, _, _, rfl, rfl, by k_asm, by k_asm⟩
  intro t8 h8 tk8 F8 N8
  obtain ⟨KN, hKN⟩ : ∃ KN, KN = kd.name := ⟨_, rfl⟩
  rw [← hKN] at hQ hkl ⊢
  walk_at "mine go"
  refine ev_cut (namE nm) (by k_asm) (by k_asm) ?_ ?_
  · walk1
    by_cases hnm0 : nm = ""
    · subst hnm0
      walk_at "mine go"
      exact ⟨_, _, _, by unfold namE; rw [if_pos rfl], rfl, by k_asm, by k_asm⟩
    · have hnm1 : (nm != Str.ofString "") = true := by simpa using hnm0
      walk_at "mine go"
      exact ⟨_, _, _, by unfold namE; rw [if_neg hnm0], rfl, by k_asm, by k_asm⟩
  intro t7 h7 tk7 F7 N7
  obtain ⟨NE, hNE⟩ : ∃ NE, NE = namE nm := ⟨_, rfl⟩
  rw [← hNE] at hQ hml ⊢
  walk_at "mine go"
  by_cases hk0 : kids = []
  · rw [if_pos hk0] at hQ
    have hps0 : ps = [] := List.length_eq_zero_iff.mp (by rw [hpl9, hk0]; rfl)
    rw [hps0] at ho2 ho2'
    walk1
    walk_at "mine steps"
    exact hQ _ _ _ (by k_asm) (fun q hq => (by assumption : News h₀ L _ (_ :: _)) q ((by walk_at "mine sub" : ∀ q ∈ news, q ∈ _) q hq))
  · rw [if_neg hk0] at hQ
    have hsz9 : (ps.toArray.size != (#[] : Array Value).size) = true := by rw [List.size_toArray, hpl9]; cases kids with | nil => exact (hk0 rfl).elim | cons _ _ => simp
    walk1
    walk_at "mine steps"
    refine LCg.ListComp_U (F₀ := by k_asm) (by with_unfolding_all rfl) (by decide) (by rfl) (by decide) (by rfl) ?_
    walk_at "mine steps"
    refine LCg.CompSrc.ledger (its := ps.toArray) (by exact hh) (by k_asm) (by k_asm) (by k_mem) (by rw [sizeLine_eq, List.size_toArray]; omega) ?_
    intro g8
    refine rest_inv (CodeInv _ n kids) ?_ ?_ _ 0 [] _ (Nat.zero_add _) ⟨rfl, .nil⟩
    · intro i ys nw v I oI C oC D m₂ h tk E' hi9 hv hI hoC hx9 F9 N9 off9 ne9
      obtain ⟨d9, hd9, ho9⟩ := ho3.get (show ps[i]? = some v by simpa using hv)
      have hd9' := List.mem_of_getElem? hd9
      obtain ⟨rfl, hI'⟩ := id hI
      obtain ⟨n9, rfl⟩ : ∃ k, n = k + 1 := by
        cases n with
        | zero => exact ho9.elim
        | succ k => exact ⟨k, rfl⟩
      walk_at "mine steps"
      refine' IH n9 rfl ?F ?X ?N ?T ho9 (hkok d9 hd9') ?ht hT9 ?hh ?hd ?hu ?_
      walk_at "mine goes"
      case ht => walk_at "mine sub"
      intro t8 h8 tk8 F8 N8
      k_unfold
      dsimp only
      refine LCg.CompEnd.intro F8 N8 _ (fun p hp => hp) off9 (.inr ⟨_, by k_mem, rfl, _, rfl⟩) ?_
      exact hI.step hd9
    · intro ys nw hI
      obtain ⟨rfl, hys⟩ := hI
      rw [List.take_of_length_le (by rw [List.size_toArray]; omega)] at hys
      unfold LCg.FinE
      intro D2 h2' tk2 F2 N2 off2
      walk_at "mine steps"
      obtain ⟨hw1, hw2⟩ := codes_weight hT9 hn2 hk3 hkok
      refine join_listW (items := ys.toArray) (News.isList (by k_asm) (by k_mem)) (by simpa using hys) (by decide) hw1 ?_
      intro t7 k7
      walk_at "mine steps"
      exact hQ _ _ _ (by k_asm) (fun q hq => (by assumption : News h₀ L _ (_ :: _)) q ((by walk_at "mine sub" : ∀ q ∈ news, q ∈ _) q hq))
theorem code_call : ∀ n, n ≤ 2 → CodeCall (n + 1)
  | 0, h => code_step 0 h fun k e => by omega
  | n + 1, h => code_step (n + 1) h fun k e => by
    obtain rfl : n = k := by omega
    exact code_call n (by omega)
end
local macro_rules | `(tactic| walk_at "mine halt") => `(tactic| fail)
local macro_rules | `(tactic| walk_at "mine go") => `(tactic| repeat' ((fail_if_success (walk_at "mine halt")); (first | (k_unfold; (try dsimp only)) | (k_end; wrow_close) | walk1 | (dsimp only; walk1) | (leave1; walk_say "STEP leave1"; try dsimp only) | fail "no step")))
local macro_rules | `(tactic| walk_at "getAttr ref") => `(tactic| (k_here; (with_reducible show wpAny _ _ (getAttr (Value.ref _) (PySem.Str.ofString "__name__") _) _ _ _); k_dflt (refine' own_attr ?F ?X ?r ?t ?e ?o ?v ?hh ?_; (case F => k_asm); (case X => k_asm); (case r => k_is); (case t => k_is); (case e => k_is); (case o => k_is); (case v => exact rfl); (case hh => exact rfl); k_whole); intro u'))
section
local macro_rules | `(tactic| walk_at "mine none") => `(tactic| fail)
example : True := by
  w_top off
  trivial
section
local macro_rules | `(tactic| walk_at "mine halt") => `(tactic| first
  | (with_reducible show wpAny _ _ (eval (Expr.ListComp _ _ _ _) _) _ _ _)
  | (with_reducible show LCg.CompEnd _ _ _ _ _ _ _ _ _ _ _ _ _ _)
  | (with_reducible show LCg.FinE _ _ _ _ _ _ _)
  | (with_reducible show wpAny _ _ (call (Value.builtin "str.join") _ _) _ _ _)
  | (with_reducible show wpAny _ _ (call (Value.builtin "str.format") _ _) _ _ _)
  | (with_reducible show ∃ _, _))
local macro_rules | `(tactic| walk_at "call builtin:repr") => `(tactic| (k_here; (with_reducible show wpAny _ _ (call (Value.builtin "repr") [Value.str _ _]) _ _ _); k_dflt (refine P.repr_of_str (hsz := ?hsz) ?_; (case hsz => first | with_reducible assumption | decide +kernel))))
theorem rhs_seq {w : World} {A : Around} {s : Shared} {h₀ : Heap} {L : Addr} {m mg mb : Str → Option Value} {news t : List (Addr × Obj)} {p : Program} {loose : List Str} {mean : ExcName → Option Value}
    {e m1 m2 : Addr} {nm : Str} {Q E : Value → Shared → Prop}
    (F : Fr h₀ L s.heap m) (X : (hd.heap_39 w.params).In h₀) (N : News h₀ L s.heap news) (T : Top p loose mean mg mb h₀)
    (hE1 : CompIn t 394 e m1 m2 nm) (hE2 : LitIn t m1 "a" "") (hE3 : LitIn t m2 "" "empty") (ht : ∀ q ∈ t, q ∈ news)
    (hh : A.handled = none) (hd : A.depth + 10 ≤ 900) (hu : A.units + 200 ≤ 9000)
    (hQ : ∀ t' h' tk', Fr h₀ L h' m → News h₀ L h' news → Q (.str "('a' empty)" t') { s with heap := h', toks := tk' }) :
    wpAny (model PySem.Challenge.rw_vy0010_01.row.prog w) A (call (.ref 391) [.ref e]) Q E s := by
  obtain ⟨c1, it1, mm1, u1, hc1, hc2, hc3⟩ := hE1
  obtain ⟨d1, it2, u2, u3, hl1, hl2⟩ := hE2
  obtain ⟨d2, it3, u4, u5, hl3, hl4⟩ := hE3
  have hc1' := ht _ hc1
  have hc2' := ht _ hc2
  have hc3' := ht _ hc3
  have hl1' := ht _ hl1
  have hl2' := ht _ hl2
  have hl3' := ht _ hl3
  have hl4' := ht _ hl4
  revert X; k_fill; intro X
  show wpAny _ A (call (.ref 391) _) _ _ _
  refine wpAny_call ?_
  walk_at "mine enter"
  walk_at "mine go"
  refine ListComp_tup (F₀ := by k_asm) (by with_unfolding_all rfl) (by decide) (by rfl) (by decide) (by rfl) ?_
  walk_at "mine go"
  refine ⟨mm1, _, _, _, rfl, by exact hh, by k_asm, by k_asm, by k_mem, Nat.le_of_ble_eq_true rfl, ?_⟩
  intro g8
  refine .succ fun v I oI C oC D m₂ h tk E' hP hC hx F9 N9 off9 ne9 => ?_
  obtain rfl : v = .ref m1 := by simpa using hP.symm
  walk_at "mine go"
  refine LCg.CompEnd.intro (by assumption) (by assumption) _ (fun p hp => hp) off9 (by k_mem) ?_
  refine .succ fun v I oI C oC D m₂ h tk E' hP hC hx F9 N9 off9 ne9 => ?_
  obtain rfl : v = .ref m2 := by simpa using hP.symm
  walk_at "mine go"
  refine LCg.CompEnd.intro (by assumption) (by assumption) _ (fun p hp => hp) off9 (by k_mem) ?_
  refine .zero ?_
  unfold LCg.FinE
  intro D8 h8 tk8 F8 N8 off8
  walk_at "mine go"
  refine join_listW (items := List.toArray _) (ys := [reprText (Str.ofString "a"), Str.ofString "empty"]) (News.isList (by k_asm) (by k_mem)) (.cons _ _ (.cons _ _ .nil)) (by decide) (by decide +kernel) ?_
  intro t7 k7
  rw [show Txt.join (Str.ofString " ") [reprText (Str.ofString "a"), Str.ofString "empty"] = Str.ofString "'a' empty" by decide +kernel]
  walk_at "mine go"
  refine fmt_paren (by decide +kernel) ?_
  intro t6 k6
  rw [show Str.ofString "(" ++ Str.ofString "'a' empty" ++ Str.ofString ")" = Str.ofString "('a' empty)" by decide +kernel]
  walk_at "mine go"
  exact hQ _ _ _ (by k_asm) (fun q hq => (by assumption : News h₀ L _ (_ :: _)) q ((by walk_at "mine sub" : ∀ q ∈ news, q ∈ _) q hq))
theorem rhs_one {w : World} {A : Around} {s : Shared} {h₀ : Heap} {L : Addr} {m mg mb : Str → Option Value} {news t : List (Addr × Obj)} {p : Program} {loose : List Str} {mean : ExcName → Option Value}
    {e m1 m2 : Addr} {nm : Str} {Q E : Value → Shared → Prop}
    (F : Fr h₀ L s.heap m) (X : (hd.heap_39 w.params).In h₀) (N : News h₀ L s.heap news) (T : Top p loose mean mg mb h₀)
    (hE1 : CompIn t 420 e m1 m2 nm) (hE2 : LitIn t m1 "a" "") (hE3 : LitIn t m2 "" "empty") (ht : ∀ q ∈ t, q ∈ news)
    (hh : A.handled = none) (hd : A.depth + 10 ≤ 900) (hu : A.units + 200 ≤ 9000)
    (hQ : ∀ t' h' tk', Fr h₀ L h' m → News h₀ L h' news → Q (.str "('a' / empty)" t') { s with heap := h', toks := tk' }) :
    wpAny (model PySem.Challenge.rw_vy0010_01.row.prog w) A (call (.ref 417) [.ref e]) Q E s := by
  obtain ⟨c1, it1, mm1, u1, hc1, hc2, hc3⟩ := hE1
  obtain ⟨d1, it2, u2, u3, hl1, hl2⟩ := hE2
  obtain ⟨d2, it3, u4, u5, hl3, hl4⟩ := hE3
  have hc1' := ht _ hc1
  have hc2' := ht _ hc2
  have hc3' := ht _ hc3
  have hl1' := ht _ hl1
  have hl2' := ht _ hl2
  have hl3' := ht _ hl3
  have hl4' := ht _ hl4
  revert X; k_fill; intro X
  show wpAny _ A (call (.ref 417) _) _ _ _
  refine wpAny_call ?_
  walk_at "mine enter"
  walk_at "mine go"
  refine ListComp_tup (F₀ := by k_asm) (by with_unfolding_all rfl) (by decide) (by rfl) (by decide) (by rfl) ?_
  walk_at "mine go"
  refine ⟨mm1, _, _, _, rfl, by exact hh, by k_asm, by k_asm, by k_mem, Nat.le_of_ble_eq_true rfl, ?_⟩
  intro g8
  refine .succ fun v I oI C oC D m₂ h tk E' hP hC hx F9 N9 off9 ne9 => ?_
  obtain rfl : v = .ref m1 := by simpa using hP.symm
  walk_at "mine go"
  refine LCg.CompEnd.intro (by assumption) (by assumption) _ (fun p hp => hp) off9 (by k_mem) ?_
  refine .succ fun v I oI C oC D m₂ h tk E' hP hC hx F9 N9 off9 ne9 => ?_
  obtain rfl : v = .ref m2 := by simpa using hP.symm
  walk_at "mine go"
  refine LCg.CompEnd.intro (by assumption) (by assumption) _ (fun p hp => hp) off9 (by k_mem) ?_
  refine .zero ?_
  unfold LCg.FinE
  intro D8 h8 tk8 F8 N8 off8
  walk_at "mine go"
  refine join_listW (items := List.toArray _) (ys := [reprText (Str.ofString "a"), Str.ofString "empty"]) (News.isList (by k_asm) (by k_mem)) (.cons _ _ (.cons _ _ .nil)) (by decide) (by decide +kernel) ?_
  intro t7 k7
  rw [show Txt.join (Str.ofString " / ") [reprText (Str.ofString "a"), Str.ofString "empty"] = Str.ofString "'a' / empty" by decide +kernel]
  walk_at "mine go"
  refine fmt_paren (by decide +kernel) ?_
  intro t6 k6
  rw [show Str.ofString "(" ++ Str.ofString "'a' / empty" ++ Str.ofString ")" = Str.ofString "('a' / empty)" by decide +kernel]
  walk_at "mine go"
  exact hQ _ _ _ (by k_asm) (fun q hq => (by assumption : News h₀ L _ (_ :: _)) q ((by walk_at "mine sub" : ∀ q ∈ news, q ∈ _) q hq))
theorem rhs_lit {w : World} {A : Around} {s : Shared} {h₀ : Heap} {L : Addr} {m mg mb : Str → Option Value} {news t : List (Addr × Obj)} {p : Program} {loose : List Str} {mean : ExcName → Option Value}
    {e : Addr} {x nm : Str} {Q E : Value → Shared → Prop}
    (F : Fr h₀ L s.heap m) (X : (hd.heap_39 w.params).In h₀) (N : News h₀ L s.heap news) (T : Top p loose mean mg mb h₀)
    (hE : LitIn t e x nm) (ht : ∀ q ∈ t, q ∈ news) (hT9 : TextOk x)
    (hh : A.handled = none) (hd : A.depth + 10 ≤ 900) (hu : A.units + 200 ≤ 9000)
    (hQ : ∀ t' h' tk', Fr h₀ L h' m → News h₀ L h' news → Q (.str (Kd.lit x).words t') { s with heap := h', toks := tk' }) :
    wpAny (model PySem.Challenge.rw_vy0010_01.row.prog w) A (call (.ref 332) [.ref e]) Q E s := by
  obtain ⟨d1, it2, u2, u3, hl1, hl2⟩ := hE
  have hl1' := ht _ hl1
  have hl2' := ht _ hl2
  have hrw : reprText x = (Kd.lit x).words := repr_ab hT9.2
  have hrs : (reprText x).length ≤ sizeLine := by
    rw [hrw]
    show (Str.ofString "'" ++ x ++ Str.ofString "'").length ≤ sizeLine
    have := hT9.1
    rw [Str.length_append, Str.length_append, ll1, sizeLine_eq]
    omega
  rw [← hrw] at hQ
  revert X; k_fill; intro X
  show wpAny _ A (call (.ref 332) _) _ _ _
  refine wpAny_call ?_
  walk_at "mine enter"
  walk_at "mine go"
  exact hQ _ _ _ (by k_asm) (by k_asm)
end
end
local macro_rules | `(tactic| walk_at "mine halt") => `(tactic| first
  | (with_reducible show wpAny _ _ (eval (Expr.ListComp _ _ _ _) _) _ _ _)
  | (with_reducible show LCg.CompEnd _ _ _ _ _ _ _ _ _ _ _ _ _ _)
  | (with_reducible show LCg.FinE _ _ _ _ _ _ _)
  | (with_reducible show wpAny _ _ (call (Value.builtin "str.join") _ _) _ _ _)
  | (with_reducible show wpAny _ _ (call (Value.builtin "str.format") _ _) _ _ _)
  | (with_reducible show ∃ _, _))
local macro_rules | `(tactic| walk_at "call builtin:repr") => `(tactic| (k_here; (with_reducible show wpAny _ _ (call (Value.builtin "repr") [Value.str _ _]) _ _ _); k_dflt (refine P.repr_of_str (hsz := ?hsz) ?_; (case hsz => first | with_reducible assumption | decide +kernel))))
local macro_rules | `(tactic| walk_at "mine halt") => `(tactic| first
  | (with_reducible show wpAny _ _ (call (Value.ref 391) _ _) _ _ _)
  | (with_reducible show wpAny _ _ (call (Value.ref 417) _ _) _ _ _)
  | (with_reducible show wpAny _ _ (call (Value.ref 332) _ _) _ _ _))
local macro_rules | `(tactic| walk_at "And") => `(tactic| (refine And.intro (by ((simp only [Str.length_append, sizeLine_eq, ll0, ll1, ll2, ll3, ll4, ll5, ll6, ll7, ll8, ll9, ll10, ll11, ll12, ll13, ll14, ll15, ll16, ll17, ll18, ll19, ll20, ll21, ll22, ll23, ll24, ll25, ll26, ll27, ll28, ll29]); omega)) ?_))
local macro_rules | `(tactic| walk_at "mine halt") => `(tactic| first
  | (with_reducible show wpAny _ _ (storeName _ _ (Value.str (Txt.slice _ _ _) _)) _ _ _)
  | (with_reducible show wpAny _ _ (storeName _ _ (Value.str (Txt.strip _) _)) _ _ _))
local macro_rules | `(tactic| walk_at "getAttr ref") => `(tactic| (k_here; (with_reducible show wpAny _ _ (getAttr (Value.ref _) (PySem.Str.ofString "__class__") _) _ _ _); k_dflt (refine' get_classS ?k1 ?k2 ?k3 ?k4 ?k5 ?k6 ?k7 ?k8 ?k9 ?_; (case k1 => k_asm); (case k2 => k_asm); (case k3 => k_inst); (case k4 => k_is); (case k5 => k_is); (case k6 => k_is); (case k7 => k_is); (case k8 => k_is); (case k9 => k_is); k_whole)))
example : True := by
  w_top off
  trivial
section
theorem told_no {k : Kd} : told k "" = Str.empty ++ "<" ++ k.name ++ " " ++ k.words ++ ">" := by
  unfold told
  rw [if_pos rfl, sempty, sblank]
theorem told_nm {k : Kd} {nm : Str} (h : ¬ nm = "") : told k nm = Str.empty ++ "<" ++ k.name ++ " " ++ (Str.empty ++ nm ++ " = " ++ k.words) ++ ">" := by
  unfold told
  rw [if_neg h, sempty, sempty]
  simp only [sapp]
def ruleT (nm W : Str) : Str := if nm = "" then W else Str.empty ++ nm ++ " = " ++ W
theorem told_rule {k : Kd} {nm : Str} : told k nm = Str.empty ++ "<" ++ k.name ++ " " ++ ruleT nm k.words ++ ">" := by
  unfold ruleT
  by_cases h : nm = ""
  · rw [if_pos h, h]; exact told_no
  · rw [if_neg h]; exact told_nm h
theorem ruleT_len {nm W : Str} (h : NameOk nm) (k : W.length ≤ 11) : (ruleT nm W).length ≤ 60 := by
  have := h.1
  unfold ruleT
  split
  · omega
  · rw [Str.length_append, Str.length_append, Str.length_append, show (Str.ofString " = ").length = 3 by decide +kernel, show Str.empty.length = 0 by decide +kernel]; omega
local macro_rules | `(tactic| walk_at "mine halt") => `(tactic| first
  | (with_reducible show wpAny _ _ (eval (Expr.IfExp _ _ _ _) _) _ _ _))
theorem expr_repr {w : World} {A : Around} {s : Shared} {h₀ : Heap} {L : Addr} {m mg mb : Str → Option Value} {news t : List (Addr × Obj)} {p : Program} {loose : List Str} {mean : ExcName → Option Value}
    {e : Addr} {k : Kd} {nm : Str} {Tx : Str} {st en : Int} {kids : List Nd} {Q E : Value → Shared → Prop}
    (F : Fr h₀ L s.heap m) (X : (hd.heap_39 w.params).In h₀) (N : News h₀ L s.heap news) (T : Top p loose mean mg mb h₀)
    (hE : ExprIn t e k nm) (hnm : NameOk nm) (hkd : KdOk Tx st en kids k) (hT9 : TextOk Tx) (ht : ∀ q ∈ t, q ∈ news)
    (hh : A.handled = none) (hd : A.depth + 40 ≤ 900) (hu : A.units + 500 ≤ 9000)
    (hQ : ∀ t' h' tk', Fr h₀ L h' m → News h₀ L h' news → Q (.str (told k nm) t') { s with heap := h', toks := tk' }) :
    wpAny (model PySem.Challenge.rw_vy0010_01.row.prog w) A (call (.ref 120) [.ref e]) Q E s := by
  have hnl := hnm.1
  have hle3 := words_len hT9 hkd
  cases k with
  | seq =>
    have hE' := hE
    obtain ⟨m1, m2, ⟨c1, it1, mm1, u1, hc1, hc2, hc3⟩, _, _⟩ := hE'
    obtain ⟨n1, n2, hE1, hE2, hE3⟩ := hE
    have hc1' := ht _ hc1
    have hc2' := ht _ hc2
    have hc3' := ht _ hc3
    obtain ⟨W, hW⟩ : ∃ W, W = Kd.words .seq := ⟨_, rfl⟩
    obtain ⟨R, hR⟩ : ∃ R, R = Str.ofString "('a' empty)" := ⟨_, rfl⟩
    rw [← hW] at hle3
    have hRl : R.length ≤ 20 := by rw [hR]; decide +kernel
    have hRl1 : 2 ≤ R.length := by rw [hR]; decide +kernel
    have hst : Txt.strip R = R := by rw [hR]; decide +kernel
    have hsw : Txt.startswith R (Str.ofString "(") = true := by rw [hR]; decide +kernel
    have hew : Txt.endswith R (Str.ofString ")") = true := by rw [hR]; decide +kernel
    have hsl : Txt.slice R (some 1) (some (-1)) = W := by rw [hR, hW]; decide +kernel
    rw [told_rule, ← hW] at hQ
    revert X; k_fill; intro X
    show wpAny _ A (call (.ref 120) _) _ _ _
    refine wpAny_call ?_
    walk_at "mine enter"
    walk_at "mine go"
    refine' rhs_seq ?F ?X ?N ?T hE1 hE2 hE3 ?ht ?hh ?hd ?hu ?_
    walk_at "mine goes"
    case ht => walk_at "mine sub"
    intro t5 h5 tk5 F5 N5
    rw [← hR]
    walk_at "mine go"
    rw [hst]
    walk1
    walk_at "mine go"
    rw [hsl]
    walk1
    walk_at "mine go"
    refine ev_cut (ruleT nm W) (by k_asm) (by k_asm) ?_ ?_
    · walk1
      by_cases hnm0 : nm = ""
      · subst hnm0
        walk_at "mine go"
        exact ⟨_, _, _, by unfold ruleT; rw [if_pos rfl], rfl, by k_asm, by k_asm⟩
      · have hnm1 := slen_pos hnm0
        walk_at "mine go"
        · exact ⟨_, _, _, by unfold ruleT; rw [if_neg hnm0], rfl, by k_asm, by k_asm⟩
        · exfalso; omega
    intro t8 h8 tk8 F8 N8
    have hrl := ruleT_len hnm hle3
    walk_at "mine go"
    exact hQ _ _ _ (by k_asm) (fun q hq => (by k_asm : News h₀ L _ _) q ((by walk_at "mine sub" : ∀ q ∈ news, q ∈ _) q hq))
  | one =>
    have hE' := hE
    obtain ⟨m1, m2, ⟨c1, it1, mm1, u1, hc1, hc2, hc3⟩, _, _⟩ := hE'
    obtain ⟨n1, n2, hE1, hE2, hE3⟩ := hE
    have hc1' := ht _ hc1
    have hc2' := ht _ hc2
    have hc3' := ht _ hc3
    obtain ⟨W, hW⟩ : ∃ W, W = Kd.words .one := ⟨_, rfl⟩
    obtain ⟨R, hR⟩ : ∃ R, R = Str.ofString "('a' / empty)" := ⟨_, rfl⟩
    rw [← hW] at hle3
    have hRl : R.length ≤ 20 := by rw [hR]; decide +kernel
    have hRl1 : 2 ≤ R.length := by rw [hR]; decide +kernel
    have hst : Txt.strip R = R := by rw [hR]; decide +kernel
    have hsw : Txt.startswith R (Str.ofString "(") = true := by rw [hR]; decide +kernel
    have hew : Txt.endswith R (Str.ofString ")") = true := by rw [hR]; decide +kernel
    have hsl : Txt.slice R (some 1) (some (-1)) = W := by rw [hR, hW]; decide +kernel
    rw [told_rule, ← hW] at hQ
    revert X; k_fill; intro X
    show wpAny _ A (call (.ref 120) _) _ _ _
    refine wpAny_call ?_
    walk_at "mine enter"
    walk_at "mine go"
    refine' rhs_one ?F ?X ?N ?T hE1 hE2 hE3 ?ht ?hh ?hd ?hu ?_
    walk_at "mine goes"
    case ht => walk_at "mine sub"
    intro t5 h5 tk5 F5 N5
    rw [← hR]
    walk_at "mine go"
    rw [hst]
    walk1
    walk_at "mine go"
    rw [hsl]
    walk1
    walk_at "mine go"
    refine ev_cut (ruleT nm W) (by k_asm) (by k_asm) ?_ ?_
    · walk1
      by_cases hnm0 : nm = ""
      · subst hnm0
        walk_at "mine go"
        exact ⟨_, _, _, by unfold ruleT; rw [if_pos rfl], rfl, by k_asm, by k_asm⟩
      · have hnm1 := slen_pos hnm0
        walk_at "mine go"
        · exact ⟨_, _, _, by unfold ruleT; rw [if_neg hnm0], rfl, by k_asm, by k_asm⟩
        · exfalso; omega
    intro t8 h8 tk8 F8 N8
    have hrl := ruleT_len hnm hle3
    walk_at "mine go"
    exact hQ _ _ _ (by k_asm) (fun q hq => (by k_asm : News h₀ L _ _) q ((by walk_at "mine sub" : ∀ q ∈ news, q ∈ _) q hq))
  | lit x =>
    have hE' := hE
    obtain ⟨d1, it2, u2, u3, hl1, hl2⟩ := hE'
    have hl1' := ht _ hl1
    have hl2' := ht _ hl2
    obtain ⟨rfl, rfl⟩ := hkd
    obtain ⟨W, hW⟩ : ∃ W, W = (Kd.lit (sub Tx st en)).words := ⟨_, rfl⟩
    have hR := hW
    rw [← hW] at hle3
    have hst : Txt.strip W = W := by rw [hW]; exact q_strip _
    have hsw : Txt.startswith W (Str.ofString "(") = false := by rw [hW]; exact q_starts _
    rw [told_rule, ← hW] at hQ
    revert X; k_fill; intro X
    show wpAny _ A (call (.ref 120) _) _ _ _
    refine wpAny_call ?_
    walk_at "mine enter"
    walk_at "mine go"
    refine' rhs_lit ?F ?X ?N ?T hE ?ht (sub_ok hT9) ?hh ?hd ?hu ?_
    walk_at "mine goes"
    case ht => walk_at "mine sub"
    intro t5 h5 tk5 F5 N5
    rw [← hR]
    walk_at "mine go"
    rw [hst]
    walk1
    walk_at "mine go"
    refine ev_cut (ruleT nm W) (by k_asm) (by k_asm) ?_ ?_
    · walk1
      by_cases hnm0 : nm = ""
      · subst hnm0
        walk_at "mine go"
        exact ⟨_, _, _, by unfold ruleT; rw [if_pos rfl], rfl, by k_asm, by k_asm⟩
      · have hnm1 := slen_pos hnm0
        walk_at "mine go"
        · exact ⟨_, _, _, by unfold ruleT; rw [if_neg hnm0], rfl, by k_asm, by k_asm⟩
        · exfalso; omega
    intro t8 h8 tk8 F8 N8
    have hrl := ruleT_len hnm hle3
    walk_at "mine go"
    exact hQ _ _ _ (by k_asm) (fun q hq => (by k_asm : News h₀ L _ _) q ((by walk_at "mine sub" : ∀ q ∈ news, q ∈ _) q hq))
end
example : True := by
  w_top off
  trivial
section
theorem expr_reprObj {w : World} {A : Around} {s : Shared} {h₀ : Heap} {L : Addr} {m mg mb : Str → Option Value} {news t : List (Addr × Obj)} {p : Program} {loose : List Str} {mean : ExcName → Option Value}
    {e : Addr} {k : Kd} {nm : Str} {Tx : Str} {st en : Int} {kids : List Nd} {Q E : Value → Shared → Prop}
    (F : Fr h₀ L s.heap m) (X : (hd.heap_39 w.params).In h₀) (N : News h₀ L s.heap news) (T : Top p loose mean mg mb h₀)
    (hE : ExprIn t e k nm) (hnm : NameOk nm) (hkd : KdOk Tx st en kids k) (hT9 : TextOk Tx) (ht : ∀ q ∈ t, q ∈ news)
    (hh : A.handled = none) (hd : A.depth + 40 ≤ 900) (hu : A.units + 500 ≤ 9000)
    (hQ : ∀ t' h' tk', Fr h₀ L h' m → News h₀ L h' news → Q (.str (told k nm) t') { s with heap := h', toks := tk' }) :
    wpAny (model PySem.Challenge.rw_vy0010_01.row.prog w) A (pyReprObj (.ref e)) Q E s := by
  cases k with
  | seq =>
    obtain ⟨m1, m2, ⟨c1', it1, mm1, u1, hc1, hc2, hc3⟩, _, _⟩ := id hE
    have hc1' := ht _ hc1
    have hc2' := ht _ hc2
    have hX := X
    revert X; k_fill; intro X
    refine' reprObj_K (C := 394) (f := 120) ?k1 ?k2 ?k3 ?k4 ?k5 ?k6 ?_; (case k1 => k_units); (case k2 => k_asm); (case k3 => k_asm); (case k4 => k_inst); (case k5 => k_is); (case k6 => k_is)
    exact expr_repr F hX N T hE hnm hkd hT9 ht hh hd hu hQ
  | one =>
    obtain ⟨m1, m2, ⟨c1', it1, mm1, u1, hc1, hc2, hc3⟩, _, _⟩ := id hE
    have hc1' := ht _ hc1
    have hc2' := ht _ hc2
    have hX := X
    revert X; k_fill; intro X
    refine' reprObj_K (C := 420) (f := 120) ?k1 ?k2 ?k3 ?k4 ?k5 ?k6 ?_; (case k1 => k_units); (case k2 => k_asm); (case k3 => k_asm); (case k4 => k_inst); (case k5 => k_is); (case k6 => k_is)
    exact expr_repr F hX N T hE hnm hkd hT9 ht hh hd hu hQ
  | lit x =>
    obtain ⟨d1, it2, u2, u3, hl1, hl2⟩ := id hE
    have hl1' := ht _ hl1
    have hl2' := ht _ hl2
    have hX := X
    revert X; k_fill; intro X
    refine' reprObj_K (C := 336) (f := 120) ?k1 ?k2 ?k3 ?k4 ?k5 ?k6 ?_; (case k1 => k_units); (case k2 => k_asm); (case k3 => k_asm); (case k4 => k_inst); (case k5 => k_is); (case k6 => k_is)
    exact expr_repr F hX N T hE hnm hkd hT9 ht hh hd hu hQ
local macro_rules | `(tactic| walk_at "mine halt") => `(tactic| first
  | (with_reducible show wpAny _ _ (pyReprObj (Value.ref _)) _ _ _)
  | (with_reducible show LCg.CompSrc _ _ _ _ _ _ _ _ _ _ _ _ _ _)
  | (with_reducible show wpAny _ _ (call (Value.ref 95) _ _) _ _ _))
theorem tCode_told (n : Nat) (a : Addr) (k : Kd) (nm : Str) (st en : Int) (kids : List Nd) : tCode (n + 1) (.mk a k nm st en kids) = "Node(" ++ told k nm ++ ", s, " ++ Str.ofString (toString st) ++ ", " ++ Str.ofString (toString en) ++ (if kids = [] then ("" : Str) else ", children=[" ++ Txt.join ", " (kids.map (tCode n)) ++ "]") ++ ")" := rfl
theorem join_one (sep x9 : Str) : Txt.join sep [x9] = x9 := by rw [txt_join]; rfl
theorem join_two (sep x9 y9 : Str) : Txt.join sep [x9, y9] = x9 ++ sep ++ y9 := by rw [txt_join]; rfl
def ReprCall (n : Nat) : Prop := ∀ {w : World} {A : Around} {s : Shared} {h₀ : Heap} {L : Addr} {m mg mb : Str → Option Value} {news t : List (Addr × Obj)} {p : Program} {loose : List Str} {mean : ExcName → Option Value}
    {d : Nd} {Tx : Str} {Q E : Value → Shared → Prop}
    (F : Fr h₀ L s.heap m) (X : (hd.heap_39 w.params).In h₀) (N : News h₀ L s.heap news) (T : Top p loose mean mg mb h₀)
    (hn : NodeIn t Tx n d) (hok : NdOk Tx n d) (ht : ∀ q ∈ t, q ∈ news) (hT9 : TextOk Tx)
    (hh : A.handled = none) (hd : A.depth + 20 * n + 60 ≤ 900) (hu : A.units + 300 * n + 900 ≤ 9000)
    (hQ : ∀ t' h' tk', Fr h₀ L h' m → News h₀ L h' news → Q (.str (tCode n d) t') { s with heap := h', toks := tk' }),
    wpAny (model PySem.Challenge.rw_vy0010_01.row.prog w) A (call (.ref 95) [.ref d.addr] [(Str.ofString "top_level", .bool false)]) Q E s
theorem repr_step (n : Nat) (hn2 : n ≤ 2) (IH : 0 < n → ReprCall n) : ReprCall (n + 1) := by
  intro w A s h₀ L m mg mb news t p loose mean d Tx Q E F X N T hn hok ht hT9 hh hd hu hQ
  have hB := tCode_len hT9 hok
  have hB4 : 4 ^ (n + 1) ≤ 4 ^ 3 := Nat.pow_le_pow_right (by decide) (by omega)
  obtain ⟨a, kd, nm, st, en, kids⟩ := d
  rw [tCode_told] at hQ hB
  obtain ⟨e, hN, hE, hK⟩ := hn
  obtain ⟨hnm, h0, h1, h2, hk3, hkd, hkok⟩ := hok
  obtain ⟨d1, c1, v1, v2, v3, n1, hN1, hN2, hN3⟩ := hN
  have hTl := hT9.1
  have hN1' := ht _ hN1
  have hN2' := ht _ hN2
  have hN3' := ht _ hN3
  revert X; k_fill; intro X
  show wpAny _ A (call (.ref 95) [.ref a] _) _ _ _
  refine wpAny_call ?_
  walk_at "mine enter"
  walk_at "mine go"
  refine' expr_reprObj ?F ?X ?N ?T hE hnm hkd hT9 ?ht ?hh ?hd ?hu ?_
  walk_at "mine goes"
  case ht => walk_at "mine sub"
  intro t5 h5 tk5 F5 N5
  have htl := told_len hT9 hnm hkd
  have hle1 := int_len h0 (by omega)
  have hle2 := int_len (i := en) (by omega) (by omega)
  walk_at "mine go"
  cases kids with
  | nil =>
    rw [if_pos rfl] at hQ hB
    refine truthy_nilL (by k_asm) (by k_mem) ?_
    walk_at "mine go"
    refine join_listW (items := List.toArray _) (ys := [_]) (News.isList (by k_asm) (by k_mem)) (.cons _ _ .nil) (by decide) ?w1 ?_
    case w1 => (simp only [List.map_cons, List.map_nil, List.sum_cons, List.sum_nil, List.length_cons, List.length_nil]; omega)
    intro t7 k7
    rw [join_one]
    walk_at "mine go"
    exact hQ _ _ _ (by k_asm) (fun q hq => (by k_asm : News h₀ L _ _) q ((by walk_at "mine sub" : ∀ q ∈ news, q ∈ _) q hq))
  | cons d0 r0 =>
    rw [if_neg (List.cons_ne_nil _ _)] at hQ hB
    have hk3' : r0.length ≤ 2 := by simp only [List.length_cons] at hk3; omega
    refine truthy_consL (y := .ref d0.addr) (ys := r0.map fun t => .ref t.addr) (by k_asm) (by k_mem) (by rw [List.length_map]; omega) ?_
    walk_at "mine go"
    refine LCg.ListComp_U (F₀ := by k_asm) (by with_unfolding_all rfl) (by decide) (by rfl) (by decide) (by rfl) ?_
    walk_at "mine go"
    refine LCg.CompSrc.ledger (its := ((d0 :: r0).map fun t => Value.ref t.addr).toArray) (by exact hh) (by k_asm) (by k_asm) (by k_mem) (by rw [sizeLine_eq, List.size_toArray, List.length_map]; omega) ?_
    intro g8
    refine rest_inv (CodeInv _ n (d0 :: r0)) ?_ ?_ _ 0 [] _ (Nat.zero_add _) ⟨rfl, .nil⟩
    · intro i ys nw v I oI C oC D m₂ h tk E' hi9 hv hI hoC hx9 F9 N9 off9 ne9
      have hx := kid_at hv
      obtain ⟨d9, hx2⟩ := hx
      have hd9 := hx2.1
      have hv9 := hx2.2
      subst hv9
      have hd9' := List.mem_of_getElem? hd9
      have hn9 := hK d9 hd9'
      have hpos := nodeIn_pos hn9
      have hI0 := hI.1
      subst hI0
      have ho9 := nodeIn_obj hn9
      obtain ⟨d19, c19, e9, v19, v29, v39, st9, en9, hN9⟩ := ho9
      have hN19' := ht _ hN9.1
      have hN29' := ht _ hN9.2
      walk_at "mine go"
      refine' IH hpos ?F ?X ?N ?T hn9 (hkok d9 hd9') ?ht hT9 ?hh ?hd ?hu ?_
      walk_at "mine goes"
      case ht => walk_at "mine sub"
      intro t8 h8 tk8 F8 N8
      k_unfold
      dsimp only
      refine LCg.CompEnd.intro F8 N8 _ (fun p hp => hp) off9 (.inr ⟨_, by k_mem, rfl, _, rfl⟩) ?_
      exact hI.step hd9
    · intro ys nw hI
      have hI0 := hI.1
      subst hI0
      have hys := hI.2
      rw [List.take_of_length_le (by rw [List.size_toArray, List.length_map]; exact Nat.le_refl _)] at hys
      unfold LCg.FinE
      intro D2 h2' tk2 F2 N2 off2
      walk_at "mine go"
      have hcw := codes_weight hT9 hn2 hk3 hkok
      have hw2 := hcw.2
      refine join_listW (items := ys.toArray) (News.isList (by k_asm) (by k_mem)) (by simpa using hys) (by decide) hcw.1 ?_
      intro t7 k7
      generalize hJ : Txt.join (Str.ofString ", ") ((d0 :: r0).map (tCode n)) = J at hw2 hQ hB ⊢
      have o9 := off2
      simp only [LCg.Off1] at o9
      walk_at "mine go"
      refine join_listW (items := List.toArray _) (ys := [_]) (News.isList (by k_asm) (by k_mem)) (.cons _ _ .nil) (by decide) ?w1 ?_
      case w1 => (simp only [List.map_cons, List.map_nil, List.sum_cons, List.sum_nil, List.length_cons, List.length_nil]; omega)
      intro t7 k7
      rw [join_one]
      walk_at "mine go"
      exact hQ _ _ _ (by k_asm) (fun q hq => (by k_asm : News h₀ L _ _) q ((by walk_at "mine sub" : ∀ q ∈ news, q ∈ _) q hq))
theorem repr_call : ∀ n, n ≤ 3 → 0 < n → ReprCall n
  | 0, _, h => absurd h (Nat.lt_irrefl _)
  | n + 1, h, _ => repr_step n (by omega) fun h0 => repr_call n (by omega) h0
end
local macro_rules | `(tactic| walk_at "mine halt") => `(tactic| first
  | (with_reducible show wpAny _ _ (pyReprObj (Value.ref _)) _ _ _)
  | (with_reducible show LCg.CompSrc _ _ _ _ _ _ _ _ _ _ _ _ _ _)
  | (with_reducible show wpAny _ _ (call (Value.ref 95) _ _) _ _ _))
example : True := by
  w_top off
  trivial
section
local macro_rules | `(tactic| walk_at "binaryOp Mod str str") => `(tactic| (k_here; (with_reducible show wpAny _ _ (binaryOp Operator.Mod (Value.str (Str.ofString "s = %r") _) (Value.str _ _)) _ _ _); k_dflt (refine mod_r (by omega) (by omega) ?_); intro t' k'))
local macro_rules | `(tactic| walk_at "pyReprObj ref") => `(tactic| fail)
theorem repr_top (n : Nat) (hn2 : n ≤ 2) {w : World} {A : Around} {s : Shared} {h₀ : Heap} {L : Addr} {m mg mb : Str → Option Value} {news t : List (Addr × Obj)} {p : Program} {loose : List Str} {mean : ExcName → Option Value}
    {d : Nd} {Tx : Str} {Q E : Value → Shared → Prop}
    (F : Fr h₀ L s.heap m) (X : (hd.heap_39 w.params).In h₀) (N : News h₀ L s.heap news) (T : Top p loose mean mg mb h₀)
    (hn : NodeIn t Tx (n + 1) d) (hok : NdOk Tx (n + 1) d) (ht : ∀ q ∈ t, q ∈ news) (hT9 : TextOk Tx)
    (hh : A.handled = none) (hd : A.depth + 20 * (n + 1) + 60 ≤ 900) (hu : A.units + 300 * (n + 1) + 900 ≤ 9000)
    (hQ : ∀ t' h' tk', Fr h₀ L h' m → News h₀ L h' news → Q (.str ("s = " ++ reprText Tx ++ "\n" ++ tCode (n + 1) d) t') { s with heap := h', toks := tk' }) :
    wpAny (model PySem.Challenge.rw_vy0010_01.row.prog w) A (call (.ref 95) [.ref d.addr]) Q E s := by
  have IH : 0 < n → ReprCall n := fun h0 => repr_call n (by omega) h0
  have hB := tCode_len hT9 hok
  have hB4 : 4 ^ (n + 1) ≤ 4 ^ 3 := Nat.pow_le_pow_right (by decide) (by omega)
  obtain ⟨a, kd, nm, st, en, kids⟩ := d
  rw [tCode_told] at hQ hB
  obtain ⟨e, hN, hE, hK⟩ := hn
  obtain ⟨hnm, h0, h1, h2, hk3, hkd, hkok⟩ := hok
  obtain ⟨d1, c1, v1, v2, v3, n1, hN1, hN2, hN3⟩ := hN
  have hTl := hT9.1
  have hrw := repr_ab hT9.2
  have hrl : (reprText Tx).length ≤ 10 := by
    rw [hrw, Str.length_append, Str.length_append, ll1]
    omega
  have hs1 : (Str.ofString "s = " ++ reprText Tx).length ≤ 20 := by
    rw [Str.length_append, show (Str.ofString "s = ").length = 4 by decide +kernel]
    omega
  obtain ⟨RT, hRT⟩ : ∃ RT, RT = reprText Tx := ⟨_, rfl⟩
  have hrs : (reprText Tx).length ≤ sizeLine := by rw [sizeLine_eq]; omega
  have hN1' := ht _ hN1
  have hN2' := ht _ hN2
  have hN3' := ht _ hN3
  revert X; k_fill; intro X
  show wpAny _ A (call (.ref 95) [.ref a]) _ _ _
  refine wpAny_call ?_
  walk_at "mine enter"
  walk_at "mine go"
  refine' expr_reprObj ?F ?X ?N ?T hE hnm hkd hT9 ?ht ?hh ?hd ?hu ?_
  walk_at "mine goes"
  case ht => walk_at "mine sub"
  intro t5 h5 tk5 F5 N5
  have htl := told_len hT9 hnm hkd
  have hle1 := int_len h0 (by omega)
  have hle2 := int_len (i := en) (by omega) (by omega)
  walk_at "mine go"
  cases kids with
  | nil =>
    rw [if_pos rfl] at hQ hB
    refine truthy_nilL (by k_asm) (by k_mem) ?_
    walk_at "mine go"
    refine join_listW (items := List.toArray _) (ys := [_, _]) (News.isList (by k_asm) (by k_mem)) (.cons _ _ (.cons _ _ .nil)) (by decide) ?w1 ?_
    case w1 => (simp only [List.map_cons, List.map_nil, List.sum_cons, List.sum_nil, List.length_cons, List.length_nil]; omega)
    intro t7 k7
    rw [join_two]
    walk_at "mine go"
    exact hQ _ _ _ (by k_asm) (fun q hq => (by k_asm : News h₀ L _ _) q ((by walk_at "mine sub" : ∀ q ∈ news, q ∈ _) q hq))
  | cons d0 r0 =>
    rw [if_neg (List.cons_ne_nil _ _)] at hQ hB
    have hk3' : r0.length ≤ 2 := by simp only [List.length_cons] at hk3; omega
    refine truthy_consL (y := .ref d0.addr) (ys := r0.map fun t => .ref t.addr) (by k_asm) (by k_mem) (by rw [List.length_map]; omega) ?_
    walk_at "mine go"
    refine LCg.ListComp_U (F₀ := by k_asm) (by with_unfolding_all rfl) (by decide) (by rfl) (by decide) (by rfl) ?_
    walk_at "mine go"
    refine LCg.CompSrc.ledger (its := ((d0 :: r0).map fun t => Value.ref t.addr).toArray) (by exact hh) (by k_asm) (by k_asm) (by k_mem) (by rw [sizeLine_eq, List.size_toArray, List.length_map]; omega) ?_
    intro g8
    refine rest_inv (CodeInv _ n (d0 :: r0)) ?_ ?_ _ 0 [] _ (Nat.zero_add _) ⟨rfl, .nil⟩
    · intro i ys nw v I oI C oC D m₂ h tk E' hi9 hv hI hoC hx9 F9 N9 off9 ne9
      have hx := kid_at hv
      obtain ⟨d9, hx2⟩ := hx
      have hd9 := hx2.1
      have hv9 := hx2.2
      subst hv9
      have hd9' := List.mem_of_getElem? hd9
      have hn9 := hK d9 hd9'
      have hpos := nodeIn_pos hn9
      have hI0 := hI.1
      subst hI0
      have ho9 := nodeIn_obj hn9
      obtain ⟨d19, c19, e9, v19, v29, v39, st9, en9, hN9⟩ := ho9
      have hN19' := ht _ hN9.1
      have hN29' := ht _ hN9.2
      walk_at "mine go"
      refine' IH hpos ?F ?X ?N ?T hn9 (hkok d9 hd9') ?ht hT9 ?hh ?hd ?hu ?_
      walk_at "mine goes"
      case ht => walk_at "mine sub"
      intro t8 h8 tk8 F8 N8
      k_unfold
      dsimp only
      refine LCg.CompEnd.intro F8 N8 _ (fun p hp => hp) off9 (.inr ⟨_, by k_mem, rfl, _, rfl⟩) ?_
      exact hI.step hd9
    · intro ys nw hI
      have hI0 := hI.1
      subst hI0
      have hys := hI.2
      rw [List.take_of_length_le (by rw [List.size_toArray, List.length_map]; exact Nat.le_refl _)] at hys
      unfold LCg.FinE
      intro D2 h2' tk2 F2 N2 off2
      walk_at "mine go"
      have hcw := codes_weight hT9 hn2 hk3 hkok
      have hw2 := hcw.2
      refine join_listW (items := ys.toArray) (News.isList (by k_asm) (by k_mem)) (by simpa using hys) (by decide) hcw.1 ?_
      intro t7 k7
      generalize hJ : Txt.join (Str.ofString ", ") ((d0 :: r0).map (tCode n)) = J at hw2 hQ hB ⊢
      have o9 := off2
      simp only [LCg.Off1] at o9
      walk_at "mine go"
      refine join_listW (items := List.toArray _) (ys := [_, _]) (News.isList (by k_asm) (by k_mem)) (.cons _ _ (.cons _ _ .nil)) (by decide) ?w1 ?_
      case w1 => (simp only [List.map_cons, List.map_nil, List.sum_cons, List.sum_nil, List.length_cons, List.length_nil]; omega)
      intro t7 k7
      rw [join_two]
      walk_at "mine go"
      exact hQ _ _ _ (by k_asm) (fun q hq => (by k_asm : News h₀ L _ _) q ((by walk_at "mine sub" : ∀ q ∈ news, q ∈ _) q hq))
end
example : True := by
  w_top off
  trivial
section
local macro_rules | `(tactic| walk_at "mine sub") => `(tactic| (repeat' (first | assumption | exact fun q9 hq9 => hq9 | (refine sub_consL (by k_mem) ?_) | (refine sub_cons ?_) | (refine sub_app ?_))))
local macro_rules | `(tactic| walk_at "mine halt") => `(tactic| first
  | (with_reducible show wpAny _ _ (exec (Stmt.FunctionDef _ _ _ _ _ _ _ _ _ _) _) _ _ _)
  | (with_reducible show wpAny _ _ (exec (Stmt.For _ _ _ _ _) _) _ _ _)
  | (with_reducible show wpAny _ _ (eval (Expr.GeneratorExp _ _ _ _) _) _ _ _)
  | (with_reducible show wpAny _ _ (eval (Expr.IfExp _ _ _ _) _) _ _ _)
  | (with_reducible show wpAny _ _ (call (Value.ref 68) _ _) _ _ _)
  | (with_reducible show wpAny _ _ (pyIter (Value.ref _)) _ _ _)
  | (with_reducible show wpAny _ _ (call (Value.builtin "str.splitlines") _ _) _ _ _)
  | (with_reducible show wpAny _ _ (call (Value.builtin "list.append") _ _) _ _ _)
  | (with_reducible show wpAny _ _ (call (Value.builtin "str.join") _ _) _ _ _)
  | (with_reducible show wpAny _ _ (call (Value.ref _) [Value.str _ _]) _ _ _)
  | (with_reducible show ∃ _, _))
theorem is_eq {M : Model} {A : Around} {E : Value → Shared → Prop} {s : Shared} {x y : Addr} {Q : Value → Shared → Prop} (e : x = y) (h : Q (.bool true) s) : wpAny M A (compareOp .Is (.ref x) (.ref y)) Q E s := by
  subst e; exact wpAny_is_ref_self h
local macro_rules | `(tactic| walk_at "And") => `(tactic| (refine And.intro (by ((simp only [Str.length_append, sizeLine_eq, ll0, ll3, ll8, ll9, ll17, ll29, ll31]); omega)) ?_))
def PrettyB (n : Nat) : Prop := ∀ {w : World} {A : Around} {s : Shared} {h₀ : Heap} {L c' P' : Addr} {oc : Obj} {ps : Array Value} {m mg mb : Str → Option Value} {news t : List (Addr × Obj)} {p : Program} {loose : List Str} {mean : ExcName → Option Value}
    {d : Nd} {Tx : Str} {err : Option Addr} {Q E : Value → Shared → Prop}
    (F : Fr h₀ L s.heap m) (X : (hd.heap_39 w.params).In h₀) (N : News h₀ L s.heap ((P', tabObj ps) :: news)) (T : Top p loose mean mg mb h₀)
    (hn : NodeIn t Tx n d) (hok : NdOk Tx n d) (ht : ∀ q ∈ t, q ∈ news) (hT9 : TextOk Tx) (herr : ∀ b, err = some b → ∃ ob, (b, ob) ∈ news ∧ ob.cls = .ref 99)
    (h63 : (63, tabObj #[rawInt ((28 : Nat) : Int), rawInt ((8 : Nat) : Int), .ref c']) ∈ news) (hco : (c', oc) ∈ news) (hcO : CodeO oc c' P' "Node.prettily.<locals>.indent") (hps : psOk ps) (hPn : ∀ q ∈ news, @Ne Nat q.1 P') (C : CodeHd h₀ 67 63) (G : AllBare s.gens)
    (hh : A.handled = none) (hd : A.depth + 20 * n + 60 ≤ 900) (hu : A.units + 300 * n + 900 ≤ 9000)
    (hQ : ∀ t' s' ps', Fr h₀ L s'.heap m → News h₀ L s'.heap ((P', tabObj ps') :: news) → psOk ps' → AllBare s'.gens → s'.os = s.os → Q (.str (pretty Tx n d err) t') s'),
    wpAny (model PySem.Challenge.rw_vy0010_01.row.prog w) A (call (.ref 68) [.ref d.addr] [(Str.ofString "error", errV err)]) Q E s
def PrettyG (n : Nat) : Prop := ∀ {w : World} {A : Around} {s : Shared} {h₀ : Heap} {L : Addr} {m mg mb : Str → Option Value} {news tl t : List (Addr × Obj)} {p : Program} {loose : List Str} {mean : ExcName → Option Value}
    {d : Nd} {Tx : Str} {err : Option Addr} {kw : List (Str × Value)} {Q E : Value → Shared → Prop}
    (F : Fr h₀ L s.heap m) (X : (hd.heap_39 w.params).In h₀) (N : News h₀ L s.heap (tl ++ news)) (T : Top p loose mean mg mb h₀)
    (hn : NodeIn t Tx n d) (hok : NdOk Tx n d) (ht : ∀ q ∈ t, q ∈ news) (hT9 : TextOk Tx) (herr : ∀ b, err = some b → ∃ ob, (b, ob) ∈ news ∧ ob.cls = .ref 99)
    (hkw : kw = [(Str.ofString "error", errV err)] ∨ (kw = [] ∧ err = none)) (htl : TabL news tl) (C : CodeHd h₀ 67 63) (G : AllBare s.gens)
    (hh : A.handled = none) (hd : A.depth + 20 * n + 60 ≤ 900) (hu : A.units + 300 * n + 900 ≤ 9000)
    (hQ : ∀ t' s' c' P' oc ps', (∀ c1 P1 oc1 ps1, tl = [(P1, tabObj ps1), (63, tabT c1), (c1, oc1)] → c' = c1 ∧ P' = P1 ∧ oc = oc1) → Fr h₀ L s'.heap m → News h₀ L s'.heap ((P', tabObj ps') :: (63, tabT c') :: (c', oc) :: news) →
      CodeO oc c' P' qualT → psOk ps' → (∀ q ∈ (63, tabT c') :: (c', oc) :: news, @Ne Nat q.1 P') → AllBare s'.gens → s'.os = s.os → Q (.str (pretty Tx n d err) t') s'),
    wpAny (model PySem.Challenge.rw_vy0010_01.row.prog w) A (call (.ref 68) [.ref d.addr] kw) Q E s
theorem prettyB_of {n : Nat} (h : PrettyG n) : PrettyB n := by
  intro w A s h₀ L c' P' oc ps m mg mb news t p loose mean d Tx err Q E F X N T hn hok ht hT9 herr h63 hco hcO hps hPn C G hh hd hu hQ
  refine h (tl := [(P', tabObj ps), (63, tabT c'), (c', oc)]) (news := news) F X (fun q hq => ?_) T hn hok ht hT9 herr (.inl rfl) (.grown hcO hps fun q hq => ?_) C G hh hd hu ?_
  · rcases List.mem_cons.mp hq with rfl | hq
    · exact N _ (.head _)
    · rcases List.mem_cons.mp hq with rfl | hq
      · exact N _ (.tail _ h63)
      · rcases List.mem_cons.mp hq with rfl | hq
        · exact N _ (.tail _ hco)
        · exact N _ (.tail _ hq)
  · rcases List.mem_cons.mp hq with rfl | hq
    · exact hPn _ h63
    · rcases List.mem_cons.mp hq with rfl | hq
      · exact hPn _ hco
      · exact hPn _ hq
  · intro t' s' c2 P2 oc2 ps' hst F' N' co hps' hne G' ho'
    obtain ⟨rfl, rfl, rfl⟩ := hst _ _ _ _ rfl
    exact hQ t' s' ps' F' (fun q hq => N' q (by
      rcases List.mem_cons.mp hq with rfl | hq
      · exact .head _
      · exact .tail _ (.tail _ (.tail _ hq)))) hps' G' ho'
theorem news_third {g h : Heap} {L : Addr} {a b c : Addr × Obj} {r : List (Addr × Obj)} (N : News g L h (a :: b :: c :: r)) : News g L h (c :: a :: b :: r) := fun q hq => by
  rcases List.mem_cons.mp hq with rfl | hq
  · exact N _ (.tail _ (.tail _ (.head _)))
  · rcases List.mem_cons.mp hq with rfl | hq
    · exact N _ (.head _)
    · rcases List.mem_cons.mp hq with rfl | hq
      · exact N _ (.tail _ (.head _))
      · exact N _ (.tail _ (.tail _ (.tail _ hq)))
theorem append_us {prog : Program} {w : World} {A : Around} {E : Value → Shared → Prop} {s : Shared} {h₀ : Heap} {L D : Addr} {m : Str → Option Value} {news news' : List (Addr × Obj)} {us : List Value} {n : Nat} {x : Value} {Q : Value → Shared → Prop} (F : Fr h₀ L s.heap m) (N : News h₀ L s.heap news)
    (U : Upd D (W.listOf us.toArray n) (W.listOf (us ++ [x]).toArray (n + 1)) news news') (h : ∀ h', Fr h₀ L h' m → News h₀ L h' news' → Q .none { s with heap := h' }) (hsz : us.length ≤ sizeLine) : wpAny (model prog w) A (call (.builtin "list.append") [.ref D, x]) Q E s := by
  refine append_K (its := us.toArray) (n := n) F N ?_ h (by rw [List.size_toArray]; exact hsz)
  rw [List.push_toArray]
  exact U
theorem it_done {g h h' : Heap} {L J : Addr} {m : Str → Option Value} {rest : List (Addr × Obj)} {oJ : Obj} (F : Fr g L h m) (N : News g L h ((J, oJ) :: rest)) (hJ : ∀ q ∈ rest, @Ne Nat q.1 J)
    (hk : ∀ b o, b ≠ J → h.get? b = some o → h'.get? b = some o) : Fr g L h' m ∧ News g L h' rest := by
  have n := N _ (.head _)
  refine ⟨⟨F.ns.at fun o e => hk _ o (Ne.symm n.2.1) e, fun b o e => hk b o (fun q => by rw [q, n.2.2] at e; cases e) (F.keep b o e), F.above⟩, fun q hq => ?_⟩
  have k := N q (.tail _ hq)
  exact ⟨hk _ _ (hJ q hq) k.1, k.2⟩
theorem news_drop2 {g h : Heap} {L : Addr} {a b : Addr × Obj} {r : List (Addr × Obj)} (N : News g L h (a :: b :: r)) : News g L h (a :: r) := fun q hq => by
  rcases List.mem_cons.mp hq with rfl | hq
  · exact N _ (.head _)
  · exact N _ (.tail _ (.tail _ hq))
theorem news_swap {g h : Heap} {L : Addr} {a b : Addr × Obj} {r : List (Addr × Obj)} (N : News g L h (a :: b :: r)) : News g L h (b :: a :: r) := fun q hq => by
  rcases List.mem_cons.mp hq with rfl | hq
  · exact N _ (.tail _ (.head _))
  · rcases List.mem_cons.mp hq with rfl | hq
    · exact N _ (.head _)
    · exact N _ (.tail _ (.tail _ hq))
theorem news_upto {g h h' : Heap} {L P K : Addr} {o o' : Obj} {r : List (Addr × Obj)} (N : News g L h ((P, o) :: r)) (hK : ∀ q ∈ (P, o') :: r, q.1 ≤ K) (hk : ∀ b o, b ≤ K → h.get? b = some o → h'.get? b = some o) : News g L h' ((P, o) :: r) := fun q hq => by
  refine ⟨hk _ _ ?_ (N q hq).1, (N q hq).2⟩
  rcases List.mem_cons.mp hq with rfl | hq
  · exact hK (P, o') (.head _)
  · exact hK q (.tail _ hq)
theorem range_tx {g : Str → Str} {ts : List Str} : (List.range ts.length).map (fun j => g (ts.getD j "")) = ts.map g := by
  apply List.ext_getElem?
  intro j
  by_cases hj : j < ts.length
  · simp [hj, List.getD_eq_getElem?_getD]
  · rw [List.getElem?_eq_none (by simpa using Nat.le_of_not_lt hj), List.getElem?_eq_none (by simpa using Nat.le_of_not_lt hj)]
theorem gen_tx {g : Str → Str} {ts : List Str} (j : Nat) (v : Value) (h : ∃ i, (List.range ts.length)[j]? = some i ∧ ∃ t, v = .str (g (ts.getD i "")) t) : ∃ u, v = .str (g (ts.getD j "")) u := by
  obtain ⟨i, hi, t, e⟩ := h
  have hij : i = j := by
    by_cases hj : j < ts.length
    · rw [List.getElem?_range hj] at hi; exact (Option.some.inj hi).symm
    · rw [List.getElem?_eq_none (by simpa using Nat.le_of_not_lt hj)] at hi; cases hi
  subst hij
  exact ⟨t, e⟩
theorem prettyG_step (n : Nat) (hn2 : n ≤ 2) (IH : 0 < n → PrettyB n) : PrettyG (n + 1) := by
  intro w A s h₀ L m mg mb news0 tl t p loose mean d Tx err kw Q E F X N T hn hok ht hT9 herr hkw htl C G hh hd hu hQ
  obtain ⟨a, kd, nm, st, en, kids⟩ := d
  obtain ⟨e, hN, hE, hK⟩ := hn
  obtain ⟨hnm, h0, h1, h2, hk3, hkd, hkok⟩ := hok
  obtain ⟨d1, c1, v1, v2, v3, n1, hN1, hN2, hN3⟩ := hN
  have hTl := hT9.1
  have hnl := hnm.1
  have hsub : (Txt.slice Tx (some st) (some en)).length ≤ 8 := (sub_ok hT9).1
  have hN1' := ht _ hN1
  have hN2' := ht _ hN2
  have hN3' := ht _ hN3
  revert X; k_fill; intro X
  show wpAny _ A (call (.ref 68) [.ref a] _) _ _ _
  refine wpAny_call ?_
  refine' enterK (binds := [(Str.ofString "self", Value.ref a), (Str.ofString "error", errV err)]) ?k2 ?k3 ?k4 ?k5 ?k6 ?k7 ?k8 ?k9 ?kB ?_ ?c5 ?c2 ?c3 ?c4
  case k2 => k_asm
  case k3 => k_asm
  case k4 => k_asm
  case k5 => k_asm
  case k6 => k_is
  case k7 => k_is
  case k8 => k_room
  case k9 =>
    rcases hkw with rfl | ⟨rfl, rfl⟩
    · first | exact BindsTo.of_eq rfl | exact binds_K (by k_in) rfl (by k_is) rfl rfl rfl
    · first | exact BindsTo.of_eq rfl | exact binds_K (by k_in) rfl (by k_is) rfl rfl rfl
  case c5 => decide
  case kB => exact locs rfl
  case c2 => exact rfl
  case c3 => exact rfl
  case c4 => exact rfl
  clear hkw
  intro g' L' h' FG' F' N' X' T' l1 st' sz'
  walk_at "mine go"
  refine nestDef_K rfl rfl rfl ?_
  refine' nest_any (tl := tl) ?F1 ?N1 htl ?T1 ?C1 rfl rfl rfl rfl rfl ?_
  case F1 => k_asm
  case N1 => k_asm
  case T1 => k_asm
  case C1 => exact C.keeps (by assumption)
  intro f9 c' P' oc ps ct9 doc9 h9 tk9 hst9 F9 N9 hcO hps hPn l91
  have h63 : (63, tabT c') ∈ (63, tabT c') :: (c', oc) :: news0 := .head _
  have hco : (c', oc) ∈ (63, tabT c') :: (c', oc) :: news0 := .tail _ (.head _)
  have hN1' : _ ∈ (63, tabT c') :: (c', oc) :: news0 := .tail _ (.tail _ hN1')
  have hN2' : _ ∈ (63, tabT c') :: (c', oc) :: news0 := .tail _ (.tail _ hN2')
  have hN3' : _ ∈ (63, tabT c') :: (c', oc) :: news0 := .tail _ (.tail _ hN3')
  have ht : ∀ q ∈ t, q ∈ (63, tabT c') :: (c', oc) :: news0 := fun q hq => .tail _ (.tail _ (ht q hq))
  have herr : ∀ b, err = some b → ∃ ob, (b, ob) ∈ (63, tabT c') :: (c', oc) :: news0 ∧ ob.cls = .ref 99 := fun b hb => let ⟨ob, h1, h2⟩ := herr b hb; ⟨ob, .tail _ (.tail _ h1), h2⟩
  have hsub9 : ∀ q ∈ news0, q ∈ (63, tabT c') :: (c', oc) :: news0 := fun q hq => .tail _ (.tail _ hq)
  generalize hnews : (63, tabT c') :: (c', oc) :: news0 = news at h63 hco hN1' hN2' hN3' ht herr hsub9 N9 hPn l91
  have l95 := l91
  k_lt l91
  walk_at "mine go"
  refine ev_cut (calledT nm) (by k_asm) (by k_asm) ?_ ?_
  · walk1
    by_cases hnm0 : nm = ""
    · subst hnm0
      walk_at "mine go"
      exact ⟨_, _, _, by unfold calledT; rw [if_pos rfl], rfl, by k_asm, by k_asm⟩
    · have hnm1 := slen_pos hnm0
      walk_at "mine go"
      · exact ⟨_, _, _, by unfold calledT; rw [if_neg hnm0], rfl, by k_asm, by k_asm⟩
      · exfalso; omega
  intro t8 h8 tk8 F8 N8
  have hcl := called_len hnm
  walk_at "mine go"
  refine ev_cut (markT (err == some a)) (by k_asm) (by k_asm) ?_ ?_
  · walk1
    cases err with
    | none =>
      walk_at "mine go"
      show wpAny _ _ (compareOp CmpOp.Is Value.none (Value.ref a)) _ _ _
      walk_at "mine go"
      exact ⟨_, _, _, rfl, rfl, by k_asm, by k_asm⟩
    | some b =>
      walk_at "mine go"
      show wpAny _ _ (compareOp CmpOp.Is (Value.ref b) (Value.ref a)) _ _ _
      obtain ⟨ob, hob, hoc⟩ := herr b rfl
      by_cases hba : b = a
      · refine is_eq hba ?_
        walk_at "mine go"
        exact ⟨_, _, _, by unfold markT; rw [if_pos (by simp [hba])], rfl, by k_asm, by k_asm⟩
      · refine kto_is (ox := ob) (oy := _) (News.get (by k_asm) (by k_mem)) (News.get (by k_asm) (by k_mem)) hba (by rw [hoc]; nofun) ?_
        walk_at "mine go"
        exact ⟨_, _, _, by unfold markT; rw [if_neg (by simp [hba])], rfl, by k_asm, by k_asm⟩
  intro t7 h7 tk7 F7 N7
  have hml := mark_len (err == some a)
  walk_at "mine go"
  refine for_listS (by exact hh) ?_
  walk_at "mine go"
  refine owit_iter (C := 99) (f := 52) (ox := _) (od := some (dictOf [] 0)) (by k_asm) (by k_asm) (InstAt.of_news (by k_asm) (by k_mem) (by k_mem)) (by k_is) (by k_is) ?_
  refine node_iter (by k_asm) (by k_asm) (by k_asm) (by k_asm) (by k_mem) (by k_mem) (by k_mem) (by exact hh) (by walk_at "mine room") (by walk_at "mine room") ?_
  intro J h6 tk6 F6 N6 l6
  refine owit_listit ⟨_, (N6 _ (.head _)).1, rfl⟩ ?_
  have l66 := l6
  k_lt l66
  refine ⟨J, c1, (kids.map fun t => Value.ref t.addr).toArray, PI _ _ _ _ J c1 P' ((f9, _) :: news) (fun i => headT nm (sub Tx st en) (err == some a) :: (kids.take i).map fun d => indentT (pretty Tx n d err)) _, rfl, ?ne, PI.zero F6 N6 (by walk_at "mine sub") (by exact .cons _ _ .nil) (by exact hps) (by exact G), ?st, ?step, ?fin⟩
  case ne => exact Nat.ne_of_lt (l6 (c1, _) (by k_mem))
  case st =>
    intro i s' hI hi
    obtain ⟨K9, oJ, us, kk, ps9, F', N', hit, _⟩ := hI
    exact ⟨hit _ (N' _ (.head _)).1, News.isList N' (by k_mem)⟩
  case step =>
    intro i v s' h' tk hv hI hit' hk
    obtain ⟨K9, oJ, us, kk, ps9, F', N', hit, hs9, hps9, G9, ho9⟩ := hI
    have hst5 := it_step F' N' (by
      intro q hq
      rcases List.mem_cons.mp hq with rfl | hq
      · k_ne
      · rcases List.mem_cons.mp hq with rfl | hq
        · k_ne
        · rcases List.mem_cons.mp hq with rfl | hq
          · k_ne
          · exact Nat.ne_of_lt (l6 q (by k_mem))) hit' hk
    obtain ⟨F5, oJ5, N5, hit5⟩ := hst5
    clear F' N'
    have hx := kid_at hv
    obtain ⟨d9, hx2⟩ := hx
    have hd9 := hx2.1
    have hv9 := hx2.2
    subst hv9
    have hd9' := List.mem_of_getElem? hd9
    have hn9 := hK d9 hd9'
    have hpos := nodeIn_pos hn9
    have ho9' := nodeIn_obj hn9
    obtain ⟨d19, c19, e9, v19, v29, v39, st9, en9, hN9⟩ := ho9'
    have hN19' := ht _ hN9.1
    have hN29' := ht _ hN9.2
    walk_at "mine go"
    rename Fr _ _ _ _ => Fz
    rename News _ _ _ _ => Nz
    refine IH hpos Fz (by k_asm) (news_third Nz) (by k_asm) hn9 (hkok d9 hd9') (by walk_at "mine sub") hT9 ?herr9 (by k_mem) (by k_mem) hcO hps9 ?hPn9 (C.keeps (by assumption)) G9 (by exact hh) (by walk_at "mine room") (by walk_at "mine room") ?_
    case herr9 =>
      intro b hb
      obtain ⟨ob, hob, hoc⟩ := herr b hb
      exact ⟨ob, by k_mem, hoc⟩
    case hPn9 =>
      intro q hq
      rcases List.mem_cons.mp hq with rfl | hq
      · first | k_ne | exact Ne.symm (by k_ne)
      · rcases List.mem_cons.mp hq with rfl | hq
        · first | k_ne | exact Ne.symm (by k_ne)
        · rcases List.mem_cons.mp hq with rfl | hq
          · first | k_ne | exact Ne.symm (by k_ne)
          · exact hPn q hq
    intro t8 s8 ps8 F8 N8 hps8 G8 ho8
    have hpl := pretty_len (err := err) hT9 (hkok d9 hd9') (by omega)
    have hls := lines_size (err := err) hT9 (hkok d9 hd9') (by omega)
    walk_at "mine go"
    refine wpAny_call ?_
    rename Frag.In (Mine.hd.heap_39 w.params) _ => XX
    refine' enterN ?kF XX ?kN ?kT ?ko (hcO.rec (N8 (c', oc) (by k_mem)).1) ?kr ?kb ?kl ?_ ?ke ?kc ?kg ?kk
    case kF => k_asm
    case kN => k_asm
    case kT => k_asm
    case ko => k_mem
    case kr => k_room
    case kb => exact BindsTo.of_eq rfl
    case kl => exact locs rfl
    case ke => decide
    case kc => exact rfl
    case kg => exact rfl
    case kk => exact rfl
    intro g6 L6 h6 FG6 F6 N6 X6 T6 l6 st6 sz6
    walk_at "mine go"
    refine gen_strsF (fun y => Str.ofString "    " ++ y) F6 P' (by exact hh) rfl rfl (by decide) rfl rfl rfl (by k_room) T6 rfl rfl ?_ (fun _ => rfl)
    walk_at "mine go"
    refine splitlinesNA (by k_asm) (by k_asm) (fun l h' k e S hb hl F N => ?_) (by rw [sizeLine_eq]; omega)
    rw [e] at S
    refine ⟨_, _, _, 0, _, ps8, rfl, F, news_swap N, .head _, ?d1, G8, hcO.hd (N (c', oc) (by k_mem)).1, hps8, S, ?el, ?_⟩
    case d1 =>
      intro q hq
      rcases List.mem_cons.mp hq with rfl | hq
      · exact Nat.ne_of_gt (Heap.lt_size (N6 _ (.head _)).1)
      · rcases List.mem_cons.mp hq with rfl | hq
        · first | k_ne | exact Ne.symm (by k_ne)
        · rcases List.mem_cons.mp hq with rfl | hq
          · first | k_ne | exact Ne.symm (by k_ne)
          · rcases List.mem_cons.mp hq with rfl | hq
            · first | k_ne | exact Ne.symm (by k_ne)
            · exact hPn q hq
    case el =>
      intro L5 code5 bi5 A5 E5 y5 t5 s5 m5 hA5 hy5 hns5 hm5
      exact pre_elt hns5 hm5 rfl rfl (by decide) (by have := hls.2.2 y5 hy5; rw [ll33]; omega)
    intro K5 a5 s5 v5 hG5 hLK5 hK5 F5 G5 ho5 N5
    walk_at "mine go"
    refine join_rowsK F5 G5 hG5 hLK5 (fun j => Str.ofString "    " ++ (Txt.lines (pretty Tx n d9 err)).getD j "") (gen_tx (g := fun y => Str.ofString "    " ++ y)) (by rw [range_tx (g := fun y => Str.ofString "    " ++ y)]; exact hls.1) ?_ (by rw [sizeLine_eq]; omega)
    rw [range_tx (g := fun y => Str.ofString "    " ++ y)]
    intro s4 t4 F4 G4 ho4 hk4
    have N4 := news_drop2 (news_upto N5 hK5 hk4)
    walk_at "mine go"
    have hus : us.length ≤ 4 := by
      rw [hs9.length, List.length_cons, List.length_map, List.length_take]
      omega
    refine' append_us (us := us) ?k1 ?k2 ?k3 ?_ ?z9
    case k1 => k_asm
    case k2 => k_asm
    case k3 => k_upd
    case z9 => exact Nat.le_trans hus (by decide)
    intro h3 F3 N3
    walk_at "mine go"
    first | refine And.intro rfl ?_ | skip
    refine PI.next (by k_asm) rfl (by k_asm) (by walk_at "mine sub") hit5 ?hs3 (.inr ⟨_, rfl⟩) G4 ?ho3
    case hs3 =>
      have e3 : (kids.take (i + 1)).map (fun d => indentT (pretty Tx n d err)) = (kids.take i).map (fun d => indentT (pretty Tx n d err)) ++ [indentT (pretty Tx n d9 err)] := by
        rw [List.take_add_one, hd9, List.map_append]; rfl
      show StrsAre _ (headT nm (sub Tx st en) (err == some a) :: (kids.take (i + 1)).map (fun d => indentT (pretty Tx n d err)))
      rw [e3]
      exact hs9.append' (.cons _ _ .nil)
    case ho3 => exact (ho4.trans ho5).trans (ho8.trans ho9)
  case fin =>
    intro s' h' tk hI hk
    obtain ⟨K9, oJ, us, kk, ps9, F', N', hit, hs9, hps9, G9, ho9⟩ := hI
    have hd5 := it_done F' N' (by
      intro q hq
      rcases List.mem_cons.mp hq with rfl | hq
      · k_ne
      · rcases List.mem_cons.mp hq with rfl | hq
        · k_ne
        · rcases List.mem_cons.mp hq with rfl | hq
          · k_ne
          · exact Nat.ne_of_lt (l6 q (by k_mem))) hk
    obtain ⟨F5, N5⟩ := hd5
    clear F' N'
    have e3 : (kids.map fun t => Value.ref t.addr).toArray.size = kids.length := by rw [List.size_toArray, List.length_map]
    rw [e3] at hs9
    dsimp only at hs9
    rw [List.take_length] at hs9
    walk_at "mine go"
    refine join_listW (items := us.toArray) (News.isList (by k_asm) (by k_mem)) (by exact hs9) (by decide) (kids_weight hT9 hkok hk3 (by omega) ((head_len hnm (sub_ok hT9)).2)) ?_
    intro t4 k4
    walk_at "mine go"
    refine hQ _ _ _ _ _ _ hst9 (by k_asm) ?_ hcO hps9 ?_ G9 ho9
    · rw [hnews]
      exact fun q hq => (by k_asm : News h₀ L _ _) q ((by walk_at "mine sub" : ∀ q ∈ _ :: news, q ∈ _) q hq)
    · rw [hnews]
      exact hPn
theorem pretty_any : ∀ n, n ≤ 3 → 0 < n → PrettyG n
  | 0, _, h => absurd h (by decide)
  | n + 1, h, _ => prettyG_step n (by omega) fun hp => prettyB_of (pretty_any n (by omega) hp)
end
example : True := by
  w_top off
  trivial
section
local macro_rules | `(tactic| walk_at "mine halt") => `(tactic| first
  | (with_reducible show wpAny _ _ (call (Value.ref 68) _ _) _ _ _))
theorem str_any (n : Nat) (hn3 : n ≤ 3) (hn0 : 0 < n) {w : World} {A : Around} {s : Shared} {h₀ : Heap} {L : Addr} {m mg mb : Str → Option Value} {news tl t : List (Addr × Obj)} {p : Program} {loose : List Str} {mean : ExcName → Option Value}
    {d : Nd} {Tx : Str} {Q E : Value → Shared → Prop}
    (F : Fr h₀ L s.heap m) (X : (hd.heap_39 w.params).In h₀) (N : News h₀ L s.heap (tl ++ news)) (T : Top p loose mean mg mb h₀)
    (hn : NodeIn t Tx n d) (hok : NdOk Tx n d) (ht : ∀ q ∈ t, q ∈ news) (hT9 : TextOk Tx)
    (htl : TabL news tl) (C : CodeHd h₀ 67 63) (G : AllBare s.gens)
    (hh : A.handled = none) (hd : A.depth + 20 * n + 80 ≤ 900) (hu : A.units + 300 * n + 1200 ≤ 9000)
    (hQ : ∀ t' s' c' P' oc ps', (∀ c1 P1 oc1 ps1, tl = [(P1, tabObj ps1), (63, tabT c1), (c1, oc1)] → c' = c1 ∧ P' = P1 ∧ oc = oc1) → Fr h₀ L s'.heap m → News h₀ L s'.heap ((P', tabObj ps') :: (63, tabT c') :: (c', oc) :: news) →
      CodeO oc c' P' qualT → psOk ps' → (∀ q ∈ (63, tabT c') :: (c', oc) :: news, @Ne Nat q.1 P') → AllBare s'.gens → s'.os = s.os → Q (.str (pretty Tx n d none) t') s') :
    wpAny (model PySem.Challenge.rw_vy0010_01.row.prog w) A (call (.ref 75) [.ref d.addr]) Q E s := by
  have ho9 := nodeIn_obj hn
  obtain ⟨d1, c1, e1, v1, v2, v3, st1, en1, hN9⟩ := ho9
  have hN1' := ht _ hN9.1
  have hN2' := ht _ hN9.2
  revert X; k_fill; intro X
  refine wpAny_call ?_
  walk_at "mine enter"
  walk_at "mine go"
  refine pretty_any n hn3 hn0 (tl := tl) (news := news) (by k_asm) (by k_asm) (by k_asm) (by k_asm) hn hok ht hT9 (fun b e => by cases e) (.inr ⟨rfl, rfl⟩) htl (C.keeps (by assumption)) G (by exact hh) (by walk_at "mine room") (by walk_at "mine room") ?_
  intro t' s' c' P' oc ps' hst F' N' co hps hne G' ho'
  walk_at "mine go"
  exact hQ _ _ _ _ _ _ hst (by k_asm) (by k_asm) co hps hne G' ho'
end
example : True := by
  w_top off
  trivial
section
theorem my_post {M : Model} {A : Around} {cd : Code} {s s₁ : Shared} {cw : ClaimW} {cl : Str → Option Addr} {mean : ExcName → Option Value} {args : List WData} {tabs : List (Addr × Addr)} {d : WData} (hT : TabsAt tabs s₁.heap) (hr : ∀ a x, cw.raises a x = false)
    (hd : ∀ h, ReadsW cw.records cl h (.bool true) d []) (hp : cw.post args d args = true)
    (h : codeAny M A cd (fun r s' => r = .ok (.ret (.bool true)) ∧ (∀ b o, (ghostOf s₁.heap tabs).get? b = some o → s'.heap.get? b = some o) ∧ s'.os = s₁.os ∧ AllBare s'.gens ∧ GrownAll tabs s'.heap) s) : codeAny M A cd (GoodWG cw cl mean args s₁) s :=
  codeAny_mono h fun r s' ⟨hc, hk, hos, hg, hgr⟩ => by
    have keep : ∀ b o, b ∉ tabs.map (·.2) → s₁.heap.get? b = some o → s'.heap.get? b = some o := fun b o hb e => hk b o (ghost_ne e hb)
    have grown : ∀ b o, b ∈ tabs.map (·.2) → s₁.heap.get? b = some o → isCodeTable s₁.heap b ∧ o = tabObj #[] ∧ ∃ ps, s'.heap.get? b = some (tabObj ps) := fun b o hb e => by
      obtain ⟨q, hq, rfl⟩ := List.mem_map.mp hb
      have e2 := (hT q hq).2
      rw [e] at e2
      exact ⟨((hT q hq).1.tab (hT q hq).2).isCodeTable, Option.some.inj e2, hgr.get q hq⟩
    refine ⟨.inl ⟨.bool true, d, [], hc, fun _ => hr _ _, hd _, hp, fun q => ?_⟩, ⟨fun b o e => ?_, fun b o e => ?_⟩, hos, hg⟩
    · exact ⟨.nil, fun _ h => nomatch h⟩
    · by_cases hb : b ∈ tabs.map (·.2)
      · obtain ⟨ht, rfl, ps, hP⟩ := grown b o hb e
        exact .inr (.inl ⟨ht, rfl, #[], ps, rfl, by rw [Array.empty_append]; exact hP⟩)
      · exact .inl (keep b o hb e)
    · by_cases hb : b ∈ tabs.map (·.2)
      · obtain ⟨_, _, ps, hP⟩ := grown b o hb e
        exact ⟨_, hP⟩
      · exact ⟨o, keep b o hb e⟩
theorem post_true (a : WData) : Challenge.rw_vy0010_01.row.claim.post [a] (WData.bool true) [a] = true := by
  first | rfl | decide | (with_unfolding_all rfl)
local macro_rules | `(tactic| walk_at "compareOp NotEq ref ref") => `(tactic| (k_here; (with_reducible show wpAny _ _ (compareOp CmpOp.NotEq (Value.ref _) (Value.ref _)) _ _ _); k_dflt (first
  | (refine' PySem.EqBoolInt.of_rcne (SeqAt.RcNeAt.lists_lengths ?hl ?hb ?hsz ?hu) ?_; (case hl => exact News.isList (by k_asm) (by k_mem)); (case hb => exact News.isList (by k_asm) (by k_mem)); (case hsz => with_reducible assumption); (case hu => k_units))
  | (refine' ne_intsK ?k1 ?k2 ?k3 ?k4 ?k5 ?_; (case k1 => exact News.isList (items := List.toArray _) (by k_asm) (by k_mem)); (case k2 => exact IntsAre.nil); (case k3 => exact News.isList (items := List.toArray _) (by k_asm) (by k_mem)); (case k4 => exact IntsAre.nil); (case k5 => k_units); (try simp only [reduceCtorEq, decide_false, decide_true, Bool.not_false, Bool.not_true])))))
local macro_rules | `(tactic| walk_at "mine halt") => `(tactic| first
  | (with_reducible show wpAny _ _ (exec (Stmt.For _ _ _ _ _) _) _ _ _)
  | (with_reducible show wpAny _ _ (call (Value.ref 68) _ _) _ _ _)
  | (with_reducible show wpAny _ _ (call (Value.ref 441) _ _) _ _ _)
  | (with_reducible show wpAny _ _ (call (Value.ref 446) _ _) _ _ _)
  | (with_reducible show wpAny _ _ (call (Value.ref 451) _ _) _ _ _)
  | (with_reducible show wpAny _ _ (call (Value.ref 434) _ _) _ _ _)
  | (with_reducible show wpAny _ _ (call (Value.ref 75) _ _) _ _ _)
  | (with_reducible show wpAny _ _ (call (Value.type "str") _ _) _ _ _)
  | (with_reducible show wpAny _ _ (call (Value.builtin "list.append") _ _) _ _ _)
  | (with_reducible show wpAny _ _ (subscriptTail _ (Expr.UnaryOp _ _ _) (Value.ref _) _) _ _ _)
  | (with_reducible show wpAny _ _ (subscriptTail _ (Expr.Subscript _ _ _) (Value.ref _) _) _ _ _)
  | (with_reducible show wpAny _ _ (pyReprObj (Value.ref _)) _ _ _))
def CodeHd9 (h : Heap) (c P : Addr) : Prop := CodeHd h c P
theorem law_holds : PySem.Challenge.rw_vy0010_01.Holds := Mine.hd (by
  k_fill
  intro w s₀ s₁ mg mb G Y fa o pm cd doc dV kV ho hd hcd hD hmg hg args vals as hpre hlay hrd hwl hlo
  have KX := km_in_of Y
  km_tabs Y
  have X := (Ground.X G).1
  have V := (Ground.X G).2
  refine Ground.open G ?_
  intro T B D TE TW
  refine guard_noD D (by decide +kernel) ?_
  clear D
  km_lay T hmg ho hd cd
  clear hmg
  wrow_args hpre hlay hrd hwl hlo
  refine enter_call ?_
  w_top on
  refine my_post hT9 (fun _ _ => rfl) (d := .bool true) (fun h => .bool true) (post_true _) ?_
  w_call any ho hd hcd hD T F
  clear hd
  kn_ghosts F T
  k_drop
  have codeHd9 : CodeHd9 _ _ _ := codeHd
  clear codeHd
  rename List Int => ns8
  rename List Value => vs8
  rename ¬ ((63 : Nat) : Int) < _ => hc8
  have hn8 := Int.ofNat_le.mp (Int.not_lt.mp hc8)
  clear hc8 hD ho
  try clear hcd
  try clear TE
  try clear TW
  try clear B
  try clear V
  try clear G
  try clear KX
  try clear Y
  try clear X
  try clear T
  try clear hT8
  have hhC : callerA.handled = none := rfl
  walk_at "mine steps"
  refine LCg.ListComp_U (F₀ := by k_asm) (by with_unfolding_all rfl) (by decide) (by rfl) (by decide) (by rfl) ?_
  walk_at "mine steps"
  have hf9 := fmod9 (num ns8 60)
  refine' LCg.CompSrc.range ?a1 ?a2 ?a3 ?a4 (small_to hf9.1 (by omega)) size_to ?a6 ?_
  case a1 => exact rfl
  case a2 => k_asm
  case a3 => k_asm
  case a4 => assumption
  case a6 => (rw [sizeLine_eq]; omega)
  intro g9
  refine rest_inv (AbInv _) ?_ ?_ _ 0 [] _ (Nat.zero_add _) ⟨rfl, [], .nil, rfl, fun _ h => nomatch h⟩
  · intro i ys nw v I oI C oC D m₂ h tk E' hi9 hv hI hoC hx9 F9 N9 off9 ne9
    obtain ⟨t9, rfl⟩ := hv
    obtain ⟨rfl, hI'⟩ := id hI
    walk_at "mine steps"
    k_unfold
    dsimp only
    refine LCg.CompEnd.intro (by assumption) (by assumption) _ (fun p hp => hp) off9 trivial ?_
    exact hI.step (ab_item _)
  · intro ys nw hI
    obtain ⟨rfl, ss, hss, hlen, hab⟩ := hI
    unfold LCg.FinE
    intro D9 h9 tk9 F9 N9 off9
    walk_at "mine steps"
    refine join_listW (items := ys.toArray) (News.isList (by k_asm) (by k_mem)) (by simpa using hss) (by decide) (ab_weight hab hlen (by omega)) ?_
    intro t8 k8
    have hT9 := ab_text hab hlen (by omega)
    obtain ⟨Tx, hTx⟩ : ∃ Tx, Tx = Txt.join (Str.ofString "") ss := ⟨_, rfl⟩
    rw [← hTx] at hT9 ⊢
    have hTl := hT9.1
    walk_at "mine steps"
    obtain ⟨n9, hn9, hn2⟩ : ∃ n : Nat, 1 + Int.fmod (num ns8 0) 2 = (n : Int) ∧ (n = 1 ∨ n = 2) := by
      rcases fmod2 (num ns8 0) with e | e <;> rw [e]
      · exact ⟨1, rfl, .inl rfl⟩
      · exact ⟨2, rfl, .inr rfl⟩
    rw [hn9]
    refine' made_call n9 (by omega) ?F ?X ?N ?T lifted (by assumption) (by assumption) hn8 (by decide) ?hp2 hT9 (Int.le_refl 0) (Int.natCast_nonneg _) (Int.le_refl _) ?hh ?hd ?hu ?_
    walk_at "mine goes"
    case hp2 => rcases hn2 with e | e <;> (rw [e]; decide)
    intro v d tl h7 tk7 F7 N7 M7
    obtain ⟨fr7, hm7, hok7, hnd7, hh7⟩ := M7
    obtain ⟨b7, o7, hv7, hb7, hn7, ho7⟩ := hm7
    subst hv7
    walk_at "mine steps"
    refine' right_call n9 (by omega) ?F ?X ?N ?T hn7 ho7 hok7 ?ht hT9 ?hh ?hd ?hu ?_
    walk_at "mine goes"
    case ht => exact fun q hq => by k_mem
    intro h6 tk6 F6 N6
    walk_at "mine go"
    have hf3 := fmod3 (num ns8 50)
    obtain ⟨r3, hr3, hr3l⟩ : ∃ r : Nat, Int.fmod (num ns8 50) 3 = (r : Int) ∧ r ≤ 2 := ⟨(Int.fmod (num ns8 50) 3).toNat, by omega, by omega⟩
    refine for_rangeS ?hh ?_
    case hh => exact rfl
    walk_at "mine go"
    rename IsRange _ _ _ _ _ _ _ _ => hR3
    rename Fr _ _ _ _ => F5
    rename News _ _ _ _ => N5
    rename ∀ p : Addr × Obj, p ∈ tl ++ _ → p.fst < _ => l1W
    rw [hr3] at hR3
    refine ⟨_, r3, _, _, _, WI _ _ _ _ _ _ tl _ Tx (n9 + 1) d _ _, rfl, hR3, hr3l, WI.zero' F5 N5 rfl hn7 ho7 hok7, fun i s' h _ => h.iter, ?turn, ?fin⟩
    case fin =>
      intro s' h' tk hI hk
      have hwJ := Nat.ne_of_lt (Heap.lt_size (N5 _ (.tail _ (.head _))).1)
      have hbJ := fun q hq => Nat.ne_of_lt (Heap.lt_size (N5 q (.tail _ (.tail _ hq))).1)
      clear F5 N5
      have hx := hI.done hwJ hbJ hk
      clear hI hk
      obtain ⟨K8, us8, zs8, kk8, n8, d8, v8, F8, N8, hi8, hz8, hn8', ho8, hok8, hat8, hg8, hos8⟩ := hx
      have hne63 := tab_out (o1 := W.listOf us8.toArray kk8) l1W fr7 off9 (by omega)
      have N9 := news_tab N8
      clear N8
      have G8 : AllBare s'.gens := .of_eq (hg8.trans hg)
      have hob := nodeIn_obj hn7
      obtain ⟨d1, c1, e1, u1, u2, u3, st1, en1, hdO, hdD⟩ := hob
      walk_at "mine go"
      refine' kso_call ?k1 ?k2 ?k3 ?k4 ?k5 ?_
      case k1 => k_units
      case k2 => k_in
      case k3 => k_inst
      case k4 => k_is
      case k5 => k_is
      refine' str_any (n9 + 1) (by omega) (by omega) (tl := [(63, tabObj #[])]) ?F ?X ?N ?T hn7 hok7 (fun q hq => .tail _ (List.mem_append_left _ hq)) hT9 (.fresh hne63) codeHd9 G8 rfl ?hd ?hu ?_
      walk_at "mine goes"
      intro t9 s9 c9 P9 oc9 ps9 _ F9 N9 co9 hps9 hne9 G9 ho9
      unfold StrBack
      dsimp only
      walk_at "mine go"
      refine' lines_call n9 (by omega) (deep := 0) (po := none) ?F ?X ?N ?T ho7 hok7 ?ht hT9 rfl (fun _ e => by cases e) (by omega) rfl ?hd ?hu ?_
      walk_at "mine goes"
      case ht => exact fun q hq => by k_mem
      intro la ua ka ha tka Fa Na lta hsa
      rw [tLines_zero (err := none) (ptrel_none fun a _ e => by cases e)] at hsa
      walk_at "mine go"
      refine join_listW (items := ua.toArray) (News.isList (by k_asm) (by k_mem)) (by exact hsa) (by decide) (pL_weight hT9 hok7 (by omega)) ?_
      intro t4 k4
      rw [← pretty_eq hT9 hok7]
      have hpp : (pretty Tx (n9 + 1) d none != pretty Tx (n9 + 1) d none) = false := bne_self_eq_false _
      walk_at "mine go"
      refine' pretty_any (n9 + 1) (by omega) (by omega) (err := some d8.addr) (tl := [(P9, tabObj ps9), (63, tabT c9), (c9, oc9)]) ?F ?X ?N ?T hn7 hok7 (fun q hq => .tail _ (List.mem_append_left _ hq)) hT9 (herr_of hn8') (.inl rfl) (.grown co9 hps9 hne9) codeHd9 G9 rfl ?hd ?hu ?_
      case F => k_asm
      case X => k_asm
      case N => exact fun q hq => (by k_asm : News _ _ _ _) q (.tail _ hq)
      case T => k_asm
      case hd => walk_at "mine room"
      case hu => walk_at "mine room"
      clear hne9 hps9 co9 hpp
      intro tb sb cb Pb ocb psb _ Fb Nb cob hpsb hneb Gb hob
      walk_at "mine go"
      refine' lines_call n9 (by omega) (deep := 0) (po := some zs8) ?F ?X ?N ?T ho7 hok7 ?ht hT9 ⟨_, us8, kk8, rfl, ?mem, hi8⟩ (fun _ e => ?len) (by omega) rfl ?hd ?hu ?_
      walk_at "mine goes"
      case ht => exact fun q hq => by k_mem
      case mem => k_mem
      case len => (cases e; omega)
      intro lc uc kc hc tkc Fc Nc ltc hsc
      rw [tLines_zero (err := some d8.addr) (ptrel_path hat8 (nodeIn_pos hn8') hnd7)] at hsc
      walk_at "mine go"
      refine join_listW (items := uc.toArray) (News.isList (by k_asm) (by k_mem)) (by exact hsc) (by decide) (pL_weight hT9 hok7 (by omega)) ?_
      intro t5 k5
      rw [← pretty_eq hT9 hok7]
      have hpp : (pretty Tx (n9 + 1) d (some d8.addr) != pretty Tx (n9 + 1) d (some d8.addr)) = false := bne_self_eq_false _
      walk_at "mine go"
      rename Fresh _ _ => fr8
      rename NodeObj _ _ _ _ _ _ _ => R8
      rename News _ _ _ _ => N8
      have N7 := news_other N8
      have hoth := other_out fr8 (fun q hq => by k_mem) R8 hh7
      have hneX := ne_more hneb (fun q hq => Ne.symm (fr8 (Pb, tabObj psb) (by k_mem) q hq))
      refine' pretty_any (n9 + 1) (by omega) (by omega) (err := some _) (tl := [(Pb, tabObj psb), (63, tabT cb), (cb, ocb)]) ?F ?X ?N ?T hn7 hok7 (fun q hq => List.mem_append_right _ (.tail _ (List.mem_append_left _ hq))) hT9 (herr_new R8) (.inl rfl) (.grown cob hpsb hneX) codeHd9 Gb rfl ?hd ?hu ?_
      case F => k_asm
      case X => k_asm
      case N => exact N7
      case T => k_asm
      case hd => walk_at "mine room"
      case hu => walk_at "mine room"
      clear hneX hneb hpsb cob hpp N7 N8
      intro td sd ce Pd ocd psd _ Fd Nd cod hpsd hned Gd hod
      rw [pretty_other hT9 hok7 hoth]
      obtain ⟨d9, c9', t1, t2, t3, n9', hO1, hO2, hO3⟩ := R8
      walk_at "mine go"
      refine' kso_call ?k1 ?k2 ?k3 ?k4 ?k5 ?_
      case k1 => k_units
      case k2 => k_in
      case k3 => k_inst
      case k4 => k_is
      case k5 => k_is
      refine' str_any (n9 + 1) (by omega) (by omega) (tl := [(Pd, tabObj psd), (63, tabT ce), (ce, ocd)]) ?F ?X ?N ?T hn7 hok7 (fun q hq => List.mem_append_right _ (.tail _ (List.mem_append_left _ hq))) hT9 (.grown cod hpsd hned) codeHd9 Gd rfl ?hd ?hu ?_
      case F => k_asm
      case X => k_asm
      case N => k_asm
      case T => k_asm
      case hd => walk_at "mine room"
      case hu => walk_at "mine room"
      clear hned hpsd cod
      intro te se cf Pe oce pse _ Fe Ne coe hpse hnee Ge hoe
      unfold StrBack
      dsimp only
      have hpp : (pretty Tx (n9 + 1) d none == pretty Tx (n9 + 1) d none) = true := beq_self_eq_true _
      walk_at "mine go"
      have hB := tCode_len hT9 hok7
      have hB4 : 4 ^ (n9 + 1) ≤ 4 ^ 3 := Nat.pow_le_pow_right (by decide) (by omega)
      refine' repr_top n9 (by omega) ?F ?X ?N ?T hn7 hok7 ?ht hT9 rfl ?hd ?hu ?_
      walk_at "mine goes"
      case ht => exact fun q hq => by k_mem
      intro tf hf tkf Ff Nf
      rw [repr_text hT9]
      unfold StrBack
      dsimp only
      walk_at "mine go"
      refine' code_call n9 (by omega) ?F ?X ?N ?T ho7 hok7 ?ht hT9 rfl ?hd ?hu ?_
      walk_at "mine goes"
      case ht => exact fun q hq => by k_mem
      intro tg hg9 tkg Fg Ng
      have hpq : (Str.ofString "s = '" ++ Tx ++ Str.ofString "'\n" ++ tCode (n9 + 1) d == Str.ofString "s = '" ++ Tx ++ Str.ofString "'\n" ++ tCode (n9 + 1) d) = true := beq_self_eq_true _
      walk_at "mine go"
      all_goals (first | exact True.intro | exact Ge | exact hoe.trans (hod.trans (hob.trans (ho9.trans hos8))))
    case turn =>
      intro i s' h' tk t hi hI hI' hk
      have hwJ := Nat.ne_of_lt (Heap.lt_size (N5 _ (.tail _ (.head _))).1)
      have hbJ := fun q hq => Nat.ne_of_lt (Heap.lt_size (N5 q (.tail _ (.tail _ hq))).1)
      clear F5 N5
      have hx := hI.turn hwJ hbJ hI' hk
      clear hI hI' hk
      obtain ⟨K8, us8, zs8, kk8, n8, d8, v8, F8, N8, hi8, hz8, hn8', ho8, hok8, hat8, hg8, hos8⟩ := hx
      have tf := turn_facts hn8' ho8 hok8
      obtain ⟨kids8, d1, c8, e8, b8, pl8, v1, v2, v3, t1, t2, t3, t4, st8, en8, w8, nm8, n1, m1, ps8, hA1, hA2, hA3, hv8, hB1, hB2, hlen8, hk8, hkid⟩ := tf
      rw [hv8] at F8 ho8
      have hrefl : (Value.ref b8) = v8 := hv8.symm
      rcases Nat.eq_zero_or_pos kids8.length with hk0 | hk0
      · have hps0 : ps8 = [] := List.eq_nil_of_length_eq_zero (by omega)
        rw [hps0] at hB2
        walk_at "mine go"
        exact WI.stay (by k_asm) rfl (fun q hq => (by k_asm : News _ _ _ _) q ((by walk_at "mine sub" : ∀ q ∈ _, q ∈ _) q hq)) hi8 hz8 hn8' ho8 hok8 hat8 hg8 hos8
      · have hsz8 : (ps8.toArray.size != (#[] : Array Value).size) = true := by rw [List.size_toArray, hlen8]; show (kids8.length != 0) = true; exact bne_iff_ne.mpr (by omega)
        obtain ⟨j8, hj8, hjl8⟩ := fmod_len (a := Int.fdiv (num ns8 (51 + (i : Int))) 2) hk0
        have hU := upd_at N8 hwJ (fun q hq => Nat.ne_of_lt (l1W q hq))
        rw [← hlen8] at hj8
        have hus : us8.length ≤ 2 := by rw [hi8.length]; omega
        walk_at "mine go"
        rw [hj8]
        refine append_us (us := us8) (by k_asm) ?kN (hU _) ?_ (by rw [sizeLine_eq]; omega)
        case kN => exact fun q hq => (by k_asm : News _ _ _ _) q ((by walk_at "mine sub" : ∀ q ∈ _, q ∈ _) q hq)
        intro h9 F9 N9
        obtain ⟨d2, v9, hkd, hkm, hps, n2, hnn, hoo, hkk, hat9⟩ := hkid j8 hjl8
        walk_at "mine go"
        refine last_item (us := us8) (by k_asm) (by k_mem) hi8 ?_ (by with_unfolding_all rfl)
        intro t9
        walk_at "mine go"
        refine refs_item hkm (by k_asm) (by k_mem) rfl (by omega) ?_ (by with_unfolding_all rfl)
        walk_at "mine go"
        refine last_item (us := us8) (by k_asm) (by k_mem) hi8 ?_ (by with_unfolding_all rfl)
        intro t9'
        walk_at "mine go"
        refine refs_item hps (by k_asm) (by k_mem) rfl (by omega) ?_ (by with_unfolding_all rfl)
        walk_at "mine go"
        rename Fr _ _ _ _ => F10
        rename News _ _ _ _ => N10
        exact WI.down F10 rfl (fun q hq => N10 q ((by walk_at "mine sub" : ∀ q ∈ _, q ∈ _) q hq)) hi8 hz8 rfl hnn hoo hkk hat9 hat8 hg8 hos8)
end
end Mine
end
theorem PySem.Challenge.cw_vy0010_01_holds : PySem.Challenge.rw_vy0010_01.Holds := by
  exact Mine.law_holds
