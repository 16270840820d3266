import PyProof.Rows.All
import Wide.All
import OpenK.AllK
import Wide.FinOn
import Lean
import PySem.Challenge.RW_wb0004_01
open PySem PySem.W PyProof.Rows
set_option Elab.async false
set_option maxRecDepth 100000
set_option maxHeartbeats 8000000
set_option rowWalk.seconds 0
set_option linter.unusedVariables false
set_option linter.unusedSimpArgs false
namespace Mine
-- part Top
section
open_top hd for PySem.Challenge.rw_wb0004_01

end
-- part For
section
section
variable {prog : Program} {w : World} {A : Around} {s : Shared} {env : Env} {h₀ : Heap} {E : Value → Shared → Prop} {Q : Flow → Shared → Prop}

theorem fr_off {h h' : Heap} {L I : Addr} {m : Str → Option Value} (F : Fr h₀ L h m) (hs : Heap.ExtBut I h h') (hL : L ≠ I) (hI : h₀.get? I = none) : Fr h₀ L h' m :=
  ⟨F.ns.at' fun o e => hs L o hL e, fun b o e => hs b o (fun q => by rw [q, hI] at e; cases e) (F.keep b o e), F.above⟩
theorem news_off {h h' : Heap} {L I : Addr} {news : List (Addr × Obj)} (N : News h₀ L h news) (hs : Heap.ExtBut I h h') (hI : ∀ p ∈ news, p.1 ≠ I) : News h₀ L h' news :=
  fun p hp => ⟨hs _ _ (hI p hp) (N p hp).1, (N p hp).2⟩

/-- what a turn of a for loop must reach -/
def Turn (h₀ : Heap) (L I : Addr) (oI : Obj) (J : (Str → Option Value) → List (Addr × Obj) → Prop) (Q : Flow → Shared → Prop) (s : Shared) (f : Flow) (s₃ : Shared) : Prop :=
  (f = .next ∧ ∃ h' tk m' news', s₃ = { s with heap := h', toks := tk } ∧ Fr h₀ L h' m' ∧ News h₀ L h' ((I, oI) :: news') ∧ (∀ p ∈ news', p.1 ≠ I) ∧ J m' news') ∨ (∃ v, f = .ret v ∧ Q (.ret v) s₃)

theorem for_list {target : Expr} {pos : Pos} {iter : Expr} {body : List Stmt} {lx : Addr} {items : Array Value} {m : Str → Option Value} {news : List (Addr × Obj)}
    (hh : A.handled = none) (F : Fr h₀ env.locals s.heap m) (N : News h₀ env.locals s.heap news)
    (hev : ∀ Q' : Value → Shared → Prop, Q' (.ref lx) s → wpAny (model prog w) A (eval iter env) Q' E s)
    (J : Nat → (Str → Option Value) → List (Addr × Obj) → Prop) (h0 : J 0 m news)
    (hlk : ∀ i m₁ news₁ h', J i m₁ news₁ → Fr h₀ env.locals h' m₁ → News h₀ env.locals h' news₁ → h'.IsList lx items)
    (step : ∀ i v m₁ news₁ h₁ tk₁ E' I oI, items[i]? = some v → J i m₁ news₁ → Fr h₀ env.locals h₁ m₁ → News h₀ env.locals h₁ ((I, oI) :: news₁) → (∀ p ∈ news₁, p.1 ≠ I) →
      wpAny (model prog w) A (assign target env v) (fun _ s₂ => wpAny (model prog w) A (execs body env) (Turn h₀ env.locals I oI (J (i + 1)) Q s) E' s₂) E' { s with heap := h₁, toks := tk₁ })
    (hQ : ∀ h' tk m' news', Fr h₀ env.locals h' m' → News h₀ env.locals h' news' → J items.size m' news' → Q .next { s with heap := h', toks := tk })
    (hs : ∀ x, foldedSetIterable iter env x = pure x := by intro _; rfl) (ht : ∀ it v, letOwnedTupleGo target it v = pure () := by intro _ _; rfl) :
    wpAny (model prog w) A (exec (.For target iter body [] pos) env) Q E s := by
  refine wpAny_For (hev _ ?_) hs
  have hl := hlk 0 m news _ h0 F N
  refine wpAny_pyIter_list hl ?_
  generalize hI : s.heap.objs.size = I
  have hI0 : h₀.get? I = none := by
    cases e : h₀.get? I with
    | none => rfl
    | some o => exact absurd (Heap.lt_size (F.keep _ _ e)) (by rw [hI]; exact Nat.lt_irrefl _)
  have hLI : env.locals ≠ I := by rw [← hI]; exact Nat.ne_of_lt F.ns.lt
  have hNI : ∀ p ∈ news, p.1 ≠ I := fun p hp => by rw [← hI]; exact Nat.ne_of_lt (Heap.lt_size (N p hp).1)
  have hlI : ∀ h' m₁ news₁ i, J i m₁ news₁ → Fr h₀ env.locals h' m₁ → News h₀ env.locals h' news₁ → (∀ p ∈ news₁, p.1 ≠ I) → h'.IsListIter I lx i → h'.IsList lx items ∧ lx ≠ I := fun h' m₁ news₁ i hJ F' N' _ hit => by
    refine ⟨hlk i m₁ news₁ h' hJ F' N', fun e => ?_⟩
    obtain ⟨o, ho, hc, _⟩ := hlk i m₁ news₁ h' hJ F' N'
    obtain ⟨o', ho', hc', _⟩ := hit
    rw [e, ho'] at ho; cases ho; rw [hc'] at hc; exact absurd hc (by decide)
  refine codeAny_forLoop
    (fun k s' => ∃ h' tk m' news' i, s' = { s with heap := h', toks := tk } ∧ h'.IsListIter I lx i ∧ Fr h₀ env.locals h' m' ∧ News h₀ env.locals h' news' ∧ (∀ p ∈ news', p.1 ≠ I) ∧ J i m' news' ∧ i ≤ items.size ∧ k = items.size + 1 - i) ?_ (items.size + 1)
    ⟨_, s.toks, m, news, 0, rfl, ⟨_, by rw [← hI]; exact Heap.get?_push_size _ rfl, rfl, rfl⟩, F.push _, fun p hp => ⟨Heap.get?_push_of_some _ (N p hp).1, (N p hp).2⟩, hNI, h0, Nat.zero_le _, rfl⟩ (ht _)
  rintro k s' ⟨h', tk, m', news', i, rfl, hit, F', N', hn', hJ, hi, rfl⟩
  obtain ⟨hl', hne⟩ := hlI h' m' news' i hJ F' N' hn' hit
  by_cases hlt : i < items.size
  · refine wpAny_pyNext_list_item hit hl' (x := items[i]) (by simp [hlt]) fun h₁ hit₁ hs₁ => ?_
    have F₁ := fr_off F' hs₁.extBut hLI hI0
    have N₁ := news_off N' hs₁.extBut hn'
    obtain ⟨oI, hoI, hcI, hdI⟩ := id hit₁
    have N₁' : News h₀ env.locals h₁ ((I, oI) :: news') := fun p hp => by
      rcases List.mem_cons.mp hp with rfl | hp
      · exact ⟨hoI, Ne.symm hLI, hI0⟩
      · exact N₁ p hp
    refine wpAny_mono (step i items[i] m' news' h₁ _ _ I oI (by simp [hlt]) hJ F₁ N₁' hn') (fun _ s₂ h₂ => wpAny_mono h₂ (fun f s₃ h₃ => ?_) fun _ _ e => e) fun _ _ e => e
    rcases h₃ with ⟨rfl, h₃, tk₃, m₃, news₃, rfl, F₃, N₃, hn₃, hJ₃⟩ | ⟨v, rfl, hq⟩
    · refine ⟨items.size + 1 - (i + 1), by omega, h₃, tk₃, m₃, news₃, i + 1, rfl, ⟨oI, (N₃ _ (.head _)).1, hcI, hdI⟩, F₃, fun p hp => N₃ p (.tail _ hp), hn₃, hJ₃, hlt, rfl⟩
    · exact hq
  · have hin : i = items.size := by omega
    subst hin
    refine wpAny_pyNext_list_end hh hit hl' (by simp) fun h₁ he => ?_
    refine wpAny_execs_nil ?_
    exact hQ h₁ tk m' news' (fr_off F' he hLI hI0) (news_off N' he hn') hJ

theorem for_str_at {target : Expr} {body : List Stmt} {x : Str} {m : Str → Option Value} {news : List (Addr × Obj)}
    (F : Fr h₀ env.locals s.heap m) (N : News h₀ env.locals s.heap news)
    {o : Obj} {St : Nat → Heap → Prop} (W : Walks prog w A s.heap.objs.size [s.heap.objs.size] [s.heap.objs.size] x.cps.size (SignAt x) St) (hlive : ∀ i h, St i h → ∃ o, h.get? s.heap.objs.size = some o) (hst : St 0 (s.heap.push o))
    (J : Nat → (Str → Option Value) → List (Addr × Obj) → Prop) (h0 : J 0 m news)
    (step : ∀ i c u m₁ news₁ h₁ tk₁ E' I oI, x.cps[i]? = some c → J i m₁ news₁ → Fr h₀ env.locals h₁ m₁ → News h₀ env.locals h₁ ((I, oI) :: news₁) → (∀ p ∈ news₁, p.1 ≠ I) →
      wpAny (model prog w) A (assign target env (.str ⟨#[c]⟩ u)) (fun _ s₂ => wpAny (model prog w) A (execs body env) (Turn h₀ env.locals I oI (J (i + 1)) Q s) E' s₂) E' { s with heap := h₁, toks := tk₁ })
    (hQ : ∀ h' tk m' news', Fr h₀ env.locals h' m' → News h₀ env.locals h' news' → J x.cps.size m' news' → Q .next { s with heap := h', toks := tk })
    (ht : ∀ it v, letOwnedTupleGo target it v = pure () := by intro _ _; rfl) :
    codeAny (model prog w) A (.forLoop target (.ref s.heap.objs.size) body [] env) (fun r s' => match r with | .ok f => Q f s' | .error e => cameBackBy (model prog w) A env E e s') { s with heap := s.heap.push o } := by
  generalize hI : s.heap.objs.size = I at W hlive
  have hI0 : h₀.get? I = none := by
    cases e : h₀.get? I with
    | none => rfl
    | some o => exact absurd (Heap.lt_size (F.keep _ _ e)) (by rw [hI]; exact Nat.lt_irrefl _)
  have hLI : env.locals ≠ I := by rw [← hI]; exact Nat.ne_of_lt F.ns.lt
  have hNI : ∀ p ∈ news, p.1 ≠ I := fun p hp => by rw [← hI]; exact Nat.ne_of_lt (Heap.lt_size (N p hp).1)
  have off : ∀ {h h' : Heap}, (∀ b o, b ∉ [I] → h.get? b = some o → h'.get? b = some o) → Heap.ExtBut I h h' := fun hk b o hb e => hk b o (by simpa using hb) e
  refine codeAny_forLoop
    (fun k s' => ∃ h' tk m' news' i, s' = { s with heap := h', toks := tk } ∧ St i h' ∧ Fr h₀ env.locals h' m' ∧ News h₀ env.locals h' news' ∧ (∀ p ∈ news', p.1 ≠ I) ∧ J i m' news' ∧ i ≤ x.cps.size ∧ k = x.cps.size + 1 - i) ?_ (x.cps.size + 1)
    ⟨_, s.toks, m, news, 0, rfl, hst, F.push _, fun p hp => ⟨Heap.get?_push_of_some _ (N p hp).1, (N p hp).2⟩, hNI, h0, Nat.zero_le _, rfl⟩ (ht _)
  rintro k s' ⟨h', tk, m', news', i, rfl, hit, F', N', hn', hJ, hi, rfl⟩
  by_cases hlt : i < x.cps.size
  · refine W.item i _ _ _ hlt hit fun v h₁ tk₁ hP hst₁ hk₁ => ?_
    obtain ⟨c, u, hc, rfl⟩ := hP
    have F₁ := fr_off F' (off hk₁) hLI hI0
    have N₁ := news_off N' (off hk₁) hn'
    obtain ⟨oI, hoI⟩ := hlive _ _ hst₁
    have N₁' : News h₀ env.locals h₁ ((I, oI) :: news') := fun p hp => by
      rcases List.mem_cons.mp hp with rfl | hp
      · exact ⟨hoI, Ne.symm hLI, hI0⟩
      · exact N₁ p hp
    refine wpAny_mono (step i c u m' news' h₁ _ _ I oI hc hJ F₁ N₁' hn') (fun _ s₂ h₂ => wpAny_mono h₂ (fun f s₃ h₃ => ?_) fun _ _ e => e) fun _ _ e => e
    rcases h₃ with ⟨rfl, h₃, tk₃, m₃, news₃, rfl, F₃, N₃, hn₃, hJ₃⟩ | ⟨v, rfl, hq⟩
    · refine ⟨x.cps.size + 1 - (i + 1), by omega, h₃, tk₃, m₃, news₃, i + 1, rfl, W.frame _ _ _ hst₁ ?_, F₃, fun p hp => N₃ p (.tail _ hp), hn₃, hJ₃, hlt, rfl⟩
      intro b hb o e
      have hb' : b = I := by simpa using hb
      subst hb'
      rw [hoI] at e; cases e; exact (N₃ _ (.head _)).1
    · exact hq
  · have hin : i = x.cps.size := by omega
    subst hin
    refine W.done _ _ _ hit fun h₁ tk₁ hk₁ => ?_
    refine wpAny_execs_nil ?_
    exact hQ h₁ tk₁ m' news' (fr_off F' (off hk₁) hLI hI0) (news_off N' (off hk₁) hn') hJ
theorem for_str {target : Expr} {pos : Pos} {iter : Expr} {body : List Stmt} {x : Str} {t : Tok} {m : Str → Option Value} {news : List (Addr × Obj)}
    (hh : A.handled = none) (F : Fr h₀ env.locals s.heap m) (N : News h₀ env.locals s.heap news)
    (hev : ∀ Q' : Value → Shared → Prop, Q' (.str x t) s → wpAny (model prog w) A (eval iter env) Q' E s)
    (J : Nat → (Str → Option Value) → List (Addr × Obj) → Prop) (h0 : J 0 m news)
    (step : ∀ i c u m₁ news₁ h₁ tk₁ E' I oI, x.cps[i]? = some c → J i m₁ news₁ → Fr h₀ env.locals h₁ m₁ → News h₀ env.locals h₁ ((I, oI) :: news₁) → (∀ p ∈ news₁, p.1 ≠ I) →
      wpAny (model prog w) A (assign target env (.str ⟨#[c]⟩ u)) (fun _ s₂ => wpAny (model prog w) A (execs body env) (Turn h₀ env.locals I oI (J (i + 1)) Q s) E' s₂) E' { s with heap := h₁, toks := tk₁ })
    (hQ : ∀ h' tk m' news', Fr h₀ env.locals h' m' → News h₀ env.locals h' news' → J x.cps.size m' news' → Q .next { s with heap := h', toks := tk })
    (hs : ∀ x, foldedSetIterable iter env x = pure x := by intro _; rfl) (ht : ∀ it v, letOwnedTupleGo target it v = pure () := by intro _ _; rfl) :
    wpAny (model prog w) A (exec (.For target iter body [] pos) env) Q E s := by
  refine wpAny_For (hev _ ?_) hs
  cases ha : x.cps.all (· < 128)
  · exact wpAny_pyIter_wide ha (for_str_at F N (Walks.strWide hh _ x t) (fun _ _ st => let ⟨o, ho, _⟩ := st; ⟨o, ho⟩) ⟨_, Heap.get?_push_size _ rfl, rfl, rfl⟩ J h0 step hQ ht)
  · exact wpAny_pyIter_ascii ha (for_str_at F N (Walks.strAscii hh _ x t) (fun _ _ st => let ⟨o, ho, _⟩ := st; ⟨o, ho⟩) ⟨_, Heap.get?_push_size _ rfl, rfl, rfl⟩ J h0 step hQ ht)
end

end
-- part Q
section
open PySem.Calls
/-- a wrapper at which the walk halts -/
def Stop (P : Prop) : Prop := P
theorem val_of {Q : Value → Shared → Prop} {v b : Bool} {s' : Shared} (h : Q (.bool v) s') (e : v = b) : Q (.bool b) s' := e ▸ h
theorem stopHere {P : Prop} (h : Stop P) : P := h
section
variable {prog : Program} {w : World} {A : Around} {s : Shared} {K : Frag} {E : Value → Shared → Prop} {Q : Value → Shared → Prop}
  {name qual : Str} {params : Arguments} {body : List Stmt} {scope : Scope} {dV kV doc pm cdv ct oc : Value} {an od : Option Addr} {osl : Array (Option Value)} {f : Addr} {pos : List Value} {binds : List (Str × Value)}

theorem quiet_def (X : K.In s.heap) (hlim : s.heap.NoLimit)
    (ho : K.lookup f = some ⟨oc, od, .func (fnOf name qual params body scope dV kV doc pm an cdv ct), osl⟩) (hcd : codeIn K cdv qual = true) (hroom : A.depth < recursionLimit)
    (hbind : BindsTo s (fnOf name qual params body scope dV kV doc pm an cdv ct) ⟨pos, []⟩ binds) (hloc : ∀ y ∈ binds, scope.names.lookup y.1 = some .local)
    (h : ∀ E' L' h₁, Fr s.heap L' h₁ (fun y => binds.reverse.lookup y) →
      wpAny (model prog w) (A.deeper (envOf qual scope L' f cdv)) (execs body (envOf qual scope L' f cdv))
        (fun fl s' => Q (match fl with | .ret v => v | _ => .none) s') E'
        { s with heap := h₁, toks := s.toks + binds.length })
    (hco : scope.isCoroutine = false) (hgen : scope.isGenerator = false) (hk : scope.kind = .function)
    (hcell : ∀ x ∈ scope.names, x.2 ≠ .cell) : wpAny (model prog w) A (call (.ref f) pos []) Q E s := by
  refine wpAny_call ?_
  refine codeAny_call_def (fd := fnX name qual params body scope [] dV kV doc pm an cdv ct) (body := body) (binds := binds) hroom (X _ _ ho) rfl hlim (codeRec_of X hcd) rfl hbind hcell hloc (fun h₁ hns hk₁ => ?_) hco hgen hk
  exact h _ s.heap.objs.size h₁ ⟨hns, hk₁, Nat.le_refl _⟩

theorem quiet_cells (X : K.In s.heap) (hlim : s.heap.NoLimit)
    (ho : K.lookup f = some ⟨oc, od, .func (fnOf name qual params body scope dV kV doc pm an cdv ct), osl⟩) (hcd : codeIn K cdv qual = true) (hroom : A.depth < recursionLimit)
    (hbind : BindsTo s (fnOf name qual params body scope dV kV doc pm an cdv ct) ⟨pos, []⟩ binds)
    (hkind : (binds.all fun y => scope.names.lookup y.1 == some .local || scope.names.lookup y.1 == some .cell) = true)
    (hnd : ((cellsFrom 0 scope.names []).map (·.1)).Nodup)
    (h : ∀ E' L' h₁ tk cells, Fr s.heap L' h₁ (bindL (envOfC qual scope L' f cdv).kindOf binds fun _ => none) → News s.heap L' h₁ cells →
      CellsAre (bindC (envOfC qual scope L' f cdv).kindOf binds fun _ => none) (cellsFrom (L' + 1) scope.names []) cells →
      wpAny (model prog w) (A.deeper (envOfC qual scope L' f cdv)) (execs body (envOfC qual scope L' f cdv))
        (fun fl s' => Q (match fl with | .ret v => v | _ => .none) s') E'
        { s with heap := h₁, toks := tk })
    (hco : scope.isCoroutine = false) (hgen : scope.isGenerator = false) (hk : scope.kind = .function) : wpAny (model prog w) A (call (.ref f) pos []) Q E s := by
  refine wpAny_call ?_
  refine codeAny_call_function hroom (X _ _ ho) rfl hco hgen rfl (codeRec_of X hcd) (hbind _ _ _ _ ?_)
  refine wpAny_newFunctionEnv_cells hk (kindsX hkind _) fun env' he s' x => ?_
  subst he
  refine ⟨hlim.keeps x.toInCall.keep, codeAny_func ?_⟩
  obtain ⟨h₁, tk, rfl, _⟩ := x.done
  have hk₁ := x.toInCall.keep
  obtain ⟨cells, NC, Y⟩ := Cl.news (h₀ := s.heap) (Nat.le_refl _) fun n c hm => ⟨x.cell n c (lookup_of_mem_nodup (cellsFrom_names scope.names 0 (s.heap.objs.size + 1) [] [] rfl ▸ hnd) hm), x.above n c hm⟩
  exact h _ s.heap.objs.size h₁ tk cells ⟨x.toInCall.ns, hk₁, Nat.le_refl _⟩ NC Y
end

end
-- part Ell1
section
open PySem.Builtin PySem.Builtin.Str
def find4 (x y : Str) (a b : Int) : Int := match occurrences x y (fromIndex x.length a) (min (fromIndex x.length b) x.length) 1 with | k :: _ => (k : Int) | [] => -1
theorem gives_find4 (x y : Str) (i j : Int) (t u v z : Tok) : Gives (Builtin.«str.find» ⟨[.str x t, .str y u, .int i v, .int j z], []⟩) (.int (find4 x y i j)) := by
  show Gives (match occurrences x y (fromIndex x.length i) (min (fromIndex x.length j) x.length) 1 with | k :: _ => retInt k | [] => (do rule "str.find.not-found"; retInt (-1))) _
  unfold find4
  cases occurrences x y (fromIndex x.length i) (min (fromIndex x.length j) x.length) 1 with
  | nil => exact .rule (.of_eq rfl)
  | cons k _ => exact .of_eq rfl
section
variable {prog : Program} {w : World} {A : Around} {E : Value → Shared → Prop} {s : Shared} {x y : Str} {t u v z : Tok} {i j : Int} {Q : Value → Shared → Prop}
theorem call_find4 (hq : Q (.int (find4 x y i j) s.toks) { s with toks := s.toks + 1 }) : wpAny (model prog w) A (call (.builtin "str.find") [.str x t, .str y u, .int i v, .int j z]) Q E s :=
  call_gives F.slot_str_find (typeIs_str _ _ _) F.entry_str_find (F.args_str_find_4 _ _ _ _) (gives_find4 x y i j t u v z) hq
end

def findAll (y : Str) (e : Int) : List Str → Int → Bool
  | [], _ => true
  | w :: ws, a => if find4 y w a e < 0 then false else findAll y e ws (find4 y w a e + w.length)

def dots : Str := Str.ofString "..."
def emTail (y : Str) (ws : List Str) (a e : Int) : Bool := if a > e then false else findAll y e ws a
def emBack (y : Str) (ws : List Str) (a : Int) : Bool :=
  if (ws.getD (ws.length - 1) Str.empty).length ≠ 0 then
    (if Txt.endswith y (ws.getD (ws.length - 1) Str.empty) then emTail y (ws.eraseIdx (ws.length - 1)) a ((y.length : Int) - ((ws.getD (ws.length - 1) Str.empty).length : Int)) else false)
  else emTail y ws a y.length
def emWs (y : Str) (ws : List Str) : Bool :=
  if (ws.getD 0 Str.empty).length ≠ 0 then (if Txt.startswith y (ws.getD 0 Str.empty) then emBack y (ws.eraseIdx 0) (ws.getD 0 Str.empty).length else false) else emBack y ws 0
def em (x y : Str) : Bool := if (occurrences x dots 0 x.length 1).isEmpty then x == y else emWs y (Txt.split x dots)

theorem strKind_pos (x : Str) : 1 ≤ Builtin.Str.strKind x := by unfold Builtin.Str.strKind; split <;> (try split) <;> decide
theorem two_of_split {l : List (Str × Tok)} {x : Str} (h : l.map (fun p => p.1) = Txt.split x dots) (ho : (occurrences x dots 0 x.length 1).isEmpty = false) : 2 ≤ l.length := by
  have hf : (!(occurrences x dots 0 x.length 1).isEmpty) = true := by rw [ho]; rfl
  obtain ⟨i, hi, hs⟩ := (StrLaws.found_iff x dots).mp hf
  have hd : dots.length = 3 := by decide +kernel
  have hl : l.length = (Txt.split x dots).length := by rw [← h, List.length_map]
  rw [hl]
  unfold Txt.split
  have hk : Builtin.Str.strKind dots = 1 := by decide +kernel
  have h1 : (decide (x.length < dots.length) || decide (Builtin.Str.strKind x < Builtin.Str.strKind dots)) = false := by
    have := strKind_pos x
    rw [hk, hd]; simp; omega
  rw [h1]
  have h2 : (occurrences x dots 0 x.length (x.length + 1)).isEmpty = false := by
    rcases StrLaws.occ_head x dots (x.length + 1) (by omega) with ⟨_, hn⟩ | ⟨a, r, e, _⟩
    · exact absurd ⟨hi, hs⟩ (hn i)
    · rw [e]; rfl
  rw [h2]
  cases hc : occurrences x dots 0 x.length (x.length + 1) with
  | nil => rw [hc] at h2; cases h2
  | cons a r => simp [partsBetween]

end
-- part Ell2
section
open PySem.Calls PySem.Builtin PySem.Builtin.Str
section
variable {prog : Program} {w : World} {A : Around} {s : Shared} {env : Env} {h₀ : Heap} {L : Addr} {m : Str → Option Value} {E : Value → Shared → Prop}

theorem strValues_erase (l : List (Str × Tok)) (k : Nat) : (strValues l).eraseIdx k = strValues (l.eraseIdx k) := by
  unfold strValues
  induction l generalizing k with
  | nil => rfl
  | cons p r ih => cases k with
    | zero => rfl
    | succ k => simp only [List.map_cons, List.eraseIdx_cons_succ, ih]

theorem del_strs {D : Addr} {l : List (Str × Tok)} {n : Nat} {i : Int} {u : Tok} {k : Nat} {p₁ : Addr × Obj} {Q : Unit → Shared → Prop}
    (F : Fr h₀ L s.heap m) (N : News h₀ L s.heap [p₁, (D, { cls := .type "list", data := .seq (strValues l).toArray n })]) (h1 : p₁.1 ≠ D) (hfit : Builtin.List.listFitsIndex i = true) (hk : seqIndex? i l.length = some k) (hsz : l.length ≤ sizeLine)
    (h : ∀ h', Fr h₀ L h' m → News h₀ L h' [p₁, (D, { cls := .type "list", data := .seq (strValues (l.eraseIdx k)).toArray (n + 1) })] → Q () { s with heap := h' }) :
    wpAny (model prog w) A (delItem (.ref D) (.int i u)) Q E s :=
  delItem_second F N h1 (fun _ hp => nomatch hp) hfit (k := k) (by rw [List.size_toArray]; simpa [strValues] using hk) (fun h' F' N' => h h' F' (by simpa [strValues_erase] using N')) (by rw [List.size_toArray]; simpa [strValues] using hsz)

/-- what a turn of the loop of _ellipsis_match reaches -/
inductive EllTurn (h₀ : Heap) (L : Addr) (own : Addr × Obj) (news : List (Addr × Obj)) (s : Shared) (y : Str) (t : Tok) (e : Int) (te : Tok) (z : Str) (b : Int) : Flow → Shared → Prop where
  | stop {h' tk m'} : find4 y z b e < 0 → Fr h₀ L h' m' → News h₀ L h' (own :: news) → EllTurn h₀ L own news s y t e te z b (.ret (.bool false)) { s with heap := h', toks := tk }
  | go {h' tk m' tb'} : ¬ find4 y z b e < 0 → Fr h₀ L h' m' → News h₀ L h' (own :: news) → m' (Str.ofString "got") = some (.str y t) → m' (Str.ofString "endpos") = some (.int e te) → m' (Str.ofString "startpos") = some (.int (find4 y z b e + z.length) tb') →
      EllTurn h₀ L own news s y t e te z b .next { s with heap := h', toks := tk }

theorem ell_for {body : List Stmt} {pt pn pf : Pos} {news : List (Addr × Obj)} {lw : Addr} {l : List (Str × Tok)} {n : Nat} {y : Str} {t : Tok} {e : Int} {te : Tok} {a : Int} {ta : Tok} {Q : Flow → Shared → Prop}
    (hh : A.handled = none) (hk : env.scope.kind = .function) (hx : env.kindOf (Str.ofString "w") = some .local) (hx2 : env.kindOf (Str.ofString "ws") = some .local)
    (F : Fr h₀ env.locals s.heap m) (N : News h₀ env.locals s.heap news) (hws : m (Str.ofString "ws") = some (.ref lw)) (hl : (lw, { cls := .type "list", data := .seq (strValues l).toArray n }) ∈ news)
    (hgot : m (Str.ofString "got") = some (.str y t)) (hst : m (Str.ofString "startpos") = some (.int a ta)) (hen : m (Str.ofString "endpos") = some (.int e te)) (hlen : ∀ p ∈ l, p.1.length ≤ 1000)
    (step : ∀ (z : Str) (u : Tok) (m₁ : Str → Option Value) (h₁ : Heap) (tk₁ : Nat) (E' : Value → Shared → Prop) (I : Addr) (oI : Obj) (b : Int) (tb : Tok), z.length ≤ 1000 → Fr h₀ env.locals h₁ (fun q => if q = Str.ofString "w" then some (.str z u) else m₁ q) → News h₀ env.locals h₁ ((I, oI) :: news) →
      m₁ (Str.ofString "got") = some (.str y t) → m₁ (Str.ofString "endpos") = some (.int e te) → m₁ (Str.ofString "startpos") = some (.int b tb) →
      wpAny (model prog w) A (execs body env) (EllTurn h₀ env.locals (I, oI) news s y t e te z b) E' { s with heap := h₁, toks := tk₁ })
    (h1 : ∀ (h' : Heap) (tk : Nat) (m' : Str → Option Value), Fr h₀ env.locals h' m' → News h₀ env.locals h' news → findAll y e (l.map (·.1)) a = true → Q .next { s with heap := h', toks := tk })
    (h2 : ∀ (h' : Heap) (tk : Nat) (m' : Str → Option Value), Fr h₀ env.locals h' m' → News h₀ env.locals h' news → findAll y e (l.map (·.1)) a = false → Q (.ret (.bool false)) { s with heap := h', toks := tk }) :
    wpAny (model prog w) A (exec (.For (.Name (Str.ofString "w") pt) (.Name (Str.ofString "ws") pn) body [] pf) env) Q E s := by
  have hp : (env.scope.kind == .class || (env.scope.kind == .module && env.locals != env.globals)) = false := by rw [hk]; rfl
  refine for_list (h₀ := h₀) (items := (strValues l).toArray) hh F N (lx := lw) (fun Q' hq => wpAny_Name (wpAny_loadName_local hk hx2 F.ns hws hq) (by decide))
    (fun i m₁ news₁ => news₁ = news ∧ m₁ (Str.ofString "got") = some (.str y t) ∧ m₁ (Str.ofString "endpos") = some (.int e te) ∧ ∃ b tb, m₁ (Str.ofString "startpos") = some (.int b tb) ∧ findAll y e (l.map (·.1)) a = findAll y e ((l.map (·.1)).drop i) b)
    ⟨rfl, hgot, hen, a, ta, hst, rfl⟩ ?_ ?_ ?_
  · rintro i m₁ news₁ h' ⟨rfl, _⟩ F' N'
    exact ⟨_, (N' _ hl).1, rfl, n, rfl⟩
  · rintro i v m₁ news₁ h₁ tk₁ E' I oI hv ⟨rfl, hg, he, b, tb, hb, hf⟩ F₁ N₁ hn₁
    have hv' : ∃ z u, v = .str z u ∧ l[i]? = some (z, u) := by
      simp only [strValues, List.getElem?_toArray, List.getElem?_map] at hv
      cases hq : l[i]? with
      | none => rw [hq] at hv; cases hv
      | some p => rw [hq] at hv; cases hv; exact ⟨p.1, p.2, rfl, rfl⟩
    obtain ⟨z, u, rfl, hz⟩ := hv'
    have hd : (l.map (·.1)).drop i = z :: (l.map (·.1)).drop (i + 1) := by
      have : (l.map (·.1))[i]? = some z := by rw [List.getElem?_map, hz]; rfl
      obtain ⟨hi, hz'⟩ := List.getElem?_eq_some_iff.mp this
      rw [List.drop_eq_getElem_cons hi, hz']
    refine wpAny_assign_Name (wpAny_storeName_local hx F₁.ns (fun h₂ hn₂ hs₂ => ?_) hp)
    refine wpAny_mono (step z u m₁ h₂ _ E' I oI b tb (hlen _ (List.mem_of_getElem? hz)) (F₁.set hn₂ hs₂) (N₁.set hs₂) hg he hb) (fun f s₃ h₃ => ?_) fun _ _ x => x
    cases h₃ with
    | @stop h' tk m' hlt F' N' =>
      refine .inr ⟨_, rfl, h2 h' tk m' F' (fun p hp => N' p (.tail _ hp)) ?_⟩
      rw [hf, hd, findAll, if_pos hlt]
    | @go h' tk m' tb' hge F' N' hg' he' hb' =>
      refine .inl ⟨rfl, h', tk, m', news₁, rfl, F', N', hn₁, rfl, hg', he', _, tb', hb', ?_⟩
      rw [hf, hd, findAll, if_neg hge]
  · rintro h' tk m' news' F' N' ⟨rfl, _, _, b, tb, _, hf⟩
    refine h1 h' tk m' F' N' ?_
    rw [hf, List.drop_eq_nil_of_le (by simp [strValues])]; rfl
end

end
-- part Ell3
section
open PySem.Calls PySem.Builtin PySem.Builtin.Str
theorem truthy_two {prog w A E} {s : Shared} {x : Str} {t : Tok} {Q : Bool → Shared → Prop} (hl : x.length ≤ 16777216)
    (h1 : x.length ≠ 0 → ∀ k, Q true { s with toks := k }) (h0 : x.length = 0 → ∀ k, Q false { s with toks := k }) : wpAny (model prog w) A (PySem.truthy (.str x t)) Q E s := by
  by_cases e : x.length = 0
  · exact KXt.truthy (b := false) (by simp [e]) hl (h0 e)
  · exact KXt.truthy (b := true) (by simp [e]) hl (h1 e)

theorem len_of_mem {l : List (Str × Tok)} {x y : Str} {k : Nat} (h : ∀ a ∈ l.map (fun x => x.1), a.length ≤ x.length) (e : (l.map (fun x => x.1))[k]? = some y) (hx : x.length ≤ 1000) : y.length ≤ 1000 :=
  Nat.le_trans (h _ (List.mem_of_getElem? e)) hx
theorem len_of_getD {l : List Str} {x : Str} {k : Nat} (h : ∀ a ∈ l, a.length ≤ x.length) (hx : x.length ≤ 1000) : (l.getD k Str.empty).length ≤ 1000 := by
  cases e : l[k]? with
  | none => rw [List.getD_eq_getElem?_getD, e]; exact Nat.zero_le _
  | some y => rw [List.getD_eq_getElem?_getD, e]; exact Nat.le_trans (h _ (List.mem_of_getElem? e)) hx
theorem len_lt63 {x : Str} (h : x.length ≤ 1000) : ¬ (x.length : Int) ≥ 2 ^ 63 := by omega
theorem le_big {n : Nat} (h : n ≤ 1000) : n ≤ 16777216 := Nat.le_trans h (by decide)
theorem seq_zero {n : Nat} (h : 1 ≤ n) : seqIndex? 0 n = some 0 := by
  unfold seqIndex?; simp; omega
theorem seq_last {n : Nat} (h : 1 ≤ n) : seqIndex? (-1) n = some (n - 1) := by
  unfold seqIndex?; simp; omega
theorem strs_last {prog : Program} {w : World} {A : Around} {s : Shared} {E Q : Value → Shared → Prop} {h₀ : Heap} {L : Addr} {news : List (Addr × Obj)} {value slice : Expr} {D : Addr} {l : List (Str × Tok)} {n : Nat} {u : Tok}
    (N : News h₀ L s.heap news) (hl : (D, { cls := .type "list", data := .seq (strValues l).toArray n }) ∈ news) (h1 : 1 ≤ l.length)
    (h : ∀ t', Q (.str ((l.map (·.1)).getD ((l.map (·.1)).length - 1) Str.empty) t') s)
    (hs : subscripted slice false (.ref D) (.int (-1) u) = operate [.ref D, .int (-1) u] (getItem (.ref D) (.int (-1) u)) := by with_unfolding_all rfl) :
    wpAny (model prog w) A (subscriptTail value slice (.ref D) (.int (-1) u)) Q E s := by
  have hL : s.heap.IsList D (strValues l).toArray := ⟨_, (N _ hl).1, rfl, n, rfl⟩
  have hlt : l.length - 1 < l.length := by omega
  have e1 : (strValues l).toArray.size = l.length := by simp [strValues]
  refine tail_any hL.typeIs slot_list_getitem.lookup (wpAny_getItem_list_neg (x := .str (l[l.length - 1]).1 (l[l.length - 1]).2) hL (by decide) (by rw [e1]; omega) (by decide) ?_ ?_) hs
  · rw [e1]
    have : ((-1 : Int) + (l.length : Int)).toNat = l.length - 1 := by omega
    rw [this]
    simp [strValues, hlt]
  · have e : (l.map (·.1)).getD ((l.map (·.1)).length - 1) Str.empty = (l[l.length - 1]).1 := by simp [List.getD_eq_getElem?_getD, hlt]
    rw [← e]; exact h _
theorem parts_fit {l : List (Str × Tok)} {x y : Str} (h : l.map (·.1) = Txt.split x y) (hx : x.length ≤ 1000) : l.length ≤ sizeLine := by
  have := len_le_of_split h
  rw [sizeLine_eq]; omega
theorem parts_fit' {l : List (Str × Tok)} {x y : Str} {k : Nat} (h : l.map (·.1) = Txt.split x y) (hx : x.length ≤ 1000) : (l.eraseIdx k).length ≤ sizeLine :=
  Nat.le_trans (List.length_eraseIdx_le _ _) (parts_fit h hx)
theorem one_le_erase {l : List (Str × Tok)} {k : Nat} (h : 2 ≤ (l.length : Int)) : 1 ≤ (l.eraseIdx k).length := by
  rw [List.length_eraseIdx]; split <;> omega

def fnBody : Stmt → List Stmt
  | .FunctionDef _ _ b _ _ _ _ _ _ _ => b
  | _ => []
def ellBody : List Stmt := fnBody ((PySem.Challenge.pw_wb0004_01.main.body)[2]!)
end
local macro_rules | `(tactic| walk_at "m len") => `(tactic| first | assumption | (refine' len_of_getD ?lA ?lB; (case lA => assumption); (case lB => assumption)) | (refine' len_of_mem ?lA ?lB ?lC; (case lA => assumption); (case lB => assumption); (case lC => assumption)))
-- part Ell4
local macro_rules | `(tactic| walk_at "m look") => `(tactic| first | assumption | rfl | (refine (if_neg (by decide)).trans ?_; walk_at "m look") | (refine (if_pos rfl)))
section
open PySem.Calls PySem.Builtin PySem.Builtin.Str
theorem len_getD {l : List (Str × Tok)} {k : Nat} (h : ∀ p ∈ l, p.1.length ≤ 1000) : ((l.map (·.1)).getD k Str.empty).length ≤ 1000 := by
  cases e : (l.map (·.1))[k]? with
  | none => rw [List.getD_eq_getElem?_getD, e]; exact Nat.zero_le _
  | some y =>
    rw [List.getD_eq_getElem?_getD, e]
    obtain ⟨p, hp, rfl⟩ := List.mem_map.mp (List.mem_of_getElem? e)
    exact h p hp
theorem short_erase {l : List (Str × Tok)} {k : Nat} (h : ∀ p ∈ l, p.1.length ≤ 1000) : ∀ p ∈ l.eraseIdx k, p.1.length ≤ 1000 := fun p hp => h p (List.mem_of_mem_eraseIdx hp)
theorem fit_erase {l : List (Str × Tok)} {k : Nat} (h : l.length ≤ sizeLine) : (l.eraseIdx k).length ≤ sizeLine := Nat.le_trans (List.length_eraseIdx_le _ _) h
theorem map_erase (l : List (Str × Tok)) (k : Nat) : (l.eraseIdx k).map (·.1) = (l.map (·.1)).eraseIdx k := by
  induction l generalizing k with
  | nil => rfl
  | cons p r ih => cases k with
    | zero => rfl
    | succ k => simp only [List.map_cons, List.eraseIdx_cons_succ, ih]
section
variable {y : Str} {l : List (Str × Tok)} {a : Int} {b : Bool}
theorem emb_far (h1 : ((l.map (·.1)).getD ((l.map (·.1)).length - 1) Str.empty).length ≠ 0) (h2 : Txt.endswith y ((l.map (·.1)).getD ((l.map (·.1)).length - 1) Str.empty) = true)
    (h3 : (y.length : Int) - ((l.map (·.1)).getD ((l.map (·.1)).length - 1) Str.empty).length < a) : emBack y (l.map (·.1)) a = false := by
  unfold emBack emTail; rw [if_pos h1, if_pos h2, if_pos h3]
theorem emb_in (h1 : ((l.map (·.1)).getD ((l.map (·.1)).length - 1) Str.empty).length ≠ 0) (h2 : Txt.endswith y ((l.map (·.1)).getD ((l.map (·.1)).length - 1) Str.empty) = true)
    (h3 : ¬ (y.length : Int) - ((l.map (·.1)).getD ((l.map (·.1)).length - 1) Str.empty).length < a)
    (h4 : findAll y ((y.length : Int) - ((l.map (·.1)).getD ((l.map (·.1)).length - 1) Str.empty).length) ((l.eraseIdx (l.length - 1)).map (·.1)) a = b) : emBack y (l.map (·.1)) a = b := by
  unfold emBack emTail; rw [if_pos h1, if_pos h2, if_neg h3, ← h4, map_erase, List.length_map]
theorem emb_not (h1 : ((l.map (·.1)).getD ((l.map (·.1)).length - 1) Str.empty).length ≠ 0) (h2 : Txt.endswith y ((l.map (·.1)).getD ((l.map (·.1)).length - 1) Str.empty) = false) : emBack y (l.map (·.1)) a = false := by
  unfold emBack emTail; rw [if_pos h1, h2]; rfl
theorem emb_far0 (h1 : ((l.map (·.1)).getD ((l.map (·.1)).length - 1) Str.empty).length = 0) (h3 : (y.length : Int) < a) : emBack y (l.map (·.1)) a = false := by
  unfold emBack emTail; rw [if_neg (fun e => e h1), if_pos h3]
theorem emb_in0 (h1 : ((l.map (·.1)).getD ((l.map (·.1)).length - 1) Str.empty).length = 0) (h3 : ¬ (y.length : Int) < a) (h4 : findAll y (y.length : Int) (l.map (·.1)) a = b) : emBack y (l.map (·.1)) a = b := by
  unfold emBack emTail; rw [if_neg (fun e => e h1), if_neg h3, h4]
theorem ret_of {Q : Flow → Shared → Prop} {v b : Bool} {s' : Shared} (h : Q (.ret (.bool v)) s') (e : v = b) : Q (.ret (.bool b)) s' := e ▸ h
end
section
local macro_rules | `(tactic| walk_at "m len") => `(tactic| exact len_getD (by assumption))
local macro_rules | `(tactic| walk_at "eval Name") => `(tactic| ((rename Fr _ _ _ _ => F9); (refine ld F9 (by walk_at "m look") ?_)))
local macro_rules | `(tactic| walk_at "loadName") => `(tactic| ((rename Fr _ _ _ _ => F9); (refine ldn F9 (by walk_at "m look") ?_)))
local macro_rules | `(tactic| walk_at "truthy str") => `(tactic| (k_here; (with_reducible show wpAny _ _ (PySem.truthy (Value.str _ _)) _ _ _); (refine truthy_two ?mtl ?_ ?_; (case mtl => exact le_big (by walk_at "m len")); (all_goals (intro hlen9 tk9)))))
local macro_rules | `(tactic| walk_at "call builtin:len") => `(tactic| (k_here; (with_reducible show wpAny _ _ (call (Value.builtin "len") [Value.str _ _]) _ _ _); (refine len_str (len_lt63 (by walk_at "m len")) ?_)))
local macro_rules | `(tactic| walk_at "call builtin:str.find") => `(tactic| ((with_reducible show wpAny _ _ (call (Value.builtin "str.find") [Value.str _ _, Value.str _ _, Value.int _ _, Value.int _ _]) _ _ _); refine call_find4 ?_))
local macro_rules | `(tactic| walk_at "delItem ref int") => `(tactic| ((with_reducible show wpAny _ _ (delItem (Value.ref _) (Value.int _ _)) _ _ _); (rename Fr _ _ _ _ => F9); (rename News _ _ _ _ => N9); (with_unfolding_all refine' del_strs F9 N9 ?h1 ?hf ?hk ?hz ?_); (case h1 => assumption); (case hf => decide); (case hk => exact seq_last (by assumption)); (case hz => assumption); clear F9 N9; intro h9 F9 N9))
local macro_rules | `(tactic| walk_at "subscriptTail Name") => `(tactic| ((with_reducible show wpAny _ _ (subscriptTail _ _ (Value.ref _) (Value.int _ _)) _ _ _); (rename News _ _ _ _ => N9); (with_unfolding_all refine' strs_last N9 (List.Mem.tail _ (List.Mem.head _)) ?h1 ?_ ?hs); (case h1 => assumption); (case hs => with_unfolding_all rfl); intro t9))
local macro_rules | `(tactic| walk_at "exec For Name Name cons nil") => `(tactic| ((rename Fr _ _ _ _ => F9); (rename News _ _ _ _ => N9); (with_unfolding_all refine' ell_for ?hh ?hk ?hx ?hx2 ?F ?N ?hws ?hl ?hgot ?hst ?hen ?hlen ?_ ?_ ?_); (case F => exact F9); (case N => exact N9); (case hh => exact rfl); (case hk => exact rfl); (case hx => exact rfl); (case hx2 => exact rfl); (case hws => walk_at "m look"); (case hl => exact List.Mem.tail _ (List.Mem.head _)); (case hgot => walk_at "m look"); (case hst => walk_at "m look"); (case hen => walk_at "m look"); (case hlen => first | assumption | exact short_erase (by assumption)); clear F9 N9; intros))

theorem ell_back {w : World} {dp un : Nat} {fr : Option (List Env)} {gd : Option (List Code)} {s : Shared} {E : Value → Shared → Prop} {Q : Flow → Shared → Prop} {mean : ExcName → Option Value} {mg mb : Str → Option Value} {y : Str} {tg : Tok} {h₀ : Heap} {L : Addr} {m : Str → Option Value} {p₁ : Addr × Obj} {D : Addr} {l : List (Str × Tok)} {n : Nat} {a : Int} {ta te : Tok}
  (X : (hd.heap_39 w.params).In h₀) (T : Top hd.view_39 (looseW hd.view_39 []) mean mg mb h₀) (hy : y.length ≤ 1000)
  (F : Fr h₀ L s.heap m) (N : News h₀ L s.heap [p₁, (D, { cls := .type "list", data := .seq (strValues l).toArray n })]) (hne : p₁.1 ≠ D) (h1 : 1 ≤ l.length) (hlen : ∀ p ∈ l, p.1.length ≤ 1000) (hfit : l.length ≤ sizeLine)
  (hws : m (Str.ofString "ws") = some (.ref D)) (hgot : m (Str.ofString "got") = some (.str y tg)) (hst : m (Str.ofString "startpos") = some (.int a ta)) (hen : m (Str.ofString "endpos") = some (.int (y.length : Int) te))
  (h : ∀ h' tk', (∀ b o, h₀.get? b = some o → h'.get? b = some o) → Q (.ret (.bool (emBack y (l.map (·.1)) a))) { s with heap := h', toks := tk' }) :
  wpAny (model PySem.Challenge.rw_wb0004_01.row.prog w) ({ handled := none, depth := dp, frames := fr, guards := gd, units := un } : Around) (execs (ellBody.drop 6) (envOf (Str.ofString "_ellipsis_match")
      { kind := ScopeKind.function, names := [(Str.ofString "want", .local), (Str.ofString "got", .local), (Str.ofString "ws", .local), (Str.ofString "startpos", .local), (Str.ofString "endpos", .local), (Str.ofString "w", .local), (Str.ofString "ELLIPSIS_MARKER", .globalImplicit), (Str.ofString "len", .globalImplicit)], isGenerator := false, isCoroutine := false, more := [] } L 21 (Value.ref 20))) Q E s := by
    revert X T h; w_top off; k_fill; intro X T h
    refine (show wpAny _ _ (execs (_ :: _ :: _ :: _ :: _ :: []) _) _ _ _ from ?_)
    k_steps
    all_goals first
      | (rename Fr _ _ _ _ => F9; show Q (Flow.ret (Value.bool _)) _; refine ret_of (h _ _ F9.keep) ?_; first
          | exact emb_far (by assumption) (by assumption) (by assumption)
          | exact emb_in (by assumption) (by assumption) (by assumption) (by assumption)
          | exact emb_not (by assumption) (by assumption)
          | exact emb_far0 (by assumption) (by assumption)
          | exact emb_in0 (by assumption) (by assumption) (by assumption))
      | ((show EllTurn _ _ _ _ _ _ _ _ _ _ _ (Flow.ret _) _); (rename Fr _ _ _ _ => F9); (rename News _ _ _ _ => N9); (refine' EllTurn.stop ?e1 ?e2 ?e3); (case e2 => exact F9); (case e3 => exact N9); (case e1 => assumption))
      | ((show EllTurn _ _ _ _ _ _ _ _ _ _ _ Flow.next _); (rename Fr _ _ _ _ => F9); (rename News _ _ _ _ => N9); (refine' EllTurn.go ?e1 ?e2 ?e3 ?e4 ?e5 ?e6); (case e2 => exact F9); (case e3 => exact N9); (case e1 => assumption); (case e4 => walk_at "m look"); (case e5 => walk_at "m look"); (case e6 => walk_at "m look"))
end

end
-- part Ell5
section
open PySem.Calls PySem.Builtin PySem.Builtin.Str
section
variable {x y z : Str} {l : List (Str × Tok)}
theorem short_of (h : ∀ a ∈ l.map (fun x => x.1), a.length ≤ x.length) (hx : x.length ≤ 1000) : ∀ p ∈ l, p.1.length ≤ 1000 := fun p hp => Nat.le_trans (h _ (List.mem_map_of_mem hp)) hx
theorem em_plain (h : (occurrences x (Str.ofString "...") 0 x.length 1).isEmpty = true) : em x y = (x == y) := by
  unfold em dots; rw [if_pos h]
theorem em_split (h : (occurrences x (Str.ofString "...") 0 x.length 1).isEmpty = false) (hl : l.map (fun x => x.1) = Txt.split x (Str.ofString "...")) : em x y = emWs y (l.map (·.1)) := by
  unfold em dots; rw [h, if_neg (by decide), hl]
theorem getD_of {k : Nat} (h : (l.map (fun x => x.1))[k]? = some z) : (l.map (·.1)).getD k Str.empty = z := by rw [List.getD_eq_getElem?_getD, h]; rfl
theorem em_start (h : (occurrences x (Str.ofString "...") 0 x.length 1).isEmpty = false) (hl : l.map (fun x => x.1) = Txt.split x (Str.ofString "...")) (hz : (l.map (fun x => x.1))[Int.toNat 0]? = some z) (h1 : z.length ≠ 0) (h2 : Txt.startswith y z = true) :
    em x y = emBack y ((l.eraseIdx 0).map (·.1)) z.length := by
  rw [em_split h hl]; unfold emWs; rw [getD_of (k := 0) hz, if_pos h1, if_pos h2, map_erase]
theorem em_nostart (h : (occurrences x (Str.ofString "...") 0 x.length 1).isEmpty = false) (hl : l.map (fun x => x.1) = Txt.split x (Str.ofString "...")) (hz : (l.map (fun x => x.1))[Int.toNat 0]? = some z) (h1 : z.length ≠ 0) (h2 : Txt.startswith y z = false) :
    em x y = false := by
  rw [em_split h hl]; unfold emWs; rw [getD_of (k := 0) hz, if_pos h1, h2]; rfl
theorem em_open (h : (occurrences x (Str.ofString "...") 0 x.length 1).isEmpty = false) (hl : l.map (fun x => x.1) = Txt.split x (Str.ofString "...")) (hz : (l.map (fun x => x.1))[Int.toNat 0]? = some z) (h1 : z.length = 0) :
    em x y = emBack y (l.map (·.1)) 0 := by
  rw [em_split h hl]; unfold emWs; rw [getD_of (k := 0) hz, if_neg (fun e => e h1)]
theorem val_of' {Q : Value → Shared → Prop} {v b : Bool} {s' : Shared} (h : Q (.bool v) s') (e : v = b) : (fun fl s' => Q (match fl with | Flow.ret v => v | _ => Value.none) s') (.ret (.bool b)) s' := e ▸ h
end

section
local macro_rules | `(tactic| walk_at "truthy str") => `(tactic| (k_here; (with_reducible show wpAny _ _ (PySem.truthy (Value.str _ _)) _ _ _); (refine truthy_two ?mtl ?_ ?_; (case mtl => exact le_big (by walk_at "m len")); (all_goals (intro hlen9 tk9)))))
local macro_rules | `(tactic| walk_at "call builtin:len") => `(tactic| (k_here; (with_reducible show wpAny _ _ (call (Value.builtin "len") [Value.str _ _]) _ _ _); (refine len_str (len_lt63 (by walk_at "m len")) ?_)))
local macro_rules | `(tactic| walk_at "delItem ref int") => `(tactic| ((with_reducible show wpAny _ _ (delItem (Value.ref _) (Value.int _ _)) _ _ _); (rename Fr _ _ _ _ => F9); (rename News _ _ _ _ => N9); (with_unfolding_all refine' del_strs F9 N9 ?h1 ?hf ?hk ?hz ?_); (case h1 => exact Nat.ne_of_gt (by assumption)); (case hf => decide); (case hk => exact seq_zero (by omega)); (case hz => exact parts_fit (by assumption) (by assumption)); clear F9 N9; intro h9 F9 N9))
local macro_rules | `(tactic| walk_at "execs cons") => `(tactic| ((with_reducible show wpAny _ _ (execs (Stmt.Assign [Expr.Name _ _] (Expr.Subscript _ (Expr.UnaryOp _ _ _) _) _ :: _) _) _ _ _); refine stopHere ?_))

theorem ell_call {w : World} {A : Around} {s : Shared} {E Q : Value → Shared → Prop} {mean : ExcName → Option Value} {mg mb : Str → Option Value} {x y : Str} {t u : Tok}
  (hh : A.handled = none) (hroom : A.depth < recursionLimit) (X : (hd.heap_39 w.params).In s.heap) (T : Top hd.view_39 (looseW hd.view_39 []) mean mg mb s.heap) (hx : x.length ≤ 1000) (hy : y.length ≤ 1000)
  (h : ∀ h' tk', (∀ b o, s.heap.get? b = some o → h'.get? b = some o) → Q (.bool (em x y)) { s with heap := h', toks := tk' }) :
  wpAny (model PySem.Challenge.rw_wb0004_01.row.prog w) A (call (.ref 21) [.str x t, .str y u]) Q E s := by
    obtain ⟨ah, dp, fr, gd, un⟩ := A; cases (show ah = none from hh)
    revert X T h; w_top off; k_fill; intro X T h
    k_dflt (refine' quiet_def X T.nolimit ?k6 ?k7 hroom ?k9 ?kB ?_ ?c2 ?c3 ?c4 ?c5; (case k6 => k_is); (case k7 => k_is); (case k9 => exact BindsTo.of_eq rfl); (case c5 => decide); (case kB => exact locs rfl); (case c2 => exact rfl); (case c3 => exact rfl); (case c4 => exact rfl); k_whole)
    intro E' L' h₁ F'
    have N' : News s.heap L' h₁ [] := News.nil
    (try dsimp only); (try k_fold)
    k_steps
    all_goals first
      | (rename Fr _ _ _ _ => F9; show Q (Value.bool (_ == _)) _; exact val_of (h _ _ F9.keep) (em_plain (by assumption)))
      | (unfold Stop; (rename Fr _ _ _ _ => F9); (rename News _ _ _ _ => N9); (with_unfolding_all refine' ell_back ?X ?T ?hy ?F ?N ?hne ?h1 ?hlen ?hfit ?hws ?hgot ?hst ?hen ?_); (case X => assumption); (case T => assumption); (case hy => assumption); (case F => exact F9); (case N => exact N9); (case hne => exact Nat.ne_of_gt (by assumption)); (case h1 => first | omega | exact one_le_erase (by assumption)); (case hlen => first | exact short_of (by assumption) (by assumption) | exact short_erase (short_of (by assumption) (by assumption))); (case hfit => first | exact parts_fit (by assumption) (by assumption) | exact parts_fit' (by assumption) (by assumption)); (case hws => walk_at "m look"); (case hgot => walk_at "m look"); (case hst => walk_at "m look"); (case hen => walk_at "m look"); clear F9 N9; intro h9 tk9 hK9; show Q (Value.bool (emBack _ _ _)) _; refine val_of (h _ _ (by assumption)) ?_; first
          | exact em_start (by assumption) (by assumption) (by assumption) (by assumption) (by assumption)
          | exact em_open (by assumption) (by assumption) (by assumption) (by assumption))
      | (rename Fr _ _ _ _ => F9; show Q (Value.bool false) _; exact val_of (h _ _ F9.keep) (em_nostart (by assumption) (by assumption) (by assumption) (by assumption) (by assumption)))
      | (exfalso; have h2 := two_of_split (by assumption) (by assumption); omega)
end

end
-- part Met
section
open PySem.Calls PySem.Builtin PySem.Builtin.Str
def metRun (x : Str) : List Nat → Int → Int
  | [], b => b
  | c :: r, b => metRun x r (if (Txt.slice x (some b) (some (b + 1)) == ⟨#[c]⟩) = true then b + 1 else b)
def metB (x y : Str) : Bool := metRun x y.cps.toList 0 == (x.length : Int)
theorem drop_cps {y : Str} {i c : Nat} (h : y.cps[i]? = some c) : y.cps.toList.drop i = c :: y.cps.toList.drop (i + 1) := by
  obtain ⟨hi, rfl⟩ := Array.getElem?_eq_some_iff.mp h
  rw [← Array.getElem_toList]
  exact List.drop_eq_getElem_cons (by simpa using hi)
theorem metRun_yes {x y : Str} {i c : Nat} {b z : Int} (h : y.cps[i]? = some c) (hr : metRun x (y.cps.toList.drop i) b = z) (he : (Txt.slice x (some b) (some (b + 1)) == ⟨#[c]⟩) = true) : metRun x (y.cps.toList.drop (i + 1)) (b + 1) = z := by
  rw [drop_cps h, metRun, if_pos he] at hr; exact hr
theorem metRun_no {x y : Str} {i c : Nat} {b z : Int} (h : y.cps[i]? = some c) (hr : metRun x (y.cps.toList.drop i) b = z) (he : (Txt.slice x (some b) (some (b + 1)) == ⟨#[c]⟩) = false) : metRun x (y.cps.toList.drop (i + 1)) b = z := by
  rw [drop_cps h, metRun, he] at hr; exact hr
section
local macro_rules | `(tactic| walk_at "eval Name") => `(tactic| ((rename Fr _ _ _ _ => F9); (refine ld F9 (by walk_at "m look") ?_)))
local macro_rules | `(tactic| walk_at "loadName") => `(tactic| ((rename Fr _ _ _ _ => F9); (refine ldn F9 (by walk_at "m look") ?_)))
local macro_rules | `(tactic| walk_at "exec For Name Name cons nil") => `(tactic| ((with_reducible show wpAny _ _ (exec (Stmt.For _ _ _ [] _) _) _ _ _); refine stopHere ?_))

theorem met_call {w : World} {A : Around} {s : Shared} {E Q : Value → Shared → Prop} {mean : ExcName → Option Value} {mg mb : Str → Option Value} {x y : Str} {t u : Tok}
  (hh : A.handled = none) (hroom : A.depth < recursionLimit) (X : (hd.heap_39 w.params).In s.heap) (T : Top hd.view_39 (looseW hd.view_39 []) mean mg mb s.heap) (hx : x.length ≤ 1000) (hy : y.length ≤ 1000)
  (h : ∀ h' tk', (∀ b o, s.heap.get? b = some o → h'.get? b = some o) → Q (.bool (metB x y)) { s with heap := h', toks := tk' }) :
  wpAny (model PySem.Challenge.rw_wb0004_01.row.prog w) A (call (.ref 28) [.str x t, .str y u]) Q E s := by
    obtain ⟨ah, dp, fr, gd, un⟩ := A; cases (show ah = none from hh)
    revert X T h; w_top off; k_fill; intro X T h
    k_dflt (refine' quiet_def X T.nolimit ?k6 ?k7 hroom ?k9 ?kB ?_ ?c2 ?c3 ?c4 ?c5; (case k6 => k_is); (case k7 => k_is); (case k9 => exact BindsTo.of_eq rfl); (case c5 => decide); (case kB => exact locs rfl); (case c2 => exact rfl); (case c3 => exact rfl); (case c4 => exact rfl); k_whole)
    intro E' L' h₁ F'
    have N' : News s.heap L' h₁ [] := News.nil
    (try dsimp only); (try k_fold)
    k_steps
    unfold Stop; rename Fr _ _ _ _ => F'; rename News _ _ _ _ => N'
    refine for_str (h₀ := s.heap) (x := y) (t := u) rfl F' N' (fun Q' hq => ld F' rfl hq)
      (fun i m₁ news₁ => news₁ = [] ∧ m₁ (Str.ofString "few") = some (.str x t) ∧ ∃ b tb, m₁ (Str.ofString "met") = some (.int b tb) ∧ 0 ≤ b ∧ b ≤ i ∧ metRun x (y.cps.toList.drop i) b = metRun x y.cps.toList 0)
      ⟨rfl, rfl, 0, _, rfl, Int.le_refl _, Int.le_refl _, rfl⟩ ?_ ?_
    · rintro i c v m₁ news₁ h₂ tk₁ E₂ I oI hc ⟨rfl, hf, b, tb, hb, hb0, hbi, hr⟩ F₁ N₁ hn₁
      clear F' N'
      have hi : i < y.length := by
        have := Array.getElem?_eq_some_iff.mp hc
        exact this.1
      refine wpAny_assign_Name (wpAny_storeName_local rfl F₁.ns (fun h₃ hn₃ hs₃ => ?_) rfl)
      have F9 := F₁.set hn₃ hs₃
      have N9 := N₁.set hs₃
      clear F₁ N₁ hn₃ hs₃
      k_steps
      all_goals (rename Fr _ _ _ _ => F8; rename News _ _ _ _ => N8)
      · exact .inl ⟨rfl, _, _, _, _, rfl, F8, N8, hn₁, rfl, (if_neg (by decide)).trans ((if_neg (by decide)).trans hf), b + 1, _, rfl, by omega, by omega, metRun_yes hc hr (by assumption)⟩
      · exact .inl ⟨rfl, _, _, _, _, rfl, F8, N8, hn₁, rfl, (if_neg (by decide)).trans hf, b, tb, (if_neg (by decide)).trans hb, hb0, by omega, metRun_no hc hr (by assumption)⟩
    · rintro h₂ tk₂ m₂ news₂ F9 N9 ⟨rfl, hf, b, tb, hb, hb0, hbi, hr⟩
      clear F' N'
      have hr' : b = metRun x y.cps.toList 0 := by
        rw [List.drop_eq_nil_of_le (by simp)] at hr; exact hr
      k_steps
      rename Fr _ _ _ _ => F8
      exact val_of (h _ _ F8.keep) (by unfold metB; rw [hr'])
end

end
-- part Comp
section
/-- what a comprehension or a loop draws from: the iterator object at I -/
structure Src (prog : Program) (w : World) (A : Around) (I : Addr) (n : Nat) (P : Nat → Value → Prop) (St : Nat → Obj → Prop) (Sh : Heap → Prop) : Prop where
  item : ∀ i (s : Shared) (Q : Option Value → Shared → Prop) (E : Value → Shared → Prop) (oI : Obj), i < n → s.heap.get? I = some oI → St i oI → Sh s.heap →
    (∀ v h' tk oI', P i v → h'.get? I = some oI' → St (i + 1) oI' → Heap.ExtBut I s.heap h' → Q (some v) { s with heap := h', toks := tk }) → wpAny (model prog w) A (pyNext (.ref I)) Q E s
  done : ∀ (s : Shared) (Q : Option Value → Shared → Prop) (E : Value → Shared → Prop) (oI : Obj), s.heap.get? I = some oI → St n oI → Sh s.heap →
    (∀ h' tk, Heap.ExtBut I s.heap h' → Q none { s with heap := h', toks := tk }) → wpAny (model prog w) A (pyNext (.ref I)) Q E s
  self : ∀ i (s : Shared) (Q : Value → Shared → Prop) (E : Value → Shared → Prop) (oI : Obj), s.heap.get? I = some oI → St i oI → Q (.ref I) s → wpAny (model prog w) A (pyIter (.ref I)) Q E s

section
variable {prog : Program} {w : World} {A : Around}
theorem srcList (hh : A.handled = none) {I lx : Addr} (items : Array Value) :
    Src prog w A I items.size (fun i v => items[i]? = some v) (fun i o => o.cls = .type "list_iterator" ∧ o.data = .fields #[.ref lx, .int i 0]) (fun h => h.IsList lx items) where
  item := fun i s Q E oI hi ho st hl hQ => by
    refine wpAny_pyNext_list_item ⟨oI, ho, st⟩ hl (x := items[i]) (by simp [hi]) fun h' hit' hs' => ?_
    obtain ⟨o', ho', st'⟩ := hit'
    exact hQ _ h' s.toks o' (by simp [hi]) ho' st' hs'.extBut
  done := fun s Q E oI ho st hl hQ => wpAny_pyNext_list_end hh ⟨oI, ho, st⟩ hl (by simp) fun h' he' => hQ h' s.toks he'
  self := fun i _ _ _ oI ho st hQ => wpAny_pyIter_listiter (i := i) ⟨oI, ho, st⟩ hQ
theorem srcStrA (hh : A.handled = none) {I : Addr} (x : Str) (t : Tok) :
    Src prog w A I x.cps.size (SignAt x) (fun i o => ∀ h : Heap, h.get? I = some o → h.IsStrIter I "str_ascii_iterator" x t i) (fun _ => True) where
  item := fun i s Q E oI hi ho st _ hQ => by
    refine wpAny_pyNext_ascii_item (st _ ho) (c := x.cps[i]) (by simp [hi]) fun h' hit' hs' => ?_
    obtain ⟨o', ho', r⟩ := id hit'
    exact hQ _ h' (s.toks + 1) o' ⟨_, _, by simp [hi], rfl⟩ ho' (fun h e => ⟨o', e, r⟩) hs'.extBut
  done := fun s Q E oI ho st _ hQ => wpAny_pyNext_ascii_end hh (st _ ho) (by simp) fun h' he' => hQ h' s.toks he'
  self := fun i _ _ _ oI ho st hQ => wpAny_pyIter_striter_ascii (st _ ho) hQ
theorem srcStrW (hh : A.handled = none) {I : Addr} (x : Str) (t : Tok) :
    Src prog w A I x.cps.size (SignAt x) (fun i o => ∀ h : Heap, h.get? I = some o → h.IsStrIter I "str_iterator" x t i) (fun _ => True) where
  item := fun i s Q E oI hi ho st _ hQ => by
    refine wpAny_pyNext_wide_item (st _ ho) (c := x.cps[i]) (by simp [hi]) fun h' hit' hs' => ?_
    obtain ⟨o', ho', r⟩ := id hit'
    exact hQ _ h' (s.toks + 1) o' ⟨_, _, by simp [hi], rfl⟩ ho' (fun h e => ⟨o', e, r⟩) hs'.extBut
  done := fun s Q E oI ho st _ hQ => wpAny_pyNext_wide_end hh (st _ ho) (by simp) fun h' he' => hQ h' s.toks he'
  self := fun i _ _ _ oI ho st hQ => wpAny_pyIter_striter_wide (st _ ho) hQ
theorem srcTuple (hh : A.handled = none) {I lx : Addr} (items : Array Value) :
    Src prog w A I items.size (fun i v => items[i]? = some v) (fun i o => ∀ h : Heap, h.get? I = some o → h.IsTupleIter I lx i) (fun h => h.IsTuple lx items) where
  item := fun i s Q E oI hi ho st hl hQ => by
    refine wpAny_pyNext_tuple_item (st _ ho) hl (x := items[i]) (by simp [hi]) fun h' hit' hs' => ?_
    obtain ⟨o', ho', st'⟩ := id hit'
    exact hQ _ h' s.toks o' (by simp [hi]) ho' (fun h e => ⟨o', e, st'⟩) hs'.extBut
  done := fun s Q E oI ho st hl hQ => wpAny_pyNext_tuple_end hh (st _ ho) hl (by simp) fun h' he' => hQ h' s.toks he'
  self := fun i _ _ _ oI ho st hQ => wpAny_pyIter_tupleiter (st _ ho) hQ
theorem srcRange (hh : A.handled = none) {I : Addr} (a c : Int) (n : Nat) :
    Src prog w A I n (fun i v => ∃ t, v = .int (a + i * c) t) (fun i o => ∀ h : Heap, h.get? I = some o → IsRangeIter h I (a + (i : Nat) * c) ((n : Int) - (i : Nat)) c) (fun _ => True) where
  item := fun i s Q E oI hi ho st _ hQ => by
    refine wpAny_pyNext_range_item (st _ ho) (by omega) fun h' hit' hs' => ?_
    have e1 : a + ((i + 1 : Nat) : Int) * c = a + (i : Int) * c + c := by push_cast; rw [Int.add_mul, Int.one_mul, Int.add_assoc]
    have e2 : (n : Int) - ((i + 1 : Nat) : Int) = (n : Int) - (i : Int) - 1 := by push_cast; omega
    refine hQ _ h' _ _ ⟨_, rfl⟩ hit' (fun h e => ?_) hs'.extBut
    rw [e1, e2]; exact e
  done := fun s Q E oI ho st _ hQ => wpAny_pyNext_range_end hh (st _ ho) (by omega) fun h' he' => hQ h' s.toks he'
  self := fun i _ _ _ oI ho st hQ => wpAny_pyIter_rangeiter (st _ ho) hQ
end

/-- the cells that a comprehension's own names open -/
def ledCells (n : Nat) : List (Str × NameKind) → List (Addr × Obj)
  | [] => []
  | (_, k) :: r => if k == .cell then (n, { cls := .type "cell", data := .cell none }) :: ledCells (n + 1) r else ledCells n r
theorem ledCells_ok : ∀ (names : List (Str × NameKind)) (h : Heap), ∀ p ∈ ledCells h.objs.size names, (pushCells h names).get? p.1 = some p.2 ∧ h.objs.size ≤ p.1
  | [], _, _, hp => nomatch hp
  | (_, k) :: r, h, p, hp => by
    unfold ledCells at hp
    unfold pushCells
    split at hp
    · rename_i hk
      rw [if_pos hk]
      rcases List.mem_cons.mp hp with rfl | hp
      · exact ⟨pushCells_keeps _ _ _ _ (Heap.get?_push_size _ rfl), Nat.le_refl _⟩
      · have := ledCells_ok r (h.push { cls := .type "cell", data := .cell none }) p (by rw [Heap.size_push]; exact hp)
        rw [Heap.size_push] at this
        exact ⟨this.1, by omega⟩
    · rename_i hk
      rw [if_neg hk]
      exact ledCells_ok r h p hp

def compEnv0 (scope : Scope) (cl : List (Str × Addr)) (C : Addr) (env : Env) : Env :=
  { scope := scope, locals := C, globals := env.globals, cells := cellsFrom (C + 1) scope.names cl, qual := env.qual, func := none, code := env.code, frame := env.frame, builtins := env.builtins }

theorem wpAny_compEnv {M : Model} {A : Around} {E : Value → Shared → Prop} {s : Shared} {scope : Scope} {cl : List (Str × Addr)} {env : Env} {Q : Env → Shared → Prop}
    (h : Q (compEnv0 scope cl s.heap.objs.size env) { s with heap := pushCells (s.heap.push { cls := .type "dict", data := .dict #[] }) scope.names }) :
    wpAny M A (newFunctionEnv scope env.globals cl [] env.qual none .none (some env)) Q E s := by
  simp only [newFunctionEnv, Option.isSome_some, if_true]
  refine wpAny_bind (wpAny_alloc ?_)
  refine wpAny_bind (wpAny_layCells _ (fun name kind cells => by cases hkc : kind == NameKind.cell <;> simp [hkc]) _ _ _ _ ?_)
  rw [show ({ s with heap := s.heap.push { cls := .type "dict", data := .dict #[] } } : Shared).heap.objs.size = s.heap.objs.size + 1 from Heap.size_push ..]
  simp only [List.forIn_nil]
  exact wpAny_bind (wpAny_pure (wpAny_pure h))

abbrev lobj (ys : List Value) (n : Nat) : Obj := { cls := .type "list", data := .seq ys.toArray n }

section
variable {prog : Program} {w : World} {A : Around} {s : Shared} {env : Env} {h₀ : Heap} {E : Value → Shared → Prop}

/-- what a turn of a comprehension reaches, before the append -/
def CompTurn (g : Heap) (C D I : Addr) (oI : Obj) (oD : Obj) (J : List (Addr × Obj) → Prop) (s : Shared) (s₄ : Shared) : Prop :=
  ∃ h' tk mC' led', s₄ = { s with heap := h', toks := tk } ∧ Fr g C h' mC' ∧ News g C h' ((D, oD) :: (I, oI) :: led') ∧ (∀ p ∈ led', p.1 ≠ I ∧ p.1 ≠ D) ∧ J led'

/-- the ground of a comprehension's block -/
structure CompGround (h₀ : Heap) (L : Addr) (m : Str → Option Value) (g : Heap) : Prop where
  stays : ∀ b o, h₀.get? b = some o → g.get? b = some o
  back : ∀ h', (∀ b o, g.get? b = some o → h'.get? b = some o) → Fr h₀ L h' m
  off : ∀ b, g.get? b = none → h₀.get? b = none ∧ b ≠ L

theorem comp_core {elt target iter : Expr} {ifs : List Expr} {scope : Scope} {pos : Pos} {cl : List (Str × Addr)} {I : Addr} {oI : Obj} {n : Nat} {P : Nat → Value → Prop} {St : Nat → Obj → Prop} {Sh : Heap → Prop}
    {m : Str → Option Value} {news : List (Addr × Obj)} {RR : Value → Addr → Result → Shared → Prop}
    (S : Src prog w A I n P St Sh) (hsz : n ≤ sizeLine) (F : Fr h₀ env.locals s.heap m) (N : News h₀ env.locals s.heap ((I, oI) :: news)) (hap : ∀ p ∈ news, p.1 ≠ I) (hst : St 0 oI)
    (J : Addr → Nat → List Value → List (Addr × Obj) → Prop)
    (h0 : ∀ C, (∀ p ∈ news, p.1 < C) → J C 0 [] (ledCells (C + 1) scope.names ++ news))
    (hSh : ∀ i C g h mC ys led, CompGround h₀ env.locals m g → J C i ys led → Fr g C h mC → News g C h led → Sh h)
    (step : ∀ i v ys nD led h mC tk E' g C D oI', CompGround h₀ env.locals m g → i < n → P i v → J C i ys led → ys.length ≤ i → Fr g C h mC → News g C h ((D, lobj ys nD) :: (I, oI') :: led) →
      (∀ p ∈ led, p.1 ≠ I ∧ p.1 ≠ D) → D ≠ I →
      wpAny (model prog w) A (assign target (compEnvC scope (cellsFrom (C + 1) scope.names cl) C env) v) (fun _ s₂ =>
        wpAny (model prog w) A (forIn ifs true fun c r => if r = true then do let ok ← isTrue c (compEnvC scope (cellsFrom (C + 1) scope.names cl) C env) (eval c (compEnvC scope (cellsFrom (C + 1) scope.names cl) C env)); pure (ForInStep.yield ok) else pure (ForInStep.yield r)) (fun ok s₃ =>
          if ok = true then wpAny (model prog w) A (eval elt (compEnvC scope (cellsFrom (C + 1) scope.names cl) C env)) (fun y s₄ => CompTurn g C D I oI' (lobj ys nD) (J C (i + 1) (ys ++ [y])) s s₄) E' s₃
          else CompTurn g C D I oI' (lobj ys nD) (J C (i + 1) ys) s s₃) E' s₂) E' { s with heap := h, toks := tk })
    (hfin : ∀ h' tk mC ys nD led g C D, CompGround h₀ env.locals m g → Fr g C h' mC → News g C h' ((D, lobj ys nD) :: led) → (∀ p ∈ led, p.1 ≠ D) → D ≠ env.locals → C ≠ env.locals → D ≠ C → ys.length ≤ n → J C n ys led →
      RR (.ref D) C (.ok .next) { s with heap := h', toks := tk })
    (ht : ∀ it v, letOwnedTupleGo target it v = pure () := by intro _ _; rfl) :
    wpAny (model prog w) A (newList []) (fun acc s₃ => wpAny (model prog w) A (newFunctionEnv scope env.globals cl [] env.qual none .none (some env)) (fun cenv s₄ =>
      codeAny (model prog w) A (.compStart (.ListComp elt [⟨target, iter, ifs, 0⟩] scope pos) 0 (.ref I) acc { cenv with scope := relabel scope env }) (RR acc cenv.locals) s₄) E s₃) E s := by
  refine wpAny_newObj_type (wpAny_compEnv ?_)
  dsimp only
  generalize hD : s.heap.objs.size = D
  have hC : (s.heap.push (lobj [] 0)).objs.size = D + 1 := by rw [Heap.size_push, hD]
  show codeAny _ _ (.compStart _ 0 (.ref I) (.ref D) (compEnvC scope (cellsFrom ((s.heap.push (lobj [] 0)).objs.size + 1) scope.names cl) (s.heap.push (lobj [] 0)).objs.size env)) (RR (.ref D) (s.heap.push (lobj [] 0)).objs.size) { s with heap := pushCells ((s.heap.push (lobj [] 0)).push { cls := .type "dict", data := .dict #[] }) scope.names }
  rw [hC]
  let hid : List Addr := I :: news.map (·.1)
  have hDfree : s.heap.get? D = none := by
    cases e : s.heap.get? D with
    | none => rfl
    | some o => exact absurd (Heap.lt_size e) (by rw [hD]; exact Nat.lt_irrefl _)
  have hidlt : ∀ b ∈ hid, b < D := fun b hb => by
    rw [← hD]
    rcases List.mem_cons.mp hb with rfl | hb
    · exact Heap.lt_size (N _ (.head _)).1
    · obtain ⟨p, hp, rfl⟩ := List.mem_map.mp hb
      exact Heap.lt_size (N p (.tail _ hp)).1
  have hid0 : ∀ b o, h₀.get? b = some o → b ∉ hid := fun b o e hb => by
    rcases List.mem_cons.mp hb with rfl | hb
    · rw [(N _ (.head _)).2.2] at e; cases e
    · obtain ⟨p, hp, rfl⟩ := List.mem_map.mp hb
      rw [(N p (.tail _ hp)).2.2] at e; cases e
  have hidL : env.locals ∉ hid := fun hb => by
    rcases List.mem_cons.mp hb with e | hb
    · exact (N _ (.head _)).2.1 e.symm
    · obtain ⟨p, hp, e⟩ := List.mem_map.mp hb
      exact (N p (.tail _ hp)).2.1 e
  obtain ⟨oL, es, ep, hL, hLd, hLk, hLf⟩ := id F.ns
  have hLg : (hideAll s.heap hid).get? env.locals = some oL := hideAll_get hid hL hidL
  have G : CompGround h₀ env.locals m (hideAll s.heap hid) := by
    refine ⟨fun b o e => hideAll_get hid (F.keep b o e) (hid0 b o e), fun h' hk => ⟨⟨oL, es, ep, hk _ _ hLg, hLd, hLk, hLf⟩, fun b o e => hk b o (hideAll_get hid (F.keep b o e) (hid0 b o e)), F.above⟩, fun b hb => ⟨?_, ?_⟩⟩
    · cases q : h₀.get? b with
      | none => rfl
      | some o => rw [hideAll_get hid (F.keep b o q) (hid0 b o q)] at hb; cases hb
    · rintro rfl; rw [hLg] at hb; cases hb
  have LD : env.locals ≠ D := fun q => by rw [q, hDfree] at hL; cases hL
  have LC : env.locals ≠ D + 1 := fun q => by have := Heap.lt_size hL; rw [hD, q] at this; exact absurd this (Nat.not_lt.mpr (Nat.le_succ D))
  generalize hH : pushCells ((s.heap.push (lobj [] 0)).push { cls := .type "dict", data := .dict #[] }) scope.names = H
  have up : ∀ b o, s.heap.get? b = some o → H.get? b = some o := fun b o e => hH ▸ pushCells_keeps _ _ _ _ (Heap.get?_push_of_some _ (Heap.get?_push_of_some _ e))
  have hDobj : H.get? D = some (lobj [] 0) := by
    rw [← hH, ← hD]; exact pushCells_keeps _ _ _ _ (Heap.get?_push_of_some _ (Heap.get?_push_size _ rfl))
  have hns : H.Ns (D + 1) (fun _ => none) := by
    rw [← hH, ← hC]
    exact (Heap.Ns.new (s.heap.push (lobj [] 0)) (.type "dict")).keeps (pushCells_keeps _ _)
  have FC : Fr (hideAll s.heap hid) (D + 1) H (fun _ => none) := ⟨hns, fun b o e => up b o (of_hideAll _ e), by rw [hideAll_size, hD]; exact Nat.le_succ _⟩
  have gnone : ∀ b, D ≤ b → (hideAll s.heap hid).get? b = none := fun b hb => by
    cases q : (hideAll s.heap hid).get? b with
    | none => rfl
    | some o => have := Heap.lt_size (of_hideAll _ q); rw [hD] at this; exact absurd hb (Nat.not_le.mpr this)
  have hIlt : I < D := hidlt I (.head _)
  have NC : News (hideAll s.heap hid) (D + 1) H ((D, lobj [] 0) :: (I, oI) :: (ledCells (D + 1 + 1) scope.names ++ news)) := by
    intro p hp
    rcases List.mem_cons.mp hp with rfl | hp
    · exact ⟨hDobj, Nat.ne_of_lt (Nat.lt_succ_self _), gnone _ (Nat.le_refl _)⟩
    · rcases List.mem_cons.mp hp with rfl | hp
      · exact ⟨up _ _ (N _ (.head _)).1, Nat.ne_of_lt (Nat.lt_succ_of_lt hIlt), hideAll_none _ (.head _)⟩
      · rcases List.mem_append.mp hp with hp | hp
        · have := ledCells_ok scope.names ((s.heap.push (lobj [] 0)).push { cls := .type "dict", data := .dict #[] }) p (by rw [Heap.size_push, hC]; exact hp)
          rw [Heap.size_push, hC] at this
          exact ⟨hH ▸ this.1, Nat.ne_of_gt this.2, gnone _ (Nat.le_trans (Nat.le_add_right D 2) this.2)⟩
        · exact ⟨up _ _ (N p (.tail _ hp)).1, Nat.ne_of_lt (Nat.lt_succ_of_lt (hidlt _ (.tail _ (List.mem_map_of_mem hp)))), hideAll_none _ (.tail _ (List.mem_map_of_mem hp))⟩
  have apart : ∀ p ∈ ledCells (D + 1 + 1) scope.names ++ news, p.1 ≠ I ∧ p.1 ≠ D := fun p hp => by
    rcases List.mem_append.mp hp with hp | hp
    · have := (ledCells_ok scope.names ((s.heap.push (lobj [] 0)).push { cls := .type "dict", data := .dict #[] }) p (by rw [Heap.size_push, hC]; exact hp)).2
      rw [Heap.size_push, hC] at this
      exact ⟨Nat.ne_of_gt (Nat.lt_of_lt_of_le hIlt (Nat.le_trans (Nat.le_add_right D 2) this)), Nat.ne_of_gt (Nat.le_of_succ_le this)⟩
    · exact ⟨hap p hp, Nat.ne_of_lt (hidlt _ (.tail _ (List.mem_map_of_mem hp)))⟩
  have hID : D ≠ I := Nat.ne_of_gt hIlt
  have hNC : ∀ p ∈ news, p.1 < D + 1 := fun p hp => Nat.lt_succ_of_lt (hidlt _ (.tail _ (List.mem_map_of_mem hp)))
  generalize hideAll s.heap hid = g at G FC NC
  generalize D + 1 = C at FC NC apart LC hNC
  have DC : D ≠ C := (NC _ (.head _)).2.1
  have loop : ∀ s₃ : Shared, s₃ = { s with heap := H } →
      codeAny (model prog w) A (.compLoop (.ListComp elt [⟨target, iter, ifs, 0⟩] scope pos) 0 (.ref I) (.ref D) (compEnvC scope (cellsFrom (C + 1) scope.names cl) C env)) (RR (.ref D) C) s₃ := by
    rintro s₃ rfl
    refine codeAny_compLoop_tests
      (fun k s' => ∃ h' tk mC ys nD led i oI', s' = { s with heap := h', toks := tk } ∧ St i oI' ∧ Fr g C h' mC ∧ News g C h' ((D, lobj ys nD) :: (I, oI') :: led) ∧ (∀ p ∈ led, p.1 ≠ I ∧ p.1 ≠ D) ∧ J C i ys led ∧ ys.length ≤ i ∧ i ≤ n ∧ k = n + 1 - i) ?_ (n + 1)
      ⟨H, s.toks, _, [], 0, _, 0, oI, rfl, hst, FC, NC, apart, h0 C hNC, Nat.le_refl _, Nat.zero_le _, rfl⟩ (ht _)
    rintro k s' ⟨h', tk, mC, ys, nD, led, i, oI', rfl, hst', F', N', ap', hJ, hys, hi, rfl⟩
    have hgI : g.get? I = none := (NC _ (.tail _ (.head _))).2.2
    have hCI : C ≠ I := fun e => (NC (I, oI) (.tail _ (.head _))).2.1 e.symm
    have hsh := hSh i C g h' mC ys led G hJ F' fun p hp => N' p (.tail _ (.tail _ hp))
    by_cases hlt : i < n
    · refine S.item i _ _ _ oI' hlt (N' _ (.tail _ (.head _))).1 hst' hsh fun v h₁ tk₁ oI₁ hP hoI₁ hst₁ hs₁ => ?_
      have F₁ := fr_off F' hs₁ hCI hgI
      have N₁ : News g C h₁ ((D, lobj ys nD) :: (I, oI₁) :: led) := by
        intro p hp
        rcases List.mem_cons.mp hp with rfl | hp
        · exact ⟨hs₁ _ _ hID (N' _ (.head _)).1, (N' _ (.head _)).2⟩
        · rcases List.mem_cons.mp hp with rfl | hp
          · exact ⟨hoI₁, Ne.symm hCI, hgI⟩
          · exact ⟨hs₁ _ _ (ap' p hp).1 (N' p (.tail _ (.tail _ hp))).1, (N' p (.tail _ (.tail _ hp))).2⟩
      refine wpAny_mono (step i v ys nD led h₁ mC tk₁ _ g C D oI₁ G hlt hP hJ hys F₁ N₁ ap' hID) (fun _ s₂ h₂ => wpAny_mono h₂ (fun ok s₃ h₃ => ?_) fun _ _ e => e) fun _ _ e => e
      cases ok with
      | false =>
        simp only [Bool.false_eq_true, if_false] at h₃ ⊢
        obtain ⟨h₃', tk₃, mC₃, led₃, rfl, F₃, N₃, ap₃, hJ₃⟩ := h₃
        exact ⟨n + 1 - (i + 1), by omega, h₃', tk₃, mC₃, ys, nD, led₃, i + 1, oI₁, rfl, hst₁, F₃, N₃, ap₃, hJ₃, by omega, hlt, rfl⟩
      | true =>
        simp only [if_true] at h₃ ⊢
        refine wpAny_mono h₃ (fun y s₄ h₄ => ?_) fun _ _ e => e
        obtain ⟨h₄', tk₄, mC₄, led₄, rfl, F₄, N₄, ap₄, hJ₄⟩ := h₄
        refine wpAny_list_append_plain (hsz := by rw [List.size_toArray]; omega) ⟨nD, (N₄ _ (.head _)).1⟩ fun h₅ hl₅ hs₅ => ?_
        obtain ⟨nD', hl₅⟩ := hl₅
        have hgD : g.get? D = none := (N₄ _ (.head _)).2.2
        have hl₅' : h₅.get? D = some (lobj (ys ++ [y]) nD') := by rw [hl₅]; simp [lobj]
        refine ⟨n + 1 - (i + 1), by omega, h₅, tk₄, mC₄, ys ++ [y], nD', led₄, i + 1, oI₁, rfl, hst₁, fr_off F₄ hs₅.extBut (Ne.symm DC) hgD, ?_, ap₄, hJ₄, by rw [List.length_append, List.length_singleton]; omega, hlt, rfl⟩
        intro p hp
        rcases List.mem_cons.mp hp with rfl | hp
        · exact ⟨hl₅', DC, hgD⟩
        · rcases List.mem_cons.mp hp with rfl | hp
          · exact ⟨hs₅.extBut _ _ (Ne.symm hID) (N₄ _ (.tail _ (.head _))).1, (N₄ _ (.tail _ (.head _))).2⟩
          · exact ⟨hs₅.extBut _ _ (ap₄ p hp).2 (N₄ p (.tail _ (.tail _ hp))).1, (N₄ p (.tail _ (.tail _ hp))).2⟩
    · have hin : i = n := by omega
      subst hin
      refine S.done _ _ _ oI' (N' _ (.tail _ (.head _))).1 hst' hsh fun h₁ tk₁ hs₁ => ?_
      refine hfin h₁ tk₁ mC ys nD led g C D G (fr_off F' hs₁ hCI hgI) ?_ (fun p hp => (ap' p hp).2) (Ne.symm LD) (Ne.symm LC) DC hys hJ
      intro p hp
      rcases List.mem_cons.mp hp with rfl | hp
      · exact ⟨hs₁ _ _ hID (N' _ (.head _)).1, (N' _ (.head _)).2⟩
      · exact ⟨hs₁ _ _ (ap' p hp).1 (N' p (.tail _ (.tail _ hp))).1, (N' p (.tail _ (.tail _ hp))).2⟩
  exact codeAny_compStart_list (loop _ rfl) (S.self 0 _ _ _ oI (NC _ (.tail _ (.head _))).1 hst (loop _ rfl))
end

end
-- part Comp2
section
section
variable {prog : Program} {w : World} {A : Around} {s : Shared} {env : Env} {h₀ : Heap} {E : Value → Shared → Prop} {L : Addr} {m : Str → Option Value}

theorem fr_ne {g h : Heap} {C b : Addr} {mC : Str → Option Value} {o : Obj} (F : Fr g C h mC) (e : g.get? b = some o) : b ≠ C := Nat.ne_of_lt (Nat.lt_of_lt_of_le (Heap.lt_size e) F.above)

theorem fin_eval {M : Model} {Q : Value → Shared → Prop} {g h' : Heap} {C : Addr} {mC : Str → Option Value} {led : List (Addr × Obj)} {acc : Value} {tk : Nat}
    (G : CompGround h₀ L m g) (F : Fr g C h' mC) (N : News g C h' led) (hQ : ∀ h'', Fr h₀ L h'' m → News h₀ L h'' led → Q acc { s with heap := h'', toks := tk }) :
    compPost M A E none Q acc C (.ok .next) { s with heap := h', toks := tk } := by
  refine ⟨mC, F.ns, fun h'' hs => hQ h'' (G.back h'' fun b o e => (hs.2 b (fr_ne F e)).trans (F.keep b o e)) fun p hp => ?_⟩
  exact ⟨(hs.2 _ (N p hp).2.1).trans (N p hp).1, (G.off _ (N p hp).2.2).2, (G.off _ (N p hp).2.2).1⟩

theorem fin_assign {M : Model} {Q : Shared → Prop} {y : Str} {py : Pos} {g h' : Heap} {C : Addr} {mC : Str → Option Value} {led : List (Addr × Obj)} {acc : Value} {tk : Nat}
    (hy : env.kindOf y = some .local) (hp : (env.scope.kind == .class || (env.scope.kind == .module && env.locals != env.globals)) = false) (hLC : C ≠ env.locals)
    (G : CompGround h₀ env.locals m g) (F : Fr g C h' mC) (N : News g C h' led) (hQ : ∀ h'' tk, Fr h₀ env.locals h'' (fun z => if z = y then some acc else m z) → News h₀ env.locals h'' led → Q { s with heap := h'', toks := tk }) :
    compPost M A E (some (assign (.Name y py) env)) (fun _ s' => Q s') acc C (.ok .next) { s with heap := h', toks := tk } := by
  have F₁ : Fr h₀ env.locals h' m := G.back h' F.keep
  show wpAny M A (assign (.Name y py) env acc) _ E _
  refine wpAny_assign_Name (wpAny_storeName_local hy F₁.ns (fun h₂ hn₂ hs₂ => ?_) hp)
  refine ⟨mC, F.ns.sameBut hs₂ hLC, fun h₃ hs₃ => ?_⟩
  have F₂ := F₁.set hn₂ hs₂
  refine hQ h₃ _ ⟨F₂.ns.sameBut hs₃ (Ne.symm hLC), fun b o e => (hs₃.2 b (fr_ne F (G.stays b o e))).trans (F₂.keep b o e), F₂.above⟩ fun p hp => ?_
  have hL := (G.off _ (N p hp).2.2)
  exact ⟨(hs₃.2 _ (N p hp).2.1).trans ((hs₂.2 _ hL.2).trans (N p hp).1), hL.2, hL.1⟩

theorem eval_comp {elt target iter : Expr} {ifs : List Expr} {scope : Scope} {pos : Pos} {cl : List (Str × Addr)} {Q : Value → Shared → Prop}
    (hclos : closureFor scope env = pure cl) (hkind : scope.kind = .function) (hnames : ∀ x ∈ scope.names, x.2 = .local → scope.names.lookup x.1 = some .local)
    (h : wpAny (model prog w) A (eval iter env) (fun x s₁ => wpAny (model prog w) A (pyIter x) (fun it s₂ => wpAny (model prog w) A (newList []) (fun acc s₃ =>
      wpAny (model prog w) A (newFunctionEnv scope env.globals cl [] env.qual none .none (some env)) (fun cenv s₄ =>
        codeAny (model prog w) A (.compStart (.ListComp elt [⟨target, iter, ifs, 0⟩] scope pos) 0 it acc { cenv with scope := relabel scope env }) (compPost (model prog w) A E none Q acc cenv.locals) s₄) E s₃) E s₂) E s₁) E s)
    (hs : ∀ x, foldedSetIterable iter env x = pure x := by intro _; rfl) :
    wpAny (model prog w) A (eval (.ListComp elt [⟨target, iter, ifs, 0⟩] scope pos) env) Q E s := by
  rw [eval_ListComp]
  exact wpAny_comprehension_free (use := none) rfl hs hclos hkind hnames h

theorem assign_comp {elt target iter : Expr} {ifs : List Expr} {scope : Scope} {pos spos py : Pos} {y : Str} {cl : List (Str × Addr)} {Q : Flow → Shared → Prop}
    (hsw : swapsWith (.ListComp elt [⟨target, iter, ifs, 0⟩] scope pos) (some (.Name y py)) spos.line env = pure true)
    (hclos : closureFor scope env = pure cl) (hkind : scope.kind = .function) (hnames : ∀ x ∈ scope.names, x.2 = .local → scope.names.lookup x.1 = some .local)
    (h : wpAny (model prog w) A (eval iter env) (fun x s₁ => wpAny (model prog w) A (pyIter x) (fun it s₂ => wpAny (model prog w) A (newList []) (fun acc s₃ =>
      wpAny (model prog w) A (newFunctionEnv scope env.globals cl [] env.qual none .none (some env)) (fun cenv s₄ =>
        codeAny (model prog w) A (.compStart (.ListComp elt [⟨target, iter, ifs, 0⟩] scope pos) 0 it acc { cenv with scope := relabel scope env })
          (compPost (model prog w) A E (some (assign (.Name y py) env)) (fun _ s' => Q .next s') acc cenv.locals) s₄) E s₃) E s₂) E s₁) E s)
    (hs : ∀ x, foldedSetIterable iter env x = pure x := by intro _; rfl) :
    wpAny (model prog w) A (exec (.Assign [.Name y py] (.ListComp elt [⟨target, iter, ifs, 0⟩] scope pos) spos) env) Q E s := by
  rw [exec_Assign_Name_used _ _ _ _ hsw]
  refine wpAny_bind (wpAny_standAt (wpAny_bind ?_))
  show wpAny _ A (do let _ ← comprehension (.ListComp elt [⟨target, iter, ifs, 0⟩] scope pos) scope env _ (newList []) false (eval iter env) (some (assign (.Name y py) env))) _ _ s
  exact wpAny_bind (wpAny_mono (wpAny_comprehension_free (use := some (assign (.Name y py) env)) (Q := fun _ s' => Q .next s') rfl hs hclos hkind hnames h) (fun _ s' hq => wpAny_pure (wpAny_pure hq)) fun _ _ e => e)

theorem ifs_nil {M : Model} {Q : Bool → Shared → Prop} {f : Expr → Bool → Sem (ForInStep Bool)} (h : Q true s) : wpAny M A (forIn ([] : List Expr) true f) Q E s := by
  rw [List.forIn_nil]; exact wpAny_pure h
end

end
-- part Dr2
section
open PySem.Calls PySem.Builtin PySem.Builtin.Str
def fnScope : Stmt → Scope
  | .FunctionDef _ _ _ _ _ _ s _ _ _ => s
  | _ => { kind := .function, names := [], isGenerator := false, isCoroutine := false }
def drBody : List Stmt := fnBody ((PySem.Challenge.pw_wb0004_01.main.body)[5]!)
def drScope : Scope := fnScope ((PySem.Challenge.pw_wb0004_01.main.body)[5]!)

def pairAt (ahead x : Str) (j : Nat) : Bool := (Txt.slice ahead (some (j : Int)) (some ((j : Int) + 2)) == Txt.slice x none (some 2)) && Txt.contains (Txt.slice ahead (some ((j : Int) + 2)) none) (Txt.slice x (some 2) (some 3))
def hits (ahead x : Str) (i : Nat) : List Int := ((List.range i).filter (pairAt ahead x)).map Int.ofNat
theorem hits_yes {ahead x : Str} {i : Nat} (h : pairAt ahead x i = true) : hits ahead x (i + 1) = hits ahead x i ++ [(i : Int)] := by
  unfold hits; rw [List.range_succ, List.filter_append]; simp [h]
theorem hits_no {ahead x : Str} {i : Nat} (h : pairAt ahead x i = false) : hits ahead x (i + 1) = hits ahead x i := by
  unfold hits; rw [List.range_succ, List.filter_append]; simp [h]
theorem IntsAre.snoc {vs : List Value} {ns : List Int} {k : Int} {t : Tok} (h : IntsAre vs ns) : IntsAre (vs ++ [.int k t]) (ns ++ [k]) := by
  induction h with
  | nil => exact .cons k t .nil
  | cons n t' _ ih => exact .cons n t' ih

theorem pair_no1 {ahead x : Str} {j : Nat} (h : (Txt.slice ahead (some (j : Int)) (some ((j : Int) + 2)) == Txt.slice x none (some 2)) = false) : pairAt ahead x j = false := by
  unfold pairAt; rw [h]; rfl
theorem pair_no2 {ahead x : Str} {j : Nat} (h : (Txt.slice ahead (some (j : Int)) (some ((j : Int) + 2)) == Txt.slice x none (some 2)) = true)
    (h2 : (occurrences (Txt.slice ahead (some ((j : Int) + 2)) none) (Txt.slice x (some 2) (some 3)) 0 (Txt.slice ahead (some ((j : Int) + 2)) none).length 1).isEmpty = true) : pairAt ahead x j = false := by
  unfold pairAt Txt.contains; rw [h, h2]; rfl
theorem pair_yes {ahead x : Str} {j : Nat} (h : (Txt.slice ahead (some (j : Int)) (some ((j : Int) + 2)) == Txt.slice x none (some 2)) = true)
    (h2 : (occurrences (Txt.slice ahead (some ((j : Int) + 2)) none) (Txt.slice x (some 2) (some 3)) 0 (Txt.slice ahead (some ((j : Int) + 2)) none).length 1).isEmpty = false) : pairAt ahead x j = true := by
  unfold pairAt Txt.contains; rw [h, h2]; rfl
theorem pairs_ne {prog : Program} {w : World} {A : Around} {s : Shared} {E Q : Value → Shared → Prop} {h₀ : Heap} {L D D2 : Addr} {news : List (Addr × Obj)} {ys : List Value} {n n2 : Nat} {ks : List Int}
    (N : News h₀ L s.heap news) (h1 : (D, lobj ys n) ∈ news) (h2 : (D2, lobj [] n2) ∈ news) (hi : IntsAre ys ks) (hu : A.units + 64 < cLine) (h : Q (.bool (!decide (ks = []))) s) :
    wpAny (model prog w) A (compareOp .NotEq (.ref D) (.ref D2)) Q E s :=
  ne_intsK ⟨_, (N _ h1).1, rfl, n, rfl⟩ hi ⟨_, (N _ h2).1, rfl, n2, rfl⟩ .nil hu h

def drThird (x y ahead : Str) : Bool := (ahead ++ Txt.slice x (some 3) none == y) && !decide (hits ahead x ahead.length = [])
theorem lobj3 {h : Heap} {D : Addr} {a b c c' : Bool} {n : Nat} (hh : h.get? D = some { cls := .type "list", data := .seq #[.bool a, .bool b, .bool c] n }) (e : c = c') : h.get? D = some (lobj [.bool a, .bool b, .bool c'] n) := e ▸ hh
theorem third_yes {x y ahead : Str} (h : (ahead ++ Txt.slice x (some 3) none == y) = true) : (!decide (hits ahead x ahead.length = [])) = drThird x y ahead := by unfold drThird; rw [h]; rfl
theorem third_no {x y ahead : Str} (h : (ahead ++ Txt.slice x (some 3) none == y) = false) : (ahead ++ Txt.slice x (some 3) none == y) = drThird x y ahead := by unfold drThird; rw [h]; rfl

end
local macro_rules | `(tactic| walk_at "m mem") => `(tactic| first | assumption | exact List.Mem.head _ | (refine List.Mem.tail _ ?_; walk_at "m mem"))
section
open PySem.Calls PySem.Builtin PySem.Builtin.Str
theorem cell_of {g h : Heap} {C c : Addr} {o : Obj} {v : Value} {led : List (Addr × Obj)} (N : News g C h led) (hm : (c, o) ∈ led) (hd : o.data = .cell (some v)) : h.IsCell c (some v) := ⟨o, (N _ hm).1, hd⟩
end
local macro_rules | `(tactic| walk_at "m lookR") => `(tactic| first | with_reducible assumption | exact rfl | (refine (if_neg (by decide)).trans ?_; walk_at "m lookR") | (refine (if_pos rfl)))
local macro_rules | `(tactic| walk_at "m name") => `(tactic| first
  | ((rename Fr _ _ _ _ => F9); (refine' wpAny_Name (wpAny_loadName_local ?nk ?nl F9.ns ?nv ?_) ?me); (case nl => exact rfl); (case nk => exact rfl); (case nv => walk_at "m lookR"); (case me => decide))
  | ((rename News _ _ _ _ => N9); (refine' wpAny_Name (wpAny_loadName_cell rfl rfl rfl (cell_of N9 ?mm ?md) ?_) ?me); (case mm => walk_at "m mem"); (case md => with_reducible assumption); (case me => decide)))
section
open PySem.Calls PySem.Builtin PySem.Builtin.Str
section
local macro_rules | `(tactic| walk_at "eval Name") => `(tactic| k_dflt walk_at "m name")
local macro_rules | `(tactic| walk_at "compareOp NotEq ref ref") => `(tactic| ((with_reducible show wpAny _ _ (compareOp CmpOp.NotEq (Value.ref _) (Value.ref _)) _ _ _); (rename News _ _ _ _ => N9); (with_unfolding_all refine' pairs_ne N9 ?h1 ?h2 ?hi ?hu ?_); (case hi => with_reducible assumption); (case h1 => walk_at "m mem"); (case h2 => walk_at "m mem"); (case hu => (have hcL := cLine_is; show _ + 64 < cLine; omega))))
local macro_rules | `(tactic| walk_at "pyIter ref") => `(tactic| ((with_reducible show wpAny _ _ (pyIter _) _ _ _); refine stopHere ?_))
local macro_rules | `(tactic| walk_at "exec Assign cons ListComp") => `(tactic| ((with_reducible show wpAny _ _ (exec _ _) _ _ _); refine stopHere ?_))

theorem dr_tail {w : World} {dp un : Nat} {fr : Option (List Env)} {gd : Option (List Code)} {s : Shared} {E : Value → Shared → Prop} {Q : Flow → Shared → Prop} {mean : ExcName → Option Value} {mg mb : Str → Option Value} {x y z ahead : Str} {tx ty tz ta : Tok} {h₀ : Heap} {L : Addr} {m : Str → Option Value} {oA oF : Obj}
  (hu : un + 100 < cLine) (X : (hd.heap_39 w.params).In h₀) (T : Top hd.view_39 (looseW hd.view_39 []) mean mg mb h₀) (hx : x.length ≤ 1000) (hy : y.length ≤ 1000) (hah : ahead.length ≤ 1000) (hz : z.length ≤ 3000)
  (F : Fr h₀ L s.heap m) (N : News h₀ L s.heap [(L + 1 + 1, oA), (L + 1, oF)]) (dA : oA.data = .cell (some (.str ahead ta))) (dF : oF.data = .cell (some (.str x tx)))
  (hmany : m (Str.ofString "many") = some (.str y ty)) (hends : m (Str.ofString "ends") = some (.str z tz)) 
  (h : ∀ h' tk' D n, (∀ b o, h₀.get? b = some o → h'.get? b = some o) → h₀.get? D = none → h'.get? D = some (lobj [.bool (x == y), .bool (x == z), .bool (drThird x y ahead)] n) → Q (.ret (.ref D)) { s with heap := h', toks := tk' })
   :
  wpAny (model PySem.Challenge.rw_wb0004_01.row.prog w) ({ handled := none, depth := dp, frames := fr, guards := gd, units := un } : Around) (execs (drBody.drop 2) (envOfC (Str.ofString "_law_dressed") drScope L 33 (Value.ref 32))) Q E s := by
    revert X T; w_top off; k_fill; intro X T 
    refine (show wpAny _ _ (execs (_ :: _ :: []) _) _ _ _ from ?_)
    k_steps
    unfold Stop; 
    refine' assign_comp ?hsw ?hclos ?hkind ?hnames ?_ ?hs
    case hsw => with_unfolding_all rfl
    case hclos => with_unfolding_all rfl
    case hkind => rfl
    case hnames => decide
    case hs => intro _; with_unfolding_all rfl
    k_steps
    unfold Stop
    rename IsRange _ _ _ _ _ _ _ _ => hR
    rename Fr _ _ _ _ => F8; rename News _ _ _ _ => N8
    have hsm : Builtin.Range.small 0 (ahead.length : Int) 1 = true := small_one (by decide) (by decide) (by omega) (by omega)
    have hrs : Builtin.Range.rangeSize 0 (ahead.length : Int) 1 = (ahead.length : Int) := by rw [rangeSize_one]; split <;> omega
    refine wpAny_pyIter_range hR hsm ?_
    rw [hrs]
    refine' comp_core (h₀ := h₀) (srcRange rfl 0 1 ahead.length) ?hsz (F8.push _) (N8.push F8 _) ?hap ?hst
      (fun _ i ys led => (L + 1 + 1, oA) ∈ led ∧ (L + 1, oF) ∈ led ∧ IntsAre ys (hits ahead x i)) ?h0 ?hSh ?step ?hfin ?ht
    case hsz => rw [sizeLine_eq]; omega
    case hap => intro p hp; exact Nat.ne_of_lt (Heap.lt_size (N8 p hp).1)
    case hst => intro h e; show h.get? _ = _; rw [e]; simp
    case h0 => intro C _; exact ⟨List.mem_append_right _ (by walk_at "m mem"), List.mem_append_right _ (by walk_at "m mem"), .nil⟩
    case hSh => intros; trivial
    case ht => intros; rfl
    case step =>
      clear h
      rintro i v ys nD led h mC tk E' g C D oI' G hi ⟨tv, rfl⟩ ⟨hA, hF, hys⟩ hlen FC NC hap hDI
      clear F8 N8
      refine wpAny_assign_Name (wpAny_storeName_local rfl FC.ns (fun h₃ hn₃ hs₃ => ?_) rfl)
      have F9 := FC.set hn₃ hs₃
      have N9 : News g C h₃ [(D, lobj ys nD), (_, oI'), (L + 1 + 1, oA), (L + 1, oF)] := fun p hp => (NC.set hs₃) p (by
        rcases List.mem_cons.mp hp with rfl | hp
        · walk_at "m mem"
        · rcases List.mem_cons.mp hp with rfl | hp
          · walk_at "m mem"
          · rcases List.mem_cons.mp hp with rfl | hp
            · exact .tail _ (.tail _ hA)
            · rcases List.mem_cons.mp hp with rfl | hp
              · exact .tail _ (.tail _ hF)
              · cases hp)
      have X' := X.keeps G.stays
      have T' := T.keeps G.stays
      have hap2 : ∀ p ∈ [(L + 1 + 1, oA), (L + 1, oF)], p.1 ≠ _ ∧ p.1 ≠ D := fun p hp => hap p (by
        rcases List.mem_cons.mp hp with rfl | hp
        · exact hA
        · rcases List.mem_cons.mp hp with rfl | hp
          · exact hF
          · cases hp)
      clear FC NC hn₃ hs₃ X T hap hA hF
      have e0 : (0 : Int) + (i : Int) * 1 = (i : Int) := by omega

      rw [e0] at F9
      refine wpAny_tests_one ?_
      k_steps
      all_goals (rename Fr _ _ _ _ => F9; rename News _ _ _ _ => N9)
      · exact ⟨_, _, _, _, rfl, F9, N9, hap2, by walk_at "m mem", by walk_at "m mem", by rw [hits_no (pair_no2 (by assumption) (by assumption))]; exact hys⟩
      · exact ⟨_, _, _, _, rfl, F9, N9, hap2, by walk_at "m mem", by walk_at "m mem", by rw [hits_yes (pair_yes (by assumption) (by assumption))]; exact IntsAre.snoc hys⟩
      · exact ⟨_, _, _, _, rfl, F9, N9, hap2, by walk_at "m mem", by walk_at "m mem", by rw [hits_no (pair_no1 (by assumption))]; exact hys⟩
    case hfin =>
      rintro h' tk mC ys nD led g C D G FC NC hap hDL hCL hDC hlen ⟨hA, hF, hys⟩
      have NC' : News g C h' [(D, lobj ys nD), (L + 1 + 1, oA), (L + 1, oF)] := fun p hp => NC p (by
        rcases List.mem_cons.mp hp with rfl | hp
        · walk_at "m mem"
        · rcases List.mem_cons.mp hp with rfl | hp
          · exact .tail _ hA
          · rcases List.mem_cons.mp hp with rfl | hp
            · exact .tail _ hF
            · cases hp)
      refine' fin_assign ?hy ?hp hCL G FC NC' ?_
      case hy => exact rfl
      case hp => exact rfl
      intro h9 tk9 F9 N9
      clear F8 N8 FC NC NC' hap hDL hCL hDC hR
      k_steps
      all_goals (rename Fr _ _ _ _ => F8; rename News _ _ _ _ => N8; refine h _ _ _ 0 F8.keep (N8 _ (.head _)).2.2 ?_)
      · exact lobj3 (N8 _ (.head _)).1 (third_yes (by with_reducible assumption))
      · exact lobj3 (N8 _ (.head _)).1 (third_no (by with_reducible assumption))
end

end
-- part Dr3
section
open PySem.Calls PySem.Builtin PySem.Builtin.Str
def drAhead (x y : Str) : Str := Txt.slice y none (some ((y.length : Int) - ((Txt.slice x (some 3) none).length : Int)))
def drEnds (x y : Str) : Str := if (x.length : Int) ≤ (y.length : Int) then Txt.slice y none (some ((x.length : Int).fdiv 2)) ++ Txt.slice y (some ((y.length : Int) - (x.length : Int) + (x.length : Int).fdiv 2)) none else Str.ofString ""
def drB (x y : Str) : List Bool := [x == y, x == drEnds x y, drThird x y (drAhead x y)]
theorem ends_in {x y : Str} (h : (x.length : Int) ≤ (y.length : Int)) : Txt.slice y none (some ((x.length : Int).fdiv 2)) ++ Txt.slice y (some ((y.length : Int) - (x.length : Int) + (x.length : Int).fdiv 2)) none = drEnds x y := by unfold drEnds; rw [if_pos h]
theorem ends_out {x y : Str} (h : ¬ (x.length : Int) ≤ (y.length : Int)) : Str.ofString "" = drEnds x y := by unfold drEnds; rw [if_neg h]

section
local macro_rules | `(tactic| walk_at "execs cons") => `(tactic| ((with_reducible show wpAny _ _ (execs (Stmt.Assign _ (Expr.ListComp _ _ _ _) _ :: _) _) _ _ _); refine stopHere ?_))

theorem dr_call {w : World} {A : Around} {s : Shared} {E Q : Value → Shared → Prop} {mean : ExcName → Option Value} {mg mb : Str → Option Value} {x y : Str} {t u : Tok} 
  (hh : A.handled = none) (hroom : A.depth < recursionLimit) (hu : A.units + 200 < cLine) (X : (hd.heap_39 w.params).In s.heap) (T : Top hd.view_39 (looseW hd.view_39 []) mean mg mb s.heap) (hx : x.length ≤ 1000) (hy : y.length ≤ 1000)
  (h : ∀ h' tk' D n, (∀ b o, s.heap.get? b = some o → h'.get? b = some o) → s.heap.get? D = none → h'.get? D = some (lobj ((drB x y).map Value.bool) n) → Q (.ref D) { s with heap := h', toks := tk' }) :
  wpAny (model PySem.Challenge.rw_wb0004_01.row.prog w) A (call (.ref 33) [.str x t, .str y u]) Q E s := by
    obtain ⟨ah, dp, fr, gd, un⟩ := A; cases (show ah = none from hh)
    revert X T ; w_top off; k_fill; intro X T 
    k_dflt (refine' quiet_cells X T.nolimit ?k6 ?k7 hroom ?k9 ?kB ?kD ?_ ?c2 ?c3 ?c4; (case k6 => k_is); (case k7 => k_is); (case k9 => exact BindsTo.of_eq rfl); (case kB => exact rfl); (case kD => decide +kernel); (case c2 => exact rfl); (case c3 => exact rfl); (case c4 => exact rfl); k_whole)
    intro E' L' h₁ tk' cells' F' N' Y'
    have hu' : un + 200 < cLine := hu
    obtain ⟨oA0, oF, hE, dA0, dF⟩ := CellsAre.two Y'
    subst hE; clear Y'
    (try simp only [List.cons_append, List.nil_append] at N')
    (try dsimp only); (try k_fold)
    k_steps
    all_goals (
      unfold Stop
      rename Fr _ _ _ _ => F9; rename News _ _ _ _ => N9
      have N9' := fun p hp => N9 p (List.Mem.tail _ hp)
      with_unfolding_all refine' dr_tail ?u1 ?X ?T ?hx ?hy ?hah ?hz ?F ?N ?dA ?dF ?hm ?he ?_
      case F => exact F9
      case N => exact N9'
      case X => exact X
      case T => exact T
      case hx => exact hx
      case hy => exact hy
      case hm => walk_at "m lookR"
      case he => walk_at "m lookR"
      case dA => with_reducible assumption
      case dF => exact dF
      case u1 => show un + 3 + 100 < cLine; omega
      case hah => first | omega | exact Nat.le_trans (by with_reducible assumption) hy
      case hz => first | omega | (simp only [StrLaws.length_append]; omega) | exact Nat.le_trans (Nat.le_of_eq rfl) (by decide))
    · intro h9 tk9 D9 n9 hk9 hn9 hg9
      refine h h9 tk9 D9 n9 hk9 hn9 ?_
      rw [ends_in (by with_reducible assumption)] at hg9
      exact hg9
    · intro h9 tk9 D9 n9 hk9 hn9 hg9
      refine h h9 tk9 D9 n9 hk9 hn9 ?_
      rw [ends_out (by with_reducible assumption)] at hg9
      exact hg9
end

end
-- part Enum
section
open AutoSeq1 (wpAny_loadPart')
section
variable {prog : Program} {w : World} {A : Around} {E : Value → Shared → Prop} {s : Shared}

theorem nextOf_tuple_item {it l : Addr} {i : Nat} {items : Array Value} {x : Value} {Q : Value → Shared → Prop} (hit : s.heap.IsTupleIter it l i) (hl : s.heap.IsTuple l items) (hx : items[i]? = some x)
    (hQ : ∀ h', h'.IsTupleIter it l (i + 1) → Heap.SameBut it s.heap h' → Q x { s with heap := h' }) : wpAny (model prog w) A (Builtin.SmallTypes.nextOf (.ref it)) Q E s := by
  obtain ⟨oI, hI, hcI, hdI⟩ := id hit
  obtain ⟨oT, hT, _, nT, hdT⟩ := hl
  unfold Builtin.SmallTypes.nextOf
  refine wpAny_bind (wpAny_callSpecial?_slot (name := Str.ofString "__next__") hit.typeIs F.slot_tuple_iterator_next (wpAny_call_entry F.slot_tuple_iterator_next hit.typeIs F.entry_tuple_iterator_next ?_ (F.args_tuple_iterator_next_1 _)))
  show wpAny _ _ (field (.ref it) 0 >>= _) _ _ s
  refine wpAny_bind (wpAny_field hI hdI (x := .ref l) rfl ?_)
  show wpAny _ _ (if (Value.ref l == Value.none) = true then _ else _) _ _ s
  rw [if_neg (show ¬ ((Value.ref l == Value.none) = true) from Bool.false_ne_true)]
  show wpAny _ _ (field (.ref it) 1 >>= _) _ _ s
  refine wpAny_bind (wpAny_field hI hdI (x := .int i 0) rfl ?_)
  show wpAny _ _ (seqItems? (.ref l) >>= _) _ _ s
  refine wpAny_bind (wpAny_seqItems hT hdT ?_)
  simp only [Int.toNat_natCast, hx]
  refine wpAny_bind (wpAny_setField hI hdI (by simp) (wpAny_pure ⟨x, rfl, wpAny_pure (hQ _ ⟨_, Heap.get?_update_self _ hI (Obj.isFreed_of_fields (Obj.data_mapFields hdI _)), (Obj.cls_mapFields ..).trans hcI, ?_⟩ (Heap.SameBut.update ..))⟩))
  rw [Obj.data_mapFields hdI]; simp [rawInt]

theorem nextOf_tuple_end {it l : Addr} {i : Nat} {items : Array Value} {Q : Value → Shared → Prop} (hh : A.handled = none) (hit : s.heap.IsTupleIter it l i) (hl : s.heap.IsTuple l items) (hx : items[i]? = none)
    (hE : ∀ h' e, Heap.ExtBut it s.heap h' → (∃ o, h'.get? e = some o ∧ o.cls = .type "StopIteration") → E (.ref e) { s with heap := h' }) : wpAny (model prog w) A (Builtin.SmallTypes.nextOf (.ref it)) Q E s := by
  obtain ⟨oI, hI, hcI, hdI⟩ := id hit
  obtain ⟨oT, hT, _, nT, hdT⟩ := hl
  unfold Builtin.SmallTypes.nextOf
  refine wpAny_bind (wpAny_callSpecial?_slot (name := Str.ofString "__next__") hit.typeIs F.slot_tuple_iterator_next (wpAny_call_entry F.slot_tuple_iterator_next hit.typeIs F.entry_tuple_iterator_next ?_ (F.args_tuple_iterator_next_1 _)))
  show wpAny _ _ (field (.ref it) 0 >>= _) _ _ s
  refine wpAny_bind (wpAny_field hI hdI (x := .ref l) rfl ?_)
  show wpAny _ _ (if (Value.ref l == Value.none) = true then _ else _) _ _ s
  rw [if_neg (show ¬ ((Value.ref l == Value.none) = true) from Bool.false_ne_true)]
  show wpAny _ _ (field (.ref it) 1 >>= _) _ _ s
  refine wpAny_bind (wpAny_field hI hdI (x := .int i 0) rfl ?_)
  show wpAny _ _ (seqItems? (.ref l) >>= _) _ _ s
  refine wpAny_bind (wpAny_seqItems hT hdT ?_)
  simp only [Int.toNat_natCast, hx]
  refine wpAny_bind (wpAny_rule (wpAny_bind (wpAny_setField hI hdI (by simp) ?_)))
  show wpAny _ _ (newExc (.type "StopIteration") [] >>= _) _ _ _
  refine wpAny_bind ?_
  simp only [newExc, newTuple]
  refine wpAny_bind (wpAny_newObj_type ?_ (by size_fits))
  refine wpAny_bind (m := firstArgMember _ _) (wpAny_of_eq (a := Value.none) (by first | rfl | (simp only [firstArgMember]; rfl)) ?_)
  refine wpAny_newObj_type ?_ (by size_fits)
  simp only [raiseNew]
  refine wpAny_bind (wpAny_handled ?_)
  first | rw [show A.in1.handled = none from hh] | rw [hh]
  exact wpAny_bind (wpAny_pure (wpAny_throw (hE _ _ (((Heap.SameBut.update ..).extBut.push _).push _) ⟨_, Heap.get?_push_size _ rfl, rfl⟩)))
end

theorem drawsTuple {prog : Program} {w : World} {A : Around} (hh : A.handled = none) (it l : Addr) (hne : l ≠ it) (items : Array Value) :
    Draws prog w A it [it, l] items.size (fun i v => items[i]? = some v) (fun i h => h.IsTupleIter it l i ∧ h.IsTuple l items) where
  live := fun _ _ st => let ⟨o, ho, _⟩ := st.1; ⟨o, ho⟩
  frame := fun _ _ _ st hk => ⟨st.1.at fun o e => hk it (by simp) o e, st.2.at fun o e => hk l (by simp) o e⟩
  item := fun i s Q E hi st hQ => by
    refine nextOf_tuple_item st.1 st.2 (x := items[i]) (by simp [hi]) fun h' hit' hs' => ?_
    exact hQ _ h' s.toks (by simp [hi]) ⟨hit', st.2.extBut hs'.extBut hne⟩ hs'
  done := fun s Q E st hE => nextOf_tuple_end hh st.1 st.2 (by simp) hE

theorem enum_new_tuple (l : Addr) (items : Array Value) (n : Nat) :
    Meets (Builtin.«enumerate.__new__» ⟨[.type "enumerate", .ref l], []⟩) (fun _ R s => s.heap.get? l = some { cls := .type "tuple", data := .seq items n } ∧
      R (.ok (.ret (.ref (s.heap.push { cls := .type "tuple_iterator", data := .fields #[.ref l, .int 0 0] }).objs.size)))
        { s with heap := (s.heap.push { cls := .type "tuple_iterator", data := .fields #[.ref l, .int 0 0] }).push { cls := .type "enumerate", data := .fields #[.none, .bool false, .ref s.heap.objs.size, rawInt 0, .none, .none] } }) :=
  .of_wp fun prog w A R s h => by
    obtain ⟨hp, g, d, tk, os⟩ := s
    obtain ⟨hl, h⟩ := h
    have hsub := sub_enumerate
    have hL : Heap.IsTuple (Shared.heap ⟨hp, g, d, tk, os⟩) l items := ⟨_, hl, rfl, n, rfl⟩
    wp_walk using wpAny_loadPart' hl
    refine wpAny_stack_any fun st => wpAny_pure ?_
    split
    · rename_i c _ _ _ _ _
      cases (c == Value.type "enumerate") <;> (wp_walk using wpAny_loadPart' hl, wpAny_pyIter_tuple hL) <;> exact ⟨_, rfl, h⟩
    · wp_walk using wpAny_loadPart' hl, wpAny_pyIter_tuple hL
      exact ⟨_, rfl, h⟩

theorem call_enum_tuple {prog : Program} {w : World} {A : Around} {E : Value → Shared → Prop} {s : Shared} {l : Addr} {items : Array Value} {n : Nat} {Q : Value → Shared → Prop} (hl : s.heap.get? l = some { cls := .type "tuple", data := .seq items n })
    (h : Q (.ref (s.heap.objs.size + 1)) { s with heap := (s.heap.push { cls := .type "tuple_iterator", data := .fields #[.ref l, .int 0 0] }).push { cls := .type "enumerate", data := .fields #[.none, .bool false, .ref s.heap.objs.size, rawInt 0, .none, .none] } }) :
    wpAny (model prog w) A (call (.type "enumerate") [.ref l]) Q E s := by
  refine callType_new F.called_enumerate (by decide) (F.typeCall_enumerate_1 _) (F.newCall_enumerate_1 _) (fun obj => F.args_object_init_2 obj _) F.entry_enumerate_new (enum_new_tuple l items n) ⟨hl, ?_⟩
  have hz : (s.heap.push { cls := .type "tuple_iterator", data := .fields #[.ref l, .int 0 0] }).objs.size = s.heap.objs.size + 1 := Heap.size_push ..
  have hg := Heap.get?_push_size (s.heap.push { cls := .type "tuple_iterator", data := .fields #[.ref l, .int 0 0] }) (o := { cls := .type "enumerate", data := .fields #[.none, .bool false, .ref s.heap.objs.size, rawInt 0, .none, .none] }) rfl
  show _ ∧ _
  rw [hz] at hg ⊢
  exact ⟨⟨_, hg, rfl⟩, h⟩

end
-- part Enum2
section
section
variable {prog : Program} {w : World} {A : Around} {s : Shared} {env : Env} {h₀ : Heap} {E : Value → Shared → Prop}

abbrev enumObj (it : Addr) (i : Int) (old : Value) : Obj := { cls := .type "enumerate", dict := none, data := .fields #[.none, .bool false, .ref it, rawInt i, .none, old], slots := #[] }

/-- what a turn of comp_enum reaches, before the append -/
def EnumTurn (g : Heap) (C : Addr) (led : List (Addr × Obj)) (P : Prop) (s s₄ : Shared) : Prop :=
  ∃ h' tk' mC', s₄ = { s with heap := h', toks := tk' } ∧ Fr g C h' mC' ∧ News g C h' led ∧ P

theorem comp_enum {elt iter : Expr} {a b : Str} {pa pb tp : Pos} {kk : Nat} {scope : Scope} {pos : Pos} {cl : List (Str × Addr)} {e it l : Addr} {items : Array Value} {nl : Nat} {oit : Obj}
    {m : Str → Option Value} {news : List (Addr × Obj)} {RR : Value → Addr → Result → Shared → Prop}
    (hh : A.handled = none) (hsz : items.size ≤ sizeLine) (F : Fr h₀ env.locals s.heap m) (N : News h₀ env.locals s.heap ((e, enumObj it 0 .none) :: (it, oit) :: news)) (hit : s.heap.IsTupleIter it l 0)
    (hl : (l, ({ cls := .type "tuple", data := .seq items nl } : Obj)) ∈ news) (hap : ∀ p ∈ news, p.1 ≠ e ∧ p.1 ≠ it) (hei : e ≠ it)
    (hcell : ∀ x ∈ scope.names, x.2 ≠ .cell) (hk : scope.kind = .function) (ha : scope.names.lookup a = some .local) (hb : scope.names.lookup b = some .local)
    (J : Nat → List Value → Prop) (h0 : J 0 [])
    (step : ∀ (i : Nat) (x : Value) (t : Tok) (ys : List Value) (nD : Nat) (h : Heap) (mC : Str → Option Value) (tk : Nat) (E' : Value → Shared → Prop) (g : Heap) (C D : Addr) (oe' oit' : Obj), CompGround h₀ env.locals m g → items[i]? = some x → J i ys → ys.length ≤ i → Fr g C h (fun z => if z = b then some x else if z = a then some (.int (i : Int) t) else mC z) →
      News g C h ((D, lobj ys nD) :: (e, oe') :: (it, oit') :: news) →
      wpAny (model prog w) A (eval elt (compEnvC scope cl C env)) (fun y s₄ => EnumTurn g C ((D, lobj ys nD) :: (e, oe') :: (it, oit') :: news) (J (i + 1) (ys ++ [y])) s s₄) E' { s with heap := h, toks := tk })
    (hfin : ∀ h' tk mC ys nD g C D, CompGround h₀ env.locals m g → Fr g C h' mC → News g C h' ((D, lobj ys nD) :: news) → (∀ p ∈ news, p.1 ≠ D) → D ≠ env.locals → C ≠ env.locals → D ≠ C → ys.length ≤ items.size → J items.size ys →
      RR (.ref D) C (.ok .next) { s with heap := h', toks := tk }) :
    wpAny (model prog w) A (newList []) (fun acc s₃ => wpAny (model prog w) A (newFunctionEnv scope env.globals cl [] env.qual none .none (some env)) (fun cenv s₄ =>
      codeAny (model prog w) A (.compStart (.ListComp elt [⟨.Tuple [.Name a pa, .Name b pb] kk tp, iter, [], 0⟩] scope pos) 0 (.ref e) acc { cenv with scope := relabel scope env }) (RR acc cenv.locals) s₄) E s₃) E s := by
  refine wpAny_newObj_type (wpAny_newFunctionEnv hcell (by intro y hy; simp at hy) (fun h₁ hns₁ hsb₁ => ?_) hk)
  dsimp only at hns₁ hsb₁ ⊢
  generalize hD : s.heap.objs.size = D
  have hC : (s.heap.push (lobj [] 0)).objs.size = D + 1 := by rw [Heap.size_push, hD]
  change codeAny _ _ (.compStart _ 0 (.ref e) (.ref D) (compEnvC scope cl (s.heap.push (lobj [] 0)).objs.size env)) (RR (.ref D) (s.heap.push (lobj [] 0)).objs.size) { s with heap := h₁, toks := s.toks + 0 }
  change h₁.Ns (s.heap.push (lobj [] 0)).objs.size _ at hns₁
  change Heap.SameBut (s.heap.push (lobj [] 0)).objs.size ((s.heap.push (lobj [] 0)).push _) h₁ at hsb₁
  rw [hC] at hns₁ hsb₁ ⊢
  let hid : List Addr := e :: it :: news.map (·.1)
  have hDfree : s.heap.get? D = none := by
    cases q : s.heap.get? D with
    | none => rfl
    | some o => exact absurd (Heap.lt_size q) (by rw [hD]; exact Nat.lt_irrefl _)
  have hmem : ∀ b ∈ hid, ∃ p ∈ ((e, enumObj it 0 .none) :: (it, oit) :: news), p.1 = b := fun b hb => by
    rcases List.mem_cons.mp hb with rfl | hb
    · exact ⟨_, .head _, rfl⟩
    · rcases List.mem_cons.mp hb with rfl | hb
      · exact ⟨_, .tail _ (.head _), rfl⟩
      · obtain ⟨p, hp, rfl⟩ := List.mem_map.mp hb
        exact ⟨p, .tail _ (.tail _ hp), rfl⟩
  have hidlt : ∀ b ∈ hid, b < D := fun b hb => by
    obtain ⟨p, hp, rfl⟩ := hmem b hb
    rw [← hD]; exact Heap.lt_size (N p hp).1
  have hid0 : ∀ b o, h₀.get? b = some o → b ∉ hid := fun b o q hb => by
    obtain ⟨p, hp, rfl⟩ := hmem b hb
    rw [(N p hp).2.2] at q; cases q
  have hidL : env.locals ∉ hid := fun hb => by
    obtain ⟨p, hp, q⟩ := hmem _ hb
    exact (N p hp).2.1 q
  obtain ⟨oL, es, ep, hL, hLd, hLk, hLf⟩ := id F.ns
  have hLg : (hideAll s.heap hid).get? env.locals = some oL := hideAll_get hid hL hidL
  have G : CompGround h₀ env.locals m (hideAll s.heap hid) := by
    refine ⟨fun b o q => hideAll_get hid (F.keep b o q) (hid0 b o q), fun h' hk => ⟨⟨oL, es, ep, hk _ _ hLg, hLd, hLk, hLf⟩, fun b o q => hk b o (hideAll_get hid (F.keep b o q) (hid0 b o q)), F.above⟩, fun b hb => ⟨?_, ?_⟩⟩
    · cases q : h₀.get? b with
      | none => rfl
      | some o => rw [hideAll_get hid (F.keep b o q) (hid0 b o q)] at hb; cases hb
    · rintro rfl; rw [hLg] at hb; cases hb
  have LD : env.locals ≠ D := fun q => by rw [q, hDfree] at hL; cases hL
  have LC : env.locals ≠ D + 1 := fun q => by have := Heap.lt_size hL; rw [hD, q] at this; exact absurd this (Nat.not_lt.mpr (Nat.le_succ D))
  have up : ∀ b o, s.heap.get? b = some o → h₁.get? b = some o := fun b o q => by
    have hlt := Heap.lt_size q
    rw [hD] at hlt
    exact hsb₁.extBut b o (Nat.ne_of_lt (Nat.lt_succ_of_lt hlt)) (Heap.get?_push_of_some _ (Heap.get?_push_of_some _ q))
  have hDobj : h₁.get? D = some (lobj [] 0) := hsb₁.extBut _ _ (Nat.ne_of_lt (Nat.lt_succ_self _)) (Heap.get?_push_of_some _ (hD ▸ Heap.get?_push_size _ rfl))
  have FC : Fr (hideAll s.heap hid) (D + 1) h₁ (fun x => ([] : List (Str × Value)).reverse.lookup x) := ⟨hns₁, fun b o q => up b o (of_hideAll _ q), by rw [hideAll_size, hD]; exact Nat.le_succ _⟩
  have gnone : ∀ b, D ≤ b → (hideAll s.heap hid).get? b = none := fun b hb => by
    cases q : (hideAll s.heap hid).get? b with
    | none => rfl
    | some o => have := Heap.lt_size (of_hideAll _ q); rw [hD] at this; exact absurd hb (Nat.not_le.mpr this)
  have NC : News (hideAll s.heap hid) (D + 1) h₁ ((D, lobj [] 0) :: (e, enumObj it 0 .none) :: (it, oit) :: news) := by
    intro p hp
    rcases List.mem_cons.mp hp with rfl | hp
    · exact ⟨hDobj, Nat.ne_of_lt (Nat.lt_succ_self _), gnone _ (Nat.le_refl _)⟩
    · have hq : p.1 ∈ hid := by
        rcases List.mem_cons.mp hp with rfl | hp
        · exact .head _
        · rcases List.mem_cons.mp hp with rfl | hp
          · exact .tail _ (.head _)
          · exact .tail _ (.tail _ (List.mem_map_of_mem hp))
      exact ⟨up _ _ (N p hp).1, Nat.ne_of_lt (Nat.lt_succ_of_lt (hidlt _ hq)), hideAll_none _ hq⟩
  have apD : ∀ p ∈ news, p.1 ≠ D := fun p hp => Nat.ne_of_lt (hidlt _ (.tail _ (.tail _ (List.mem_map_of_mem hp))))
  have heD : e ≠ D := Nat.ne_of_lt (hidlt _ (.head _))
  have hiD : it ≠ D := Nat.ne_of_lt (hidlt _ (.tail _ (.head _)))
  have hit₁ : h₁.IsTupleIter it l 0 := hit.at fun o q => up _ _ q
  generalize hideAll s.heap hid = g at G FC NC
  generalize D + 1 = C at FC NC LC
  have DC : D ≠ C := (NC _ (.head _)).2.1
  have hge : g.get? e = none := (NC _ (.tail _ (.head _))).2.2
  have hgi : g.get? it = none := (NC _ (.tail _ (.tail _ (.head _)))).2.2
  have hgD : g.get? D = none := (NC _ (.head _)).2.2
  have hCe : C ≠ e := fun q => (NC _ (.tail _ (.head _))).2.1 q.symm
  have hCi : C ≠ it := fun q => (NC _ (.tail _ (.tail _ (.head _)))).2.1 q.symm
  have hgn : ∀ p ∈ news, g.get? p.1 = none := fun p hp => (NC p (.tail _ (.tail _ (.tail _ hp)))).2.2
  have hCn : ∀ p ∈ news, p.1 ≠ C := fun p hp => (NC p (.tail _ (.tail _ (.tail _ hp)))).2.1
  have hli : l ≠ it := (hap _ hl).2
  have hle : l ≠ e := (hap _ hl).1
  have Dr : Draws prog w A.in1 it [it, l] items.size (fun i v => items[i]? = some v) (fun i h => h.IsTupleIter it l i ∧ h.IsTuple l items) := drawsTuple (A := A.in1) hh it l hli items
  have W := WalksT.enumerateD Dr e hei (by simp [hei, hle.symm]) (by simp)
  have hkC : (compEnvC scope cl C env).scope.kind = .function := hk
  have loop : ∀ s₃ : Shared, s₃ = { s with heap := h₁, toks := s.toks + 0 } →
      codeAny (model prog w) A (.compLoop (.ListComp elt [⟨.Tuple [.Name a pa, .Name b pb] kk tp, iter, [], 0⟩] scope pos) 0 (.ref e) (.ref D) (compEnvC scope cl C env)) (RR (.ref D) C) s₃ := by
    rintro s₃ rfl
    refine LCp.codeAny_compLoop_pair
      (fun k s' => ∃ h' tk mC ys nD i, s' = { s with heap := h', toks := tk } ∧ ((∃ old, IsEnum h' e it (i : Nat) old) ∧ h'.IsTupleIter it l i ∧ h'.IsTuple l items) ∧ Fr g C h' mC ∧ News g C h' ((D, lobj ys nD) :: news) ∧ J i ys ∧ ys.length ≤ i ∧ i ≤ items.size ∧ k = items.size + 1 - i) ?_ (items.size + 1)
      ⟨h₁, s.toks + 0, _, [], 0, 0, rfl, ⟨⟨.none, (NC _ (.tail _ (.head _))).1⟩, hit₁, ⟨_, (NC _ (.tail _ (.tail _ (.tail _ hl)))).1, rfl, nl, rfl⟩⟩, FC, ?_, h0, Nat.le_refl _, Nat.zero_le _, rfl⟩
    · rintro k s' ⟨h', tk, mC, ys, nD, i, rfl, hst, F', N', hJ, hys, hi, rfl⟩
      have hIe : (∃ o, h'.get? e = some o) := let ⟨⟨_, x⟩, _⟩ := hst; ⟨_, x⟩
      -- what stands besides e and it
      have stay : ∀ {H H' : Heap} {mC' : Str → Option Value} {L₁ : List (Addr × Obj)}, (∀ b o, b ∉ [e, it] → H.get? b = some o → H'.get? b = some o) → Fr g C H mC' → Fr g C H' mC' := fun hx FF =>
        ⟨FF.ns.at' fun o q => hx C o (by simp [hCe, hCi]) q, fun b o q => hx b o (by
          intro hb
          rcases List.mem_cons.mp hb with rfl | hb
          · rw [hge] at q; cases q
          · rw [List.mem_singleton.mp hb, hgi] at q; cases q) (FF.keep b o q), FF.above⟩
      have stayN : ∀ {H H' : Heap} {ys : List Value} {nD : Nat}, (∀ b o, b ∉ [e, it] → H.get? b = some o → H'.get? b = some o) → News g C H ((D, lobj ys nD) :: news) → News g C H' ((D, lobj ys nD) :: news) := fun hx NN p hp => by
        refine ⟨hx _ _ ?_ (NN p hp).1, (NN p hp).2⟩
        rcases List.mem_cons.mp hp with rfl | hp
        · simp [heD.symm, hiD.symm]
        · simp [(hap p hp).1, (hap p hp).2]
      by_cases hlt : i < items.size
      · refine W.item i _ _ _ hlt hst fun T vals h₂ tk₂ hP hTge hT hMid hk₂ => ?_
        obtain ⟨t, x, hx, rfl⟩ := hP
        have F₂ := stay (L₁ := []) hk₂ F'
        have N₂ := stayN hk₂ N'
        refine W.go _ _ _ i T _ _ _ hMid fun h₃ hst₃ hk₃ => ?_
        have F₃ := stay (L₁ := []) hk₃ F₂
        have N₃ := stayN hk₃ N₂
        have hT₃ : h₃.IsTuple T #[.int i t, x] := hT.at fun o q => hk₃ _ o (W.apart i T _ hMid) q
        refine kcp_assign hh hT₃ (lookup_relabel_local ha) (lookup_relabel_local hb) (by rw [hkC]; rfl) F₃.ns fun h₄ tk₄ hn₄ hk₄ => ?_
        have hk₄ : ∀ c o, c ≠ C → h₃.get? c = some o → h₄.get? c = some o := hk₄
        have F₄ : Fr g C h₄ (fun z => if z = b then some x else if z = a then some (.int i t) else mC z) := ⟨hn₄, fun c o q => hk₄ c o (fr_ne F₃ q) (F₃.keep c o q), F₃.above⟩
        obtain ⟨⟨old, he₃⟩, hit₃, hl₃⟩ := hst₃
        have he₄ : h₄.get? e = some (enumObj it ((i + 1 : Nat) : Int) old) := hk₄ _ _ (Ne.symm hCe) he₃
        obtain ⟨oit', hoi, hri⟩ := id hit₃
        have hoi₄ : h₄.get? it = some oit' := hk₄ _ _ (Ne.symm hCi) hoi
        have N₄ : News g C h₄ ((D, lobj ys nD) :: (e, enumObj it ((i + 1 : Nat) : Int) old) :: (it, oit') :: news) := by
          intro p hp
          rcases List.mem_cons.mp hp with rfl | hp
          · exact ⟨hk₄ _ _ DC (N₃ _ (.head _)).1, (N₃ _ (.head _)).2⟩
          · rcases List.mem_cons.mp hp with rfl | hp
            · exact ⟨he₄, Ne.symm hCe, hge⟩
            · rcases List.mem_cons.mp hp with rfl | hp
              · exact ⟨hoi₄, Ne.symm hCi, hgi⟩
              · exact ⟨hk₄ _ _ (hCn p hp) (N₃ p (.tail _ hp)).1, (N₃ p (.tail _ hp)).2⟩
        refine wpAny_mono (step i x t ys nD h₄ mC tk₄ _ g C D _ _ G hx hJ hys F₄ N₄) (fun y s₄ h₅ => ?_) fun _ _ q => q
        obtain ⟨h₅, tk₅, mC₅, rfl, F₅, N₅, hJ₅⟩ := h₅
        refine wpAny_list_append_plain (hsz := by rw [List.size_toArray]; omega) ⟨nD, (N₅ _ (.head _)).1⟩ fun h₆ hl₆ hs₆ => ?_
        obtain ⟨nD', hl₆⟩ := hl₆
        have hl₆' : h₆.get? D = some (lobj (ys ++ [y]) nD') := by rw [hl₆]; simp [lobj]
        have x6 : ∀ b o, b ≠ D → h₅.get? b = some o → h₆.get? b = some o := fun b o hb q => hs₆.extBut b o hb q
        refine ⟨items.size + 1 - (i + 1), by omega, h₆, tk₅, mC₅, ys ++ [y], nD', i + 1, rfl, ⟨⟨old, x6 _ _ heD (N₅ _ (.tail _ (.head _))).1⟩, ⟨oit', x6 _ _ hiD (N₅ _ (.tail _ (.tail _ (.head _)))).1, hri⟩, ⟨_, x6 _ _ (apD _ hl) (N₅ _ (.tail _ (.tail _ (.tail _ hl)))).1, rfl, nl, rfl⟩⟩,
          fr_off F₅ hs₆.extBut (Ne.symm DC) hgD, ?_, hJ₅, by rw [List.length_append, List.length_singleton]; omega, hlt, rfl⟩
        intro p hp
        rcases List.mem_cons.mp hp with rfl | hp
        · exact ⟨hl₆', DC, hgD⟩
        · exact ⟨x6 _ _ (apD p hp) (N₅ p (.tail _ (.tail _ (.tail _ hp)))).1, (N₅ p (.tail _ (.tail _ (.tail _ hp)))).2⟩
      · have hin : i = items.size := by omega
        subst hin
        refine W.done _ _ _ hst fun h₂ tk₂ hk₂ => ?_
        exact hfin h₂ tk₂ mC ys nD g C D G (stay (L₁ := []) hk₂ F') (stayN hk₂ N') apD (Ne.symm LD) (Ne.symm LC) DC hys hJ
    · intro p hp
      rcases List.mem_cons.mp hp with rfl | hp
      · exact NC _ (.head _)
      · exact NC p (.tail _ (.tail _ (.tail _ hp)))
  exact codeAny_compStart_list (loop _ rfl) (wpAny_pyIter_enum (i := 0) (old := .none) (NC _ (.tail _ (.head _))).1 (loop _ rfl))
end

end
-- part L1
section
open PySem.Calls PySem.Builtin PySem.Builtin.Str
def lawBody : List Stmt := fnBody ((PySem.Challenge.pw_wb0004_01.main.body)[6]!)
def lawScope : Scope := fnScope ((PySem.Challenge.pw_wb0004_01.main.body)[6]!)

theorem law_head : ∃ p0 p1 p2 k elts, lawBody = Stmt.Assign [Expr.Name (Str.ofString "starts") p0] (Expr.Tuple elts k p1) p2 :: lawBody.drop 1 ∧ tupLitsOf elts = some ([0, 1, 1, 1, 0, 0, 0, 0, 0, 0, 1, 0, 0].map PyData.int) := ⟨_, _, _, _, _, rfl, rfl⟩
theorem isDatum_int {hp : Heap} {v : Value} {c : Int} (h : IsDatum v (.int c)) : ∃ t, v = .int c t := by
  have h' := h hp
  cases h'
  exact ⟨_, rfl⟩
theorem intsAre_at {vs : List Value} {ns : List Int} (h : IntsAre vs ns) {i : Nat} {x : Value} (e : vs[i]? = some x) : ∃ k t, x = .int k t := by
  induction h generalizing i with
  | nil => cases e
  | cons n t _ ih => cases i with
    | zero => cases e; exact ⟨_, _, rfl⟩
    | succ i => exact ih e
theorem intsAre_of_lits (hp : Heap) : ∀ {vs : List Value} {cs : List Int}, DataAre vs (cs.map PyData.int) → IntsAre vs cs
  | _, [], h => by cases h; exact .nil
  | _, c :: cs, h => by
    cases h with
    | cons hv hr => obtain ⟨t, rfl⟩ := isDatum_int (hp := hp) hv; exact .cons _ _ (intsAre_of_lits hp hr)

/-- the cells of the law's frame -/
abbrev cellLed (L : Addr) (o6 o5 o4 o3 o2 o1 : Obj) : List (Addr × Obj) := [(L + 1 + 1 + 1 + 1 + 1 + 1, o6), (L + 1 + 1 + 1 + 1 + 1, o5), (L + 1 + 1 + 1 + 1, o4), (L + 1 + 1 + 1, o3), (L + 1 + 1, o2), (L + 1, o1)]

section
local macro_rules | `(tactic| walk_at "eval Name") => `(tactic| k_dflt walk_at "m name")
local macro_rules | `(tactic| walk_at "call builtin:sum") => `(tactic| ((with_reducible show wpAny _ _ (call (Value.builtin "sum") [Value.ref _]) _ _ _); (rename Fr _ _ _ _ => F9); (rename News _ _ _ _ => N9); (with_unfolding_all refine' sumK ?s1 F9 N9 ?s3 ?s4 ?_); (case s1 => exact rfl); (case s3 => exact ⟨_, (N9 _ (.head _)).1, rfl, _, rfl⟩); (case s4 => exact IntsAre.pick (by with_reducible assumption) _ _ _); clear F9 N9; intro h9 tk9 t9 F9 N9))
local macro_rules | `(tactic| walk_at "pyIter ref") => `(tactic| ((with_reducible show wpAny _ _ (pyIter _) _ _ _); refine stopHere ?_))
local macro_rules | `(tactic| walk_at "exec Assign cons ListComp") => `(tactic| ((with_reducible show wpAny _ _ (exec _ _) _ _ _); refine stopHere ?_))

theorem law_starts {M : Model} {A : Around} {s : Shared} {E : Value → Shared → Prop} {Q : Flow → Shared → Prop} {h₀ : Heap} {L fa : Addr} {cd : Value} {m : Str → Option Value} {news : List (Addr × Obj)}
  (F : Fr h₀ L s.heap m) (N : News h₀ L s.heap news)
  (h : ∀ h' tk T tvs, IntsAre tvs [0, 1, 1, 1, 0, 0, 0, 0, 0, 0, 1, 0, 0] → (∀ p ∈ news, p.1 < T) → Fr h₀ L h' (fun y => if y = Str.ofString "starts" then some (.ref T) else m y) → News h₀ L h' ((T, { cls := .type "tuple", data := .seq tvs.toArray }) :: news) →
    wpAny M A (execs (lawBody.drop 1) (envOfC (Str.ofString "law") lawScope L fa cd)) Q E { s with heap := h', toks := tk }) :
  wpAny M A (execs lawBody (envOfC (Str.ofString "law") lawScope L fa cd)) Q E s := by
  obtain ⟨p0, p1, p2, k, elts, e, hl⟩ := law_head
  rw [e]
  refine wpAny_execs_cons (wpAny_Assign_Name (Tuple_ (spliced_lits elts _ _ _ hl fun tvs tk1 htv => ?_)) rfl)
  have htv := intsAre_of_lits h₀ htv
  refine newTuple_N F N (fun h1 F1 N1 => ?_) (by rw [htv.length]; decide)
  refine stLocN F1 N1 (fun h2 F2 N2 => ?_) rfl rfl
  exact h h2 _ _ tvs htv (fun p hp => Heap.lt_size (N p hp).1) F2 N2

theorem law_drawn {w : World} {dp un : Nat} {fr : Option (List Env)} {gd : Option (List Code)} {s : Shared} {E : Value → Shared → Prop} {Q : Flow → Shared → Prop} {mean : ExcName → Option Value} {mg mb : Str → Option Value} {h₀ : Heap} {L fa T : Addr} {cd : Value} {m : Str → Option Value} {o1 o2 o3 o4 o5 o6 : Obj} {l : Addr} {vs tvs : List Value} {ns : List Int}
  (X : (hd.heap_39 w.params).In h₀) (TT : Top hd.view_39 (looseW hd.view_39 []) mean mg mb h₀) (hL : h₀.IsList l vs.toArray) (hI : IntsAre vs ns) (hn : ns.length ≤ 63)
  (ht : IntsAre tvs [0, 1, 1, 1, 0, 0, 0, 0, 0, 0, 1, 0, 0])
  (F : Fr h₀ L s.heap m) (N : News h₀ L s.heap ((T, { cls := .type "tuple", data := .seq tvs.toArray }) :: cellLed L o6 o5 o4 o3 o2 o1)) (d1 : o1.data = .cell (some (.ref l))) (hs : m (Str.ofString "starts") = some (.ref T))
  (h : ∀ h' tk D ys nD ds, IntsAre ys ds → ds.length = 13 → (∀ p ∈ cellLed L o6 o5 o4 o3 o2 o1, p.1 ≠ D) → Fr h₀ L h' (fun y => if y = Str.ofString "drawn" then some (.ref D) else m y) → News h₀ L h' ((D, lobj ys nD) :: cellLed L o6 o5 o4 o3 o2 o1) →
    wpAny (model PySem.Challenge.rw_wb0004_01.row.prog w) ({ handled := none, depth := dp, frames := fr, guards := gd, units := un } : Around) (execs (lawBody.drop 2) (envOfC (Str.ofString "law") lawScope L fa cd)) Q E { s with heap := h', toks := tk }) :
  wpAny (model PySem.Challenge.rw_wb0004_01.row.prog w) ({ handled := none, depth := dp, frames := fr, guards := gd, units := un } : Around) (execs (lawBody.drop 1) (envOfC (Str.ofString "law") lawScope L fa cd)) Q E s := by
    revert X TT; w_top off; k_fill; intro X TT
    rw [show lawBody.drop 1 = _ :: lawBody.drop 2 from rfl]
    refine wpAny_execs_cons ?_
    refine' assign_comp ?hsw ?hclos ?hkind ?hnames ?_ ?hs
    case hsw => with_unfolding_all rfl
    case hclos => with_unfolding_all rfl
    case hkind => rfl
    case hnames => decide
    case hs => intro _; with_unfolding_all rfl
    k_steps
    rename Fr _ _ _ _ => F8; rename News _ _ _ _ => N8
    refine call_enum_tuple (N8 _ (.head _)).1 ?_
    have F9 := (F8.push { cls := .type "tuple_iterator", data := .fields #[.ref T, .int 0 0] }).push { cls := .type "enumerate", data := .fields #[.none, .bool false, .ref s.heap.objs.size, rawInt 0, .none, .none] }
    have N9 := ((N8.push F8 { cls := .type "tuple_iterator", data := .fields #[.ref T, .int 0 0] }).push (F8.push _) { cls := .type "enumerate", data := .fields #[.none, .bool false, .ref s.heap.objs.size, rawInt 0, .none, .none] })
    rw [Heap.size_push] at N9
    have he := (N9 _ (.head _)).1
    have hi := (N9 _ (.tail _ (.head _))).1
    have hTlt : T < s.heap.objs.size := Heap.lt_size (N8 _ (.head _)).1
    refine wpAny_pyIter_enum (it := s.heap.objs.size) (i := 0) (old := .none) he ?_
    refine' comp_enum (items := tvs.toArray) (nl := 0) (l := T) (oit := { cls := .type "tuple_iterator", data := .fields #[.ref T, .int 0 0] }) rfl ?hsz F9 N9 ?hit (List.Mem.head _) ?hap ?hei ?hcell rfl rfl rfl
      (fun i ys => ∃ ds, IntsAre ys ds ∧ ds.length = i) ⟨[], .nil, rfl⟩ ?step ?hfin
    case hsz => rw [List.size_toArray, ht.length]; decide
    case hit => exact ⟨_, hi, rfl, rfl⟩
    case hap =>
      intro p hp
      have hlt : p.1 < s.heap.objs.size := Heap.lt_size (N8 p hp).1
      exact ⟨Nat.ne_of_lt (Nat.lt_succ_of_lt hlt), Nat.ne_of_lt hlt⟩
    case hei => exact Nat.succ_ne_self _
    case hcell => decide
    case step =>
      rintro i x t ys nD h mC tk E' g C D oe' oit' G hx ⟨ds, hds, hdl⟩ hlen FC NC
      clear F8 N8 F9 N9 he hi
      generalize s.heap.objs.size = it at NC
      obtain ⟨k, tkk, rfl⟩ := intsAre_at ht (by simpa using hx)
      have X' := X.keeps G.stays
      have T' := TT.keeps G.stays
      have hLg : g.IsList l vs.toArray := hL.at fun o e => G.stays _ o e
      k_steps
      rename Fr _ _ _ _ => F9; rename News _ _ _ _ => N9
      exact ⟨_, _, _, rfl, F9, fun p hp => N9 p (.tail _ hp), _, IntsAre.snoc hds, by simp [hdl]⟩
    case hfin =>
      rintro h' tk mC ys nD g C D G FC NC hap hDL hCL hDC hlen ⟨ds, hds, hdl⟩
      refine' fin_assign ?hy ?hp hCL G FC (fun p hp => ?_) ?_
      case hy => exact rfl
      case hp => exact rfl
      rotate_left
      · rcases List.mem_cons.mp hp with rfl | hp
        · exact NC _ (.head _)
        · exact NC p (.tail _ (.tail _ hp))
      · intro h9 tk9 F9 N9
        refine h h9 tk9 D ys nD ds hds ?_ (fun p hp => hap p (.tail _ hp)) F9 N9
        rw [hdl, List.size_toArray, ht.length]; rfl
end

end
-- part L2
section
open PySem.Calls PySem.Builtin PySem.Builtin.Str
theorem intsAre_pop : ∀ {ys : List Value} {ds : List Int} {n : Nat}, IntsAre ys ds → ds.length = n + 1 → ∃ zs k t es, ys = zs ++ [.int k t] ∧ IntsAre zs es ∧ es.length = n
  | [], _, _, h, hl => by cases h; cases hl
  | [y], _, n, h, hl => by
    cases h with
    | cons k t hr => cases hr; exact ⟨[], k, t, [], rfl, .nil, by simp at hl; simp [hl]⟩
  | y :: y2 :: ys, _, n, h, hl => by
    cases h with
    | cons k t hr =>
      cases n with
      | zero => cases hr with | cons k2 t2 hr2 => simp at hl
      | succ n =>
        obtain ⟨zs, k', t', es, e, hz, hn⟩ := intsAre_pop (n := n) hr (by simpa using hl)
        exact ⟨_ :: zs, k', t', k :: es, by rw [e]; rfl, .cons k t hz, by simp [hn]⟩

theorem last_snoc (y : Value) : ∀ zs : List Value, kl_last (zs ++ [y]) = some (zs, y)
  | [] => rfl
  | [z] => rfl
  | z :: z2 :: zs => by
    have ih := last_snoc y (z2 :: zs)
    rw [List.cons_append, kl_last, ih]
def lawSt (i : Nat) : Stmt := lawBody[i]!

section
local macro_rules | `(tactic| walk_at "eval Name") => `(tactic| k_dflt walk_at "m name")
local macro_rules | `(tactic| walk_at "call builtin:list.pop") => `(tactic| ((with_reducible show wpAny _ _ (call (Value.builtin "list.pop") _) _ _ _); refine stopHere ?_))

theorem law_menu {w : World} {dp un : Nat} {fr : Option (List Env)} {gd : Option (List Code)} {s : Shared} {E : Value → Shared → Prop} {Q : Flow → Shared → Prop} {mean : ExcName → Option Value} {mg mb : Str → Option Value} {h₀ : Heap} {L fa D : Addr} {cd : Value} {m : Str → Option Value} {o1 o2 o3 o4 o5 o6 : Obj} {zs : List Value} {es : List Int} {kd : Int} {td : Tok} {nD : Nat}
  (X : (hd.heap_39 w.params).In h₀) (TT : Top hd.view_39 (looseW hd.view_39 []) mean mg mb h₀)
  (F : Fr h₀ L s.heap m) (N : News h₀ L s.heap ((D, lobj (zs ++ [.int kd td]) nD) :: cellLed L o6 o5 o4 o3 o2 o1)) (hdr : m (Str.ofString "drawn") = some (.ref D)) (hz : IntsAre zs es) (hl : es.length = 12) (hap : ∀ p ∈ cellLed L o6 o5 o4 o3 o2 o1, p.1 ≠ D)
  (h : ∀ h' tk tm nD', Fr h₀ L h' (fun y => if y = Str.ofString "menu" then some (.str (Str.ofString "ab*?+([^$|{\n -x~") tm) else if y = Str.ofString "kind" then some (.int kd td) else m y) →
    News h₀ L h' ((D, lobj zs nD') :: cellLed L o6 o5 o4 o3 o2 o1) →
    Q .next { s with heap := h', toks := tk }) :
  wpAny (model PySem.Challenge.rw_wb0004_01.row.prog w) ({ handled := none, depth := dp, frames := fr, guards := gd, units := un } : Around) (exec (lawSt 2) (envOfC (Str.ofString "law") lawScope L fa cd)) Q E s := by
    revert X TT; w_top off; k_fill; intro X TT
    refine (show wpAny _ _ (exec (Stmt.Assign _ _ _) _) _ _ _ from ?_)
    k_steps
    unfold Stop
    rename Fr _ _ _ _ => F9; rename News _ _ _ _ => N9
    refine kl_pop (its := (zs ++ [Value.int kd td]).toArray) F9 N9 (last_snoc _ _) (Upd.head hap) ?_ ?_
    · show List.length (zs ++ [Value.int kd td]) ≤ _
      rw [List.length_append, hz.length, hl, sizeLine_eq]; simp
    intro h9 F8 N8
    clear F9 N9
    k_steps
    rename Fr _ _ _ _ => F9; rename News _ _ _ _ => N9
    have N8 : News h₀ L _ ((D, lobj zs (nD + 1)) :: cellLed L o6 o5 o4 o3 o2 o1) := fun p hp => N9 p (List.Mem.tail _ hp)
    exact h _ _ _ _ F9 N8

theorem cell_ne {L c : Addr} {o6 o5 o4 o3 o2 o1 : Obj} {D : Addr} (hap : ∀ p ∈ cellLed L o6 o5 o4 o3 o2 o1, p.1 ≠ D) (h : c = L + 1 ∨ c = L + 1 + 1 ∨ c = L + 1 + 1 + 1 ∨ c = L + 1 + 1 + 1 + 1 ∨ c = L + 1 + 1 + 1 + 1 + 1 ∨ c = L + 1 + 1 + 1 + 1 + 1 + 1) : D ≠ c := by
  rcases h with rfl | rfl | rfl | rfl | rfl | rfl
  · exact Ne.symm (hap (_, o1) (by simp))
  · exact Ne.symm (hap (_, o2) (by simp))
  · exact Ne.symm (hap (_, o3) (by simp))
  · exact Ne.symm (hap (_, o4) (by simp))
  · exact Ne.symm (hap (_, o5) (by simp))
  · exact Ne.symm (hap (_, o6) (by simp))

/-- store into a cell of the law's frame: whatever else is kept is named anew -/
theorem stC {M : Model} {A : Around} {E : Value → Shared → Prop} {s : Shared} {name : Str} {scope : Scope} {L a : Addr} {cd : Value} {h₀ : Heap} {m : Str → Option Value} {news : List (Addr × Obj)} (rest : List (Addr × Obj))
    {x : Str} {c : Addr} {o : Obj} {v₀ : Option Value} {v : Value} {Q : Unit → Shared → Prop} (F : Fr h₀ L s.heap m) (N : News h₀ L s.heap news) (hm : (c, o) ∈ news)
    (hc : (cellsFrom (L + 1) scope.names []).lookup x = some c) (hd : o.data = .cell v₀) (hr : ∀ p ∈ rest, p ∈ news ∧ p.1 ≠ c)
    (h : ∀ h' o', Fr h₀ L h' m → News h₀ L h' ((c, o') :: rest) → o'.data = .cell (some v) → Q () { s with heap := h' })
    (hk : scope.kind = .function := by rfl) (hl : (envOfC name scope L a cd).kindOf x = some .cell := by rfl) :
    wpAny M A (storeName (envOfC name scope L a cd) x v) Q E s := by
  have N' : News h₀ L s.heap ([] ++ (c, o) :: rest) := fun p hp => by
    rcases List.mem_cons.mp hp with rfl | hp
    · exact N _ hm
    · exact N _ (hr p hp).1
  exact stCN F N' hc hd (fun _ hp => nomatch hp) (fun p hp => (hr p hp).2) h hk hl

theorem law_signs {w : World} {dp un : Nat} {fr : Option (List Env)} {gd : Option (List Code)} {s : Shared} {E : Value → Shared → Prop} {Q : Flow → Shared → Prop} {mean : ExcName → Option Value} {mg mb : Str → Option Value} {h₀ : Heap} {L fa D : Addr} {cd : Value} {m : Str → Option Value} {o1 o2 o3 o4 o5 o6 : Obj} {zs : List Value} {es : List Int} {kd : Int} {td tm : Tok} {nD : Nat}
  (X : (hd.heap_39 w.params).In h₀) (TT : Top hd.view_39 (looseW hd.view_39 []) mean mg mb h₀)
  (F : Fr h₀ L s.heap m) (N : News h₀ L s.heap ((D, lobj zs nD) :: cellLed L o6 o5 o4 o3 o2 o1)) (hmn : m (Str.ofString "menu") = some (.str (Str.ofString "ab*?+([^$|{\n -x~") tm)) (hkd : m (Str.ofString "kind") = some (.int kd td))
  (hap : ∀ p ∈ cellLed L o6 o5 o4 o3 o2 o1, p.1 ≠ D) {d2 : Option Value} (hd2 : o2.data = .cell d2)
  (h : ∀ h' tk S n t1 t2 o2', o2'.data = .cell (some (.ref S)) → (Txt.item (Str.ofString "ab*?+([^$|{\n -x~") (kd.fmod 16)).length = 1 → (Txt.item (Str.ofString "ab*?+([^$|{\n -x~") ((kd + 1 + (kd.fdiv 16).fmod 15).fmod 16)).length = 1 → Fr h₀ L h' m →
    News h₀ L h' ((S, lobj [.str (Txt.item (Str.ofString "ab*?+([^$|{\n -x~") (kd.fmod 16)) t1, .str (Txt.item (Str.ofString "ab*?+([^$|{\n -x~") ((kd + 1 + (kd.fdiv 16).fmod 15).fmod 16)) t2] n) :: (D, lobj zs nD) :: cellLed L o6 o5 o4 o3 o2' o1) →
    (∀ p ∈ cellLed L o6 o5 o4 o3 o2' o1, p.1 ≠ S) → (∀ p ∈ cellLed L o6 o5 o4 o3 o2' o1, p.1 ≠ D) →
    Q .next { s with heap := h', toks := tk }) :
  wpAny (model PySem.Challenge.rw_wb0004_01.row.prog w) ({ handled := none, depth := dp, frames := fr, guards := gd, units := un } : Around) (exec (lawSt 3) (envOfC (Str.ofString "law") lawScope L fa cd)) Q E s := by
    revert X TT; w_top off; k_fill; intro X TT
    refine (show wpAny _ _ (exec (Stmt.Assign _ _ _) _) _ _ _ from ?_)
    k_steps
    rename Fr _ _ _ _ => F9; rename News _ _ _ _ => N9; rename And (D < _) _ => l9
    rename Addr => S9
    have N9' : News h₀ L _ ([_, _, _, _, _, _] ++ (L + 1 + 1, o2) :: [(L + 1, o1)]) := N9
    refine stCN F9 N9' rfl hd2 ?_ ?_ (fun h1 o2' F8 N8 d2' => ?_)
    · intro p hp
      simp only [List.mem_cons, List.not_mem_nil, or_false] at hp
      rcases hp with rfl | rfl | rfl | rfl | rfl | rfl
      · exact Nat.ne_of_gt (by omega)
      · exact cell_ne hap (by simp)
      all_goals exact Nat.ne_of_gt (by omega)
    · intro p hp
      simp only [List.mem_cons, List.not_mem_nil, or_false] at hp
      subst hp; exact Nat.ne_of_lt (by omega)
    · refine h _ _ S9 _ _ _ o2' d2' (by omega) (by omega) F8 N8 ?_ ?_
      · intro p hp
        simp only [List.mem_cons, List.not_mem_nil, or_false] at hp
        rcases hp with rfl | rfl | rfl | rfl | rfl | rfl <;> exact Nat.ne_of_lt (by omega)
      · intro p hp
        simp only [List.mem_cons, List.not_mem_nil, or_false] at hp
        rcases hp with rfl | rfl | rfl | rfl | rfl | rfl <;> exact Ne.symm (cell_ne hap (by simp))
end

end
-- part L3
section
open PySem.Calls PySem.Builtin PySem.Builtin.Str
def pick (a b : Str) (e : Int) : Str := if e.fmod 2 = 0 then a else b
def rowOf (a b : Str) (es : List Int) : Str := Txt.join (Str.ofString "") (es.map (pick a b))
theorem strValues_snoc (l : List (Str × Tok)) (x : Str) (t : Tok) : strValues (l ++ [(x, t)]) = strValues l ++ [.str x t] := by
  unfold strValues; rw [List.map_append]; rfl
theorem intsAre_get {vs : List Value} {ns : List Int} (h : IntsAre vs ns) {i : Nat} {x : Value} (e : vs[i]? = some x) : ∃ k t, x = .int k t ∧ ns[i]? = some k := by
  induction h generalizing i with
  | nil => cases e
  | cons n t _ ih => cases i with
    | zero => cases e; exact ⟨_, _, rfl, rfl⟩
    | succ i => exact ih e
theorem fmod_two (k : Int) : k.fmod 2 = 0 ∨ k.fmod 2 = 1 := by
  rw [Int.fmod_eq_emod_of_nonneg k (by decide)]; omega

section
local macro_rules | `(tactic| walk_at "eval Name") => `(tactic| k_dflt walk_at "m name")
local macro_rules | `(tactic| walk_at "eval ListComp") => `(tactic| ((with_reducible show wpAny _ _ (eval _ _) _ _ _); refine stopHere ?_))
local macro_rules | `(tactic| walk_at "pyIter ref") => `(tactic| ((with_reducible show wpAny _ _ (pyIter _) _ _ _); refine stopHere ?_))

theorem law_row {w : World} {dp un : Nat} {fr : Option (List Env)} {gd : Option (List Code)} {s : Shared} {E : Value → Shared → Prop} {Q : Flow → Shared → Prop} {mean : ExcName → Option Value} {mg mb : Str → Option Value} {h₀ : Heap} {L fa D S : Addr} {cd : Value} {m : Str → Option Value} {o1 o2 o3 o4 o5 o6 : Obj} {zs : List Value} {es : List Int} {ta tb : Tok} {nD nS : Nat} {a b : Str}
  (X : (hd.heap_39 w.params).In h₀) (TT : Top hd.view_39 (looseW hd.view_39 []) mean mg mb h₀)
  (F : Fr h₀ L s.heap m) (N : News h₀ L s.heap ((S, lobj [.str a ta, .str b tb] nS) :: (D, lobj zs nD) :: cellLed L o6 o5 o4 o3 o2 o1)) (hd2 : o2.data = .cell (some (.ref S))) (hdr : m (Str.ofString "drawn") = some (.ref D))
  (hz : IntsAre zs es) (hl : es.length = 12) (ha : a.length = 1) (hb : b.length = 1)
  {d3 : Option Value} (hd3 : o3.data = .cell d3)
  (hQ : ∀ h' tk tr o3', o3'.data = .cell (some (.str (rowOf a b es) tr)) → Fr h₀ L h' m → News h₀ L h' (cellLed L o6 o5 o4 o3' o2 o1) → Q .next { s with heap := h', toks := tk }) :
  wpAny (model PySem.Challenge.rw_wb0004_01.row.prog w) ({ handled := none, depth := dp, frames := fr, guards := gd, units := un } : Around) (exec (lawSt 4) (envOfC (Str.ofString "law") lawScope L fa cd)) Q E s := by
    revert X TT; w_top off; k_fill; intro X TT
    refine (show wpAny _ _ (exec (Stmt.Assign _ _ _) _) _ _ _ from ?_)
    k_steps
    unfold Stop
    refine' eval_comp ?hclos ?hkind ?hnames ?_ ?hs
    case hclos => with_unfolding_all rfl
    case hkind => rfl
    case hnames => decide
    case hs => intro _; with_unfolding_all rfl
    k_steps
    unfold Stop
    rename Fr _ _ _ _ => F8; rename News _ _ _ _ => N8
    have hlD : s.heap.IsList D zs.toArray := ⟨_, (N8 _ (.tail _ (.head _))).1, rfl, _, rfl⟩
    refine wpAny_pyIter_list hlD ?_
    refine' comp_core (h₀ := h₀) (srcList rfl (lx := D) zs.toArray) ?hsz (F8.push _) (N8.push F8 _) ?hap ?hst
      (fun _ i ys led => (∃ l, ys = strValues l ∧ l.map (·.1) = (es.take i).map (pick a b)) ∧ led = (S, lobj [.str a ta, .str b tb] nS) :: (D, lobj zs nD) :: cellLed L o6 o5 o4 o3 o2 o1) ?h0 ?hSh ?step ?hfin ?ht
    case hsz => rw [List.size_toArray, hz.length, hl, sizeLine_eq]; decide
    case hap => intro p hp; exact Nat.ne_of_lt (Heap.lt_size (N8 p hp).1)
    case hst => exact ⟨rfl, rfl⟩
    case h0 => intro C _; exact ⟨⟨[], rfl, rfl⟩, rfl⟩
    case hSh =>
      rintro i C g h' mC ys led G ⟨_, rfl⟩ F' N'
      exact ⟨_, (N' _ (.tail _ (.head _))).1, rfl, _, rfl⟩
    case ht => intros; rfl
    case step =>
      rintro i v ys nD led h mC tk E' g C D oI' G hi hx ⟨⟨l, rfl, hl9⟩, rfl⟩ hlen FC NC hap9 hDI
      obtain ⟨k, tkk, rfl, hk⟩ := intsAre_get hz (by simpa using hx)
      clear F8 N8 hlD
      have X' := X.keeps G.stays
      have T' := TT.keeps G.stays
      clear X TT
      refine wpAny_assign_Name (wpAny_storeName_local rfl FC.ns (fun h₃ hn₃ hs₃ => ?_) rfl)
      have F9 := FC.set hn₃ hs₃
      have N9 := NC.set hs₃
      clear FC NC hn₃ hs₃
      refine ifs_nil ?_
      rw [if_pos rfl]
      k_steps
      all_goals (rename Fr _ _ _ _ => F9; rename News _ _ _ _ => N9)
      · refine ⟨_, _, _, _, rfl, F9, N9, hap9, ⟨l ++ [(a, ta)], (strValues_snoc _ _ _).symm, ?_⟩, rfl⟩
        rw [List.map_append, hl9, List.take_add_one, hk]
        rename k.fmod 2 = 0 => e9
        simp [pick, e9]
      · refine ⟨_, _, _, _, rfl, F9, N9, hap9, ⟨l ++ [(b, tb)], (strValues_snoc _ _ _).symm, ?_⟩, rfl⟩
        rw [List.map_append, hl9, List.take_add_one, hk]
        rename k.fmod 2 = 1 => e9
        simp [pick, e9]
    case hfin =>
      rintro h' tk mC ys nD9 led g C D9 G FC NC hap9 hDL hCL hDC hlen ⟨⟨l, rfl, hl9⟩, rfl⟩
      refine fin_eval G FC NC fun h9 F9 N9 => ?_
      clear F8 N8 hlD FC NC
      k_steps
      rw [List.take_of_length_le (by rw [List.size_toArray, hz.length]; exact Nat.le_refl _)] at hl9
      refine SC.join ⟨_, (N9 _ (.head _)).1, rfl, _, rfl⟩ hl9 ?_ fun t9 k9 => ?_
      · unfold JoinOk
        rw [Bool.not_eq_true']
        refine StrLaws.joinFits (B := 1) ?_ ?_
        · intro y hy
          obtain ⟨e, _, rfl⟩ := List.mem_map.mp hy
          unfold pick; split <;> omega
        · rw [List.length_map, hl]; decide
      have N8 : News h₀ L _ (cellLed L o6 o5 o4 o3 o2 o1) := fun p hp => N9 p (.tail _ (.tail _ (.tail _ hp)))
      clear N9
      k_steps
      rename Fr _ _ _ _ => F8; rename News _ _ _ _ => N7
      rename Obj.data _ = Data.cell (some (Value.str _ _)) => d9
      exact hQ _ _ _ _ d9 F8 N7
end

end
-- part L4
section
open PySem.Calls PySem.Builtin PySem.Builtin.Str
def partAt (r : Str) (k : Nat) : Str := Txt.slice r (some ((1 : Int) + k * 1 - 1)) (some (2 * ((1 : Int) + k * 1)))
def partsOf (r : Str) (n : Nat) : List Str := (List.range n).map (partAt r)
theorem partsOf_succ (r : Str) (n : Nat) : partsOf r (n + 1) = partsOf r n ++ [partAt r n] := by unfold partsOf; rw [List.range_succ, List.map_append]; rfl
section
local macro_rules | `(tactic| walk_at "eval Name") => `(tactic| k_dflt walk_at "m name")
local macro_rules | `(tactic| walk_at "eval ListComp") => `(tactic| ((with_reducible show wpAny _ _ (eval _ _) _ _ _); refine stopHere ?_))
local macro_rules | `(tactic| walk_at "pyIter ref") => `(tactic| ((with_reducible show wpAny _ _ (pyIter _) _ _ _); refine stopHere ?_))

local macro_rules | `(tactic| walk_at "pad 1625") => `(tactic| skip)
theorem law_parts {w : World} {dp un : Nat} {fr : Option (List Env)} {gd : Option (List Code)} {s : Shared} {E : Value → Shared → Prop} {Q : Flow → Shared → Prop} {mean : ExcName → Option Value} {mg mb : Str → Option Value} {h₀ : Heap} {L fa : Addr} {cd : Value} {m : Str → Option Value} {o1 o2 o3 o4 o5 o6 : Obj} {tr : Tok} {r : Str}
  (X : (hd.heap_39 w.params).In h₀) (TT : Top hd.view_39 (looseW hd.view_39 []) mean mg mb h₀)
  (F : Fr h₀ L s.heap m) (N : News h₀ L s.heap (cellLed L o6 o5 o4 o3 o2 o1)) (hd3 : o3.data = .cell (some (.str r tr))) (hr : r.length ≤ 1000)
  {d4 : Option Value} (hd4 : o4.data = .cell d4)
  (hQ : ∀ h' tk P l nP o4', o4'.data = .cell (some (.ref P)) → l.map (·.1) = partsOf r 6 → Fr h₀ L h' m → News h₀ L h' ((P, lobj (strValues l) nP) :: cellLed L o6 o5 o4' o3 o2 o1) → (∀ p ∈ cellLed L o6 o5 o4' o3 o2 o1, p.1 ≠ P) → Q .next { s with heap := h', toks := tk }) :
  wpAny (model PySem.Challenge.rw_wb0004_01.row.prog w) ({ handled := none, depth := dp, frames := fr, guards := gd, units := un } : Around) (exec (lawSt 5) (envOfC (Str.ofString "law") lawScope L fa cd)) Q E s := by
    revert X TT; w_top off; k_fill; intro X TT
    refine (show wpAny _ _ (exec (Stmt.Assign _ _ _) _) _ _ _ from ?_)
    k_steps
    unfold Stop
    refine' eval_comp ?hclos ?hkind ?hnames ?_ ?hs
    case hclos => with_unfolding_all rfl
    case hkind => rfl
    case hnames => decide
    case hs => intro _; with_unfolding_all rfl
    k_steps
    unfold Stop
    rename IsRange _ _ _ _ _ _ _ _ => hR
    rename Fr _ _ _ _ => F8; rename News _ _ _ _ => N8
    have hsm : Builtin.Range.small 1 7 1 = true := small_one (by decide) (by decide) (by decide) (by decide)
    have hrs : Builtin.Range.rangeSize 1 7 1 = 6 := by rw [rangeSize_one]; rfl
    refine wpAny_pyIter_range hR hsm ?_
    rw [hrs]
    refine' comp_core (h₀ := h₀) (srcRange rfl 1 1 6) ?hsz (F8.push _) (N8.push F8 _) ?hap ?hst
      (fun _ i ys led => (∃ l, ys = strValues l ∧ l.map (·.1) = partsOf r i) ∧ led = cellLed L o6 o5 o4 o3 o2 o1) ?h0 ?hSh ?step ?hfin ?ht
    case hsz => rw [sizeLine_eq]; decide
    case hap => intro p hp; exact Nat.ne_of_lt (Heap.lt_size (N8 p hp).1)
    case hst => intro h e; show h.get? _ = _; rw [e]; simp
    case h0 => intro C _; exact ⟨⟨[], rfl, rfl⟩, rfl⟩
    case hSh => intros; trivial
    case ht => intros; rfl
    case step =>
      rintro i v ys nD led h mC tk E' g C D oI' G hi ⟨tv, rfl⟩ ⟨⟨l, rfl, hl9⟩, rfl⟩ hlen FC NC hap9 hDI
      clear F8 N8 hR
      have X' := X.keeps G.stays
      have T' := TT.keeps G.stays
      clear X TT
      refine wpAny_assign_Name (wpAny_storeName_local rfl FC.ns (fun h₃ hn₃ hs₃ => ?_) rfl)
      have F9 := FC.set hn₃ hs₃
      have N9 := NC.set hs₃
      clear FC NC hn₃ hs₃
      refine ifs_nil ?_
      rw [if_pos rfl]
      k_steps
      rename Fr _ _ _ _ => F9; rename News _ _ _ _ => N9
      refine ⟨_, _, _, _, rfl, F9, N9, hap9, ⟨l ++ [(_, _)], (strValues_snoc _ _ _).symm, ?_⟩, rfl⟩
      rw [List.map_append, hl9, partsOf_succ]
      rfl
    case hfin =>
      rintro h' tk mC ys nD9 led g C D9 G FC NC hap9 hDL hCL hDC hlen ⟨⟨l, rfl, hl9⟩, rfl⟩
      refine fin_eval G FC NC fun h9 F9 N9 => ?_
      clear F8 N8 FC NC hR
      have N9' : News h₀ L _ ([_, _, _] ++ (L + 1 + 1 + 1 + 1, o4) :: [_, _, _]) := N9
      refine stCN F9 N9' rfl hd4 ?_ ?_ (fun h1 o4' F8 N7 d4' => ?_)
      · intro p hp
        simp only [List.mem_cons, List.not_mem_nil, or_false] at hp
        rcases hp with rfl | rfl | rfl
        · exact cell_ne hap9 (by simp)
        all_goals exact Nat.ne_of_gt (by omega)
      · intro p hp
        simp only [List.mem_cons, List.not_mem_nil, or_false] at hp
        rcases hp with rfl | rfl | rfl <;> exact Nat.ne_of_lt (by omega)
      · exact hQ _ _ D9 l _ o4' d4' hl9 F8 N7 (fun p hp => by
          simp only [List.mem_cons, List.not_mem_nil, or_false] at hp
          rcases hp with rfl | rfl | rfl | rfl | rfl | rfl <;> exact Ne.symm (cell_ne hap9 (by simp)))
end

end
-- part L5
section
open PySem.Calls PySem.Builtin PySem.Builtin.Str
/-- the inner lists of a list of lists of truths -/
abbrev TB := Addr × Nat × List Bool
def wantOf (x : Str) : Str := Str.ofString "..." ++ Txt.join (Str.ofString "...") (x.cps.toList.map fun c => ⟨#[c]⟩) ++ Str.ofString "..."
def rowsLed (ts : List TB) : List (Addr × Obj) := ts.map fun t => (t.1, lobj (t.2.2.map Value.bool) t.2.1)
def rowsVal (ts : List TB) : List Value := ts.map fun t => .ref t.1
theorem rowsVal_snoc (ts : List TB) (t : TB) : rowsVal (ts ++ [t]) = rowsVal ts ++ [.ref t.1] := by unfold rowsVal; rw [List.map_append]; rfl
theorem rowsLed_snoc (ts : List TB) (t : TB) : rowsLed (ts ++ [t]) = rowsLed ts ++ [(t.1, lobj (t.2.2.map Value.bool) t.2.1)] := by unfold rowsLed; rw [List.map_append]; rfl

theorem strVal_get {l : List (Str × Tok)} {i : Nat} {v : Value} (h : (strValues l)[i]? = some v) : ∃ x t, v = .str x t ∧ (l.map (·.1))[i]? = some x := by
  unfold strValues at h
  rw [List.getElem?_map] at h
  rw [List.getElem?_map]
  cases e : l[i]? with
  | none => rw [e] at h; cases h
  | some p => rw [e] at h; cases h; exact ⟨_, _, rfl, rfl⟩

def letters (x : Str) : List Str := x.cps.toList.map fun c => ⟨#[c]⟩
theorem strs_of_items : ∀ (vs : List Value) (cs : List Nat), vs.length = cs.length → (∀ (j : Nat) (v : Value), vs[j]? = some v → ∃ (c : Nat) (u : Tok), cs[j]? = some c ∧ v = Value.str ⟨#[c]⟩ u) → ∃ l : List (Str × Tok), vs = strValues l ∧ l.map (·.1) = cs.map (fun c => (⟨#[c]⟩ : Str))
  | [], [], _, _ => ⟨[], rfl, rfl⟩
  | v :: vs, [], h, _ => by cases h
  | [], c :: cs, h, _ => by cases h
  | v :: vs, c :: cs, h, hg => by
    obtain ⟨c', u, hc, rfl⟩ := hg 0 v rfl
    cases hc
    obtain ⟨l, e1, e2⟩ := strs_of_items vs cs (by simpa using h) (fun j v hv => hg (j + 1) v hv)
    exact ⟨(⟨#[c]⟩, u) :: l, by rw [e1]; rfl, by rw [List.map_cons, e2]; rfl⟩

theorem list_letters {prog : Program} {w : World} {A : Around} {E : Value → Shared → Prop} {s : Shared} {h₀ : Heap} {L : Addr} {m : Str → Option Value} {news : List (Addr × Obj)} {x : Str} {t : Tok} {Q : Value → Shared → Prop}
    (hh : A.handled = none) (F : Fr h₀ L s.heap m) (N : News h₀ L s.heap news) (hx : x.length ≤ 1000)
    (h : ∀ h' tk D l n, l.map (·.1) = letters x → Fr h₀ L h' m → News h₀ L h' ((D, lobj (strValues l) n) :: news) → Q (.ref D) { s with heap := h', toks := tk }) :
    wpAny (model prog w) A (call (.type "list") [.str x t]) Q E s := by
  refine call_list_str hh x t (hn := by rw [sizeLine_eq]; exact Nat.le_trans hx (by decide)) fun h' tk acc' c' hk hS' hacc => ?_
  obtain ⟨l, e1, e2⟩ := strs_of_items acc'.toList x.cps.toList (by simp [hacc.1]) (fun j v hv => by
    obtain ⟨c, u, hc, rfl⟩ := hacc.2 j v (by simpa using hv)
    exact ⟨c, u, by simpa using hc, rfl⟩)
  refine h h' tk _ l c' e2 (F.keeps hk) fun p hp => ?_
  rcases List.mem_cons.mp hp with rfl | hp
  · refine ⟨?_, Ne.symm (Nat.ne_of_lt F.ns.lt), ?_⟩
    · rw [hS']; rw [← e1]
    · cases e : h₀.get? s.heap.objs.size with
      | none => rfl
      | some o => exact absurd (Heap.lt_size (F.keep _ _ e)) (Nat.lt_irrefl _)
  · exact ⟨hk _ _ (N p hp).1, (N p hp).2⟩

theorem join_letters {prog : Program} {w : World} {A : Around} {E : Value → Shared → Prop} {s : Shared} {h₀ : Heap} {L D : Addr} {news : List (Addr × Obj)} {x y : Str} {t : Tok} {l : List (Str × Tok)} {n : Nat} {Q : Value → Shared → Prop}
    (N : News h₀ L s.heap ((D, lobj (strValues l) n) :: news)) (hl : l.map (·.1) = letters x) (hx : x.length ≤ 1000) (hy : y.length ≤ 1000) (h : ∀ t' k, Q (.str (Txt.join y (letters x)) t') { s with toks := k }) :
    wpAny (model prog w) A (call (.builtin "str.join") [.str y t, .ref D]) Q E s := by
  refine SC.join ⟨_, (N _ (.head _)).1, rfl, _, rfl⟩ hl ?_ h
  unfold JoinOk
  rw [Bool.not_eq_true']
  refine StrLaws.joinFits (B := 1) ?_ ?_
  · intro z hz
    obtain ⟨c, _, rfl⟩ := List.mem_map.mp hz
    exact Nat.le_refl _
  · have e : (letters x).length = x.length := by unfold letters; rw [List.length_map]; simp; rfl
    rw [e]
    have h1 : x.length * 1 ≤ 1000 := by omega
    have h2 : x.length * y.length ≤ 1000 * 1000 := Nat.mul_le_mul hx hy
    omega

theorem join_len {x : Str} (hx : x.length ≤ 20) : (Txt.join (Str.ofString "...") (letters x)).length ≤ 80 := by
  have h := StrLaws.join_length_le (Str.ofString "...") (letters x)
  have e : (letters x).length = x.length := by unfold letters; rw [List.length_map]; simp; rfl
  have h2 := StrLaws.sumLen_le (B := 1) (letters x) (fun z hz => by
    obtain ⟨c, _, rfl⟩ := List.mem_map.mp hz
    exact Nat.le_refl _)
  have e3 : (Str.ofString "...").length = 3 := by decide
  rw [e, e3] at h
  rw [e] at h2
  show (glued (Str.ofString "...") (letters x)).length ≤ 80
  rw [StrLaws.glued_eq_join]
  refine Nat.le_trans h (?_ : _ ≤ 80)
  omega

section
local macro_rules | `(tactic| walk_at "call type:list") => `(tactic| ((with_reducible show wpAny _ _ (call (Value.type "list") [Value.str _ _]) _ _ _); (rename Fr _ _ _ _ => F9); (rename News _ _ _ _ => N9); (with_unfolding_all refine' list_letters rfl F9 N9 ?hx ?_); (case hx => with_reducible assumption); clear F9 N9; intro h9 tk9 D9 l9 n9 hl9 F9 N9))
local macro_rules | `(tactic| walk_at "call builtin:str.join") => `(tactic| ((with_reducible show wpAny _ _ (call (Value.builtin "str.join") [Value.str _ _, Value.ref _]) _ _ _); (rename News _ _ _ _ => N9); (with_unfolding_all refine' join_letters N9 ?hl ?hx ?hy ?_); (case hl => with_reducible assumption); (case hx => with_reducible assumption); (case hy => decide); intro t9 k9))
local macro_rules | `(tactic| walk_at "eval Name") => `(tactic| k_dflt walk_at "m name")
local macro_rules | `(tactic| walk_at "eval ListComp") => `(tactic| ((with_reducible show wpAny _ _ (eval _ _) _ _ _); refine stopHere ?_))
local macro_rules | `(tactic| walk_at "pyIter ref") => `(tactic| ((with_reducible show wpAny _ _ (pyIter _) _ _ _); refine stopHere ?_))

theorem law_told {w : World} {dp un : Nat} {fr : Option (List Env)} {gd : Option (List Code)} {s : Shared} {E : Value → Shared → Prop} {Q : Flow → Shared → Prop} {mean : ExcName → Option Value} {mg mb : Str → Option Value} {h₀ : Heap} {L fa P : Addr} {cd : Value} {m : Str → Option Value} {o1 o2 o3 o4 o5 o6 : Obj} {l : List (Str × Tok)} {xs : List Str} {nP : Nat}
  (X : (hd.heap_39 w.params).In h₀) (TT : Top hd.view_39 (looseW hd.view_39 []) mean mg mb h₀)
  (F : Fr h₀ L s.heap m) (N : News h₀ L s.heap ((P, lobj (strValues l) nP) :: cellLed L o6 o5 o4 o3 o2 o1)) (hd4 : o4.data = .cell (some (.ref P))) (hl : l.map (fun p => p.1) = xs) (hx : ∀ x ∈ xs, x.length ≤ 20) (hx6 : xs.length = 6) (hap : ∀ p ∈ cellLed L o6 o5 o4 o3 o2 o1, p.1 ≠ P) (hroom : dp < recursionLimit)
  {d6 : Option Value} (hd6 : o6.data = .cell d6)
  (hQ : ∀ h' tk W ts nW o6', o6'.data = .cell (some (.ref W)) → ts.map (fun t : TB => t.2.2) = xs.map (fun x => xs.map fun y => em (wantOf x) y) → Fr h₀ L h' m →
    News h₀ L h' ((W, lobj (rowsVal ts) nW) :: (rowsLed ts ++ (P, lobj (strValues l) nP) :: cellLed L o6' o5 o4 o3 o2 o1)) → (∀ p ∈ cellLed L o6' o5 o4 o3 o2 o1, p.1 ≠ P) → Q .next { s with heap := h', toks := tk }) :
  wpAny (model PySem.Challenge.rw_wb0004_01.row.prog w) ({ handled := none, depth := dp, frames := fr, guards := gd, units := un } : Around) (exec (lawSt 6) (envOfC (Str.ofString "law") lawScope L fa cd)) Q E s := by
    revert X TT; w_top off; k_fill; intro X TT
    refine (show wpAny _ _ (exec (Stmt.Assign _ _ _) _) _ _ _ from ?_)
    k_steps
    unfold Stop
    refine' eval_comp ?hclos ?hkind ?hnames ?_ ?hs
    case hclos => with_unfolding_all rfl
    case hkind => rfl
    case hnames => decide
    case hs => intro _; with_unfolding_all rfl
    k_steps
    unfold Stop
    rename Fr _ _ _ _ => F8; rename News _ _ _ _ => N8
    have hlD : s.heap.IsList P (strValues l).toArray := ⟨_, (N8 _ (.head _)).1, rfl, _, rfl⟩
    refine wpAny_pyIter_list hlD ?_
    refine' comp_core (h₀ := h₀) (srcList rfl (lx := P) (strValues l).toArray) ?hsz (F8.push _) (N8.push F8 _) ?hap ?hst
      (fun C i ys led => ∃ ts oF dF, ys = rowsVal ts ∧ ts.map (fun t : TB => t.2.2) = (xs.take i).map (fun x => xs.map fun y => em (wantOf x) y) ∧ oF.data = .cell dF ∧ led = (C + 1, oF) :: (rowsLed ts ++ (P, lobj (strValues l) nP) :: cellLed L o6 o5 o4 o3 o2 o1) ∧ (∀ p ∈ rowsLed ts ++ (P, lobj (strValues l) nP) :: cellLed L o6 o5 o4 o3 o2 o1, p.1 ≠ C + 1) ∧ (∀ p ∈ (P, lobj (strValues l) nP) :: cellLed L o6 o5 o4 o3 o2 o1, ∀ t ∈ ts, p.1 ≠ t.1)) ?h0 ?hSh ?step ?hfin ?ht
    case hsz => rw [show (strValues l).toArray.size = xs.length by rw [← hl]; simp [strValues], hx6, sizeLine_eq]; decide
    case hap => intro p hp; exact Nat.ne_of_lt (Heap.lt_size (N8 p hp).1)
    case hst => exact ⟨rfl, rfl⟩
    case h0 =>
      intro C hC
      refine ⟨[], _, _, rfl, rfl, rfl, rfl, fun p hp => Nat.ne_of_lt (Nat.lt_succ_of_lt (hC p hp)), fun _ _ _ ht => nomatch ht⟩
    case hSh =>
      rintro i C g h' mC ys led G ⟨ts, oF, dF, rfl, _, _, rfl, _, _⟩ F' N'
      exact ⟨_, (N' _ (.tail _ (List.mem_append_right _ (.head _)))).1, rfl, _, rfl⟩
    case ht => intros; rfl
    case step =>
      rintro i v ys nD led h mC tk E' g C D oI' G hi hv ⟨ts, oF, dF, rfl, hts, hdF, rfl, ha1, ha2⟩ hlen FC NC hap9 hDI
      clear F8 N8 hlD
      have X' := X.keeps G.stays
      have T' := TT.keeps G.stays
      clear X TT
      have hCI : s.heap.objs.size ≠ C + 1 := Ne.symm (hap9 (C + 1, oF) (.head _)).1
      have hCD : D ≠ C + 1 := Ne.symm (hap9 (C + 1, oF) (.head _)).2
      refine wpAny_assign_Name (wpAny_storeName_cell rfl rfl rfl ⟨oF, (NC _ (.tail _ (.tail _ (.head _)))).1, hdF⟩ fun h₃ hv₃ hs₃ => ?_)
      obtain ⟨oF', ho', hdF'⟩ := hv₃
      have hCC := (NC (C + 1, oF) (.tail _ (.tail _ (.head _)))).2
      have F9 : Fr g C h₃ mC := ⟨FC.ns.sameBut hs₃ (Ne.symm hCC.1), fun b ob e => (hs₃.2 b (fun q => by rw [q, hCC.2] at e; cases e)).trans (FC.keep b ob e), FC.above⟩
      have N9 : News g C h₃ ((D, lobj (rowsVal ts) nD) :: (s.heap.objs.size, oI') :: (C + 1, oF') :: (rowsLed ts ++ (P, lobj (strValues l) nP) :: cellLed L o6 o5 o4 o3 o2 o1)) := by
        intro p hp
        rcases List.mem_cons.mp hp with rfl | hp
        · exact ⟨(hs₃.2 _ hCD).trans (NC _ (.head _)).1, (NC _ (.head _)).2⟩
        · rcases List.mem_cons.mp hp with rfl | hp
          · exact ⟨(hs₃.2 _ hCI).trans (NC _ (.tail _ (.head _))).1, (NC _ (.tail _ (.head _))).2⟩
          · rcases List.mem_cons.mp hp with rfl | hp
            · exact ⟨ho', hCC⟩
            · exact ⟨(hs₃.2 _ (ha1 p hp)).trans (NC _ (.tail _ (.tail _ (.tail _ hp)))).1, (NC _ (.tail _ (.tail _ (.tail _ hp)))).2⟩
      clear hs₃ ho' hCC hdF
      refine ifs_nil ?_
      rw [if_pos rfl]
      obtain ⟨x, tx, rfl, hxi⟩ := strVal_get (by simpa using hv)
      have hPm : (P, lobj (strValues l) nP) ∈ rowsLed ts ++ (P, lobj (strValues l) nP) :: cellLed L o6 o5 o4 o3 o2 o1 := List.mem_append_right _ (.head _)
      have h4m : (L + 1 + 1 + 1 + 1, o4) ∈ rowsLed ts ++ (P, lobj (strValues l) nP) :: cellLed L o6 o5 o4 o3 o2 o1 := List.mem_append_right _ (by simp)
      generalize hRB : rowsLed ts ++ (P, lobj (strValues l) nP) :: cellLed L o6 o5 o4 o3 o2 o1 = RB at N9 hPm h4m
      k_steps
      unfold Stop
      refine' eval_comp ?hclos ?hkind ?hnames ?_ ?hs
      case hclos => with_unfolding_all rfl
      case hkind => rfl
      case hnames => decide
      case hs => intro _; with_unfolding_all rfl
      k_steps
      unfold Stop
      rename Fr _ _ _ _ => F8; rename News _ _ _ _ => N8
      have hlP : h₃.IsList P (strValues l).toArray := ⟨_, (N8 _ (.tail _ (.tail _ (.tail _ hPm)))).1, rfl, _, rfl⟩
      refine wpAny_pyIter_list hlP ?_
      refine' comp_core (h₀ := g) (srcList rfl (lx := P) (strValues l).toArray) ?hsz_i (F8.push _) (N8.push F8 _) ?hap_i ?hst_i
        (fun _ j ys led2 => ys = ((xs.take j).map (fun y => em (wantOf x) y)).map Value.bool ∧ led2 = (D, lobj (rowsVal ts) nD) :: (s.heap.objs.size, oI') :: (C + 1, oF') :: RB) ?h0_i ?hSh_i ?step_i ?hfin_i ?ht_i
      case hsz_i => rw [show (strValues l).toArray.size = xs.length by rw [← hl]; simp [strValues], hx6, sizeLine_eq]; decide
      case hap_i => intro p hp; exact Nat.ne_of_lt (Heap.lt_size (N8 p hp).1)
      case hst_i => exact ⟨rfl, rfl⟩
      case h0_i => intro C2 hC; exact ⟨rfl, rfl⟩
      case hSh_i =>
        rintro i C2 g2 h' mC2 ys led G2 ⟨rfl, rfl⟩ F' N'
        exact ⟨_, (N' _ (.tail _ (.tail _ (.tail _ hPm)))).1, rfl, _, rfl⟩
      case ht_i => intros; rfl
      case step_i =>
        rintro j v2 ys2 nD2 led2 hh mC2 tk2 E2 g2 C2 D2 oI2 G2 hj hv2 ⟨rfl, rfl⟩ hlen2 FC2 NC2 hap2 hDI2
        clear F8 N8 hlP FC NC
        obtain ⟨y, ty, rfl, hyj⟩ := strVal_get (by simpa using hv2)
        rw [hl] at hxi hyj
        have hx20 : x.length ≤ 20 := hx x (List.mem_of_getElem? hxi)
        have hy20 : y.length ≤ 20 := hx y (List.mem_of_getElem? hyj)
        have hx1k : x.length ≤ 1000 := Nat.le_trans hx20 (by decide)
        have hj80 := join_len hx20
        have hy1k : y.length ≤ 1000 := Nat.le_trans hy20 (by decide)
        have X2 := X'.keeps G2.stays
        have T2 := T'.keeps G2.stays
        clear X' T'
        refine wpAny_assign_Name (wpAny_storeName_local rfl FC2.ns (fun h₄ hn₄ hs₄ => ?_) rfl)
        have F9 := FC2.set hn₄ hs₄
        have N9 := NC2.set hs₄
        clear FC2 NC2 hn₄ hs₄
        refine ifs_nil ?_
        rw [if_pos rfl]
        k_steps
        rename Fr _ _ _ _ => F9; rename News _ _ _ _ => N9
        refine ell_call rfl hroom (X2.keeps F9.keep) (T2.keeps F9.keep) ?_ hy1k fun h5 tk5 hk5 => ?_
        · have e3 : (Str.ofString "...").length = 3 := by decide
          omega
        · refine ⟨_, _, _, _, rfl, F9.keeps hk5, fun p hp => ⟨hk5 _ _ (N9 p (.tail _ hp)).1, (N9 p (.tail _ hp)).2⟩, hap2, ?_, rfl⟩
          rw [List.take_add_one, hyj, List.map_append, List.map_append]
          rfl
      case hfin_i =>
        rintro h' tk2 mC2 ys2 nD2 led2 g2 C2 D2 G2 FC2 NC2 hap2 hDL2 hCL2 hDC2 hlen2 ⟨rfl, rfl⟩
        refine fin_eval G2 FC2 NC2 fun h9 F9 N9 => ?_
        have eL : (strValues l).toArray.size = xs.length := by rw [← hl]; simp [strValues]
        rw [eL, List.take_length] at N9
        have hap9' : ∀ p ∈ RB, p.1 ≠ s.heap.objs.size ∧ p.1 ≠ D := fun p hp => hap9 p (.tail _ (by rw [hRB]; exact hp))
        have hD2 : ∀ p ∈ RB, p.1 ≠ D2 := fun p hp => hap2 p (.tail _ (.tail _ (.tail _ hp)))
        have eM : ∀ p ∈ rowsLed (ts ++ [(D2, nD2, xs.map fun y => em (wantOf x) y)]) ++ (P, lobj (strValues l) nP) :: cellLed L o6 o5 o4 o3 o2 o1, p = (D2, lobj ((xs.map fun y => em (wantOf x) y).map Value.bool) nD2) ∨ p ∈ RB := fun p hp => by
          rw [← hRB]
          rcases List.mem_append.mp hp with hp | hp
          · rw [rowsLed_snoc] at hp
            rcases List.mem_append.mp hp with hp | hp
            · exact .inr (List.mem_append_left _ hp)
            · exact .inl (List.mem_singleton.mp hp)
          · exact .inr (List.mem_append_right _ hp)
        refine ⟨_, _, _, (C + 1, oF') :: (rowsLed (ts ++ [(D2, nD2, xs.map fun y => em (wantOf x) y)]) ++ (P, lobj (strValues l) nP) :: cellLed L o6 o5 o4 o3 o2 o1), rfl, F9, fun p hp => ?_, fun p hp => ?_, ts ++ [(D2, nD2, xs.map fun y => em (wantOf x) y)], oF', _, (rowsVal_snoc ts (D2, nD2, xs.map fun y => em (wantOf x) y)).symm, ?_, hdF', rfl, fun p hp => ?_, fun p hp t ht => ?_⟩
        · rcases List.mem_cons.mp hp with rfl | hp
          · exact N9 _ (.tail _ (.head _))
          · rcases List.mem_cons.mp hp with rfl | hp
            · exact N9 _ (.tail _ (.tail _ (.head _)))
            · rcases List.mem_cons.mp hp with rfl | hp
              · exact N9 _ (.tail _ (.tail _ (.tail _ (.head _))))
              · rcases eM p hp with rfl | hp
                · exact N9 _ (.head _)
                · exact N9 _ (.tail _ (.tail _ (.tail _ (.tail _ hp))))
        · rcases List.mem_cons.mp hp with rfl | hp
          · exact ⟨Ne.symm hCI, Ne.symm hCD⟩
          · rcases eM p hp with rfl | hp
            · exact ⟨Ne.symm (hap2 _ (.tail _ (.head _))), Ne.symm (hap2 _ (.head _))⟩
            · exact hap9' p hp
        · rw [hl] at hxi
          rw [List.map_append, hts, List.take_add_one, hxi, List.map_append]; rfl
        · rcases eM p hp with rfl | hp
          · exact Ne.symm (hap2 _ (.tail _ (.tail _ (.head _))))
          · exact ha1 p (by rw [hRB]; exact hp)
        · rcases List.mem_append.mp ht with ht | ht
          · exact ha2 p hp t ht
          · rw [List.mem_singleton.mp ht]
            exact hD2 p (hRB ▸ List.mem_append_right _ hp)
    case hfin =>
      rintro h' tk mC ys nD9 led g C D9 G FC NC hap9 hDL hCL hDC hlen ⟨ts, oF, dF, rfl, hts, hdF, rfl, ha1, ha2⟩
      refine fin_eval G FC NC fun h9 F9 N9 => ?_
      have eL : (strValues l).toArray.size = xs.length := by rw [← hl]; simp [strValues]
      rw [eL, List.take_length] at hts
      clear F8 N8 FC NC hlD
      have N9' : News h₀ L _ ([] ++ (L + 1 + 1 + 1 + 1 + 1 + 1, o6) :: ((D9, lobj (rowsVal ts) nD9) :: (rowsLed ts ++ (P, lobj (strValues l) nP) :: [(L + 1 + 1 + 1 + 1 + 1, o5), (L + 1 + 1 + 1 + 1, o4), (L + 1 + 1 + 1, o3), (L + 1 + 1, o2), (L + 1, o1)]))) := fun p hp => by
        rcases List.mem_cons.mp hp with rfl | hp
        · exact N9 _ (.tail _ (.tail _ (List.mem_append_right _ (.tail _ (.head _)))))
        · rcases List.mem_cons.mp hp with rfl | hp
          · exact N9 _ (.head _)
          · rcases List.mem_append.mp hp with hp | hp
            · exact N9 _ (.tail _ (.tail _ (List.mem_append_left _ hp)))
            · rcases List.mem_cons.mp hp with rfl | hp
              · exact N9 _ (.tail _ (.tail _ (List.mem_append_right _ (.head _))))
              · exact N9 _ (.tail _ (.tail _ (List.mem_append_right _ (.tail _ (.tail _ hp)))))
      have h6m : (L + 1 + 1 + 1 + 1 + 1 + 1, o6) ∈ (P, lobj (strValues l) nP) :: cellLed L o6 o5 o4 o3 o2 o1 := .tail _ (.head _)
      refine stCN F9 N9' rfl hd6 (fun p hp => nomatch hp) (fun p hp => ?_) (fun h1 o6' F8 N7 d6' => ?_)
      · rcases List.mem_cons.mp hp with rfl | hp
        · exact Ne.symm (hap9 _ (.tail _ (List.mem_append_right _ h6m)))
        · rcases List.mem_append.mp hp with hp | hp
          · obtain ⟨t, ht, rfl⟩ := List.mem_map.mp hp
            exact Ne.symm (ha2 _ h6m t ht)
          · rcases List.mem_cons.mp hp with rfl | hp
            · exact Ne.symm (hap (_, o6) (.head _))
            · simp only [List.mem_cons, List.not_mem_nil, or_false] at hp
              rcases hp with rfl | rfl | rfl | rfl | rfl <;> exact Nat.ne_of_lt (by omega)
      · refine hQ _ _ D9 ts nD9 o6' d6' hts F8 ?_ ?_ <;> intro p hp
        · rcases List.mem_cons.mp hp with rfl | hp
          · exact N7 _ (.tail _ (.head _))
          · rcases List.mem_append.mp hp with hp | hp
            · exact N7 _ (.tail _ (.tail _ (List.mem_append_left _ hp)))
            · rcases List.mem_cons.mp hp with rfl | hp
              · exact N7 _ (.tail _ (.tail _ (List.mem_append_right _ (.head _))))
              · rcases List.mem_cons.mp hp with rfl | hp
                · exact N7 _ (.head _)
                · exact N7 _ (.tail _ (.tail _ (List.mem_append_right _ (.tail _ hp))))
        · rcases List.mem_cons.mp hp with rfl | hp
          · exact hap (_, o6) (.head _)
          · exact hap p (.tail _ hp)
end

end
-- part L6
section
open PySem.Calls PySem.Builtin PySem.Builtin.Str
section
local macro_rules | `(tactic| walk_at "eval Name") => `(tactic| k_dflt walk_at "m name")
local macro_rules | `(tactic| walk_at "pyIter str") => `(tactic| ((with_reducible show wpAny _ _ (pyIter _) _ _ _); refine stopHere ?_))

theorem law_same {w : World} {dp un : Nat} {fr : Option (List Env)} {gd : Option (List Code)} {s : Shared} {E : Value → Shared → Prop} {Q : Flow → Shared → Prop} {mean : ExcName → Option Value} {mg mb : Str → Option Value} {h₀ : Heap} {L fa : Addr} {cd : Value} {m : Str → Option Value} {c3 : Addr} {o3 : Obj} {rest : List (Addr × Obj)} {r : Str} {tr : Tok}
  (X : (hd.heap_39 w.params).In h₀) (TT : Top hd.view_39 (looseW hd.view_39 []) mean mg mb h₀)
  (F : Fr h₀ L s.heap m) (N : News h₀ L s.heap ((L + 1 + 1 + 1, o3) :: rest)) (hd3 : o3.data = .cell (some (.str r tr))) (hr : r.length ≤ 20) (hr1 : 1 ≤ r.length)
  (hQ : ∀ h' tk S nS, Fr h₀ L h' (fun y => if y = Str.ofString "same" then some (.ref S) else m y) →
    News h₀ L h' ((S, lobj ((r.cps.toList.map fun c => (⟨#[c]⟩ : Str) == Txt.item r 0).map Value.bool) nS) :: (L + 1 + 1 + 1, o3) :: rest) → (∀ p ∈ (L + 1 + 1 + 1, o3) :: rest, p.1 ≠ S) → Q .next { s with heap := h', toks := tk }) :
  wpAny (model PySem.Challenge.rw_wb0004_01.row.prog w) ({ handled := none, depth := dp, frames := fr, guards := gd, units := un } : Around) (exec (lawSt 7) (envOfC (Str.ofString "law") lawScope L fa cd)) Q E s := by
    revert X TT; w_top off; k_fill; intro X TT
    refine (show wpAny _ _ (exec (Stmt.Assign _ _ _) _) _ _ _ from ?_)
    refine' assign_comp ?hsw ?hclos ?hkind ?hnames ?_ ?hs
    case hsw => with_unfolding_all rfl
    case hclos => with_unfolding_all rfl
    case hkind => rfl
    case hnames => decide
    case hs => intro _; with_unfolding_all rfl
    k_steps
    unfold Stop
    rename Fr _ _ _ _ => F8; rename News _ _ _ _ => N8
    cases ha : r.cps.all (· < 128)
    · refine wpAny_pyIter_wide ha ?_
      refine' comp_core (h₀ := h₀) (srcStrW rfl r tr) ?hsz (F8.push _) (N8.push F8 _) ?hap ?hst
        (fun _ i ys led => ys = ((r.cps.toList.take i).map fun c => (⟨#[c]⟩ : Str) == Txt.item r 0).map Value.bool ∧ led = (L + 1 + 1 + 1, o3) :: rest) ?h0 ?hSh ?step ?hfin ?ht
      case hsz => rw [sizeLine_eq]; exact Nat.le_trans hr (by decide)
      case hap => intro p hp; exact Nat.ne_of_lt (Heap.lt_size (N8 p hp).1)
      case hst => intro h e; exact ⟨_, e, rfl, rfl⟩
      case h0 => intro C _; exact ⟨rfl, rfl⟩
      case hSh => intros; trivial
      case ht => intros; rfl
      case step =>
        rintro i v ys nD led h mC tk E' g C D oI' G hi ⟨c, tc, hc, rfl⟩ ⟨rfl, rfl⟩ hlen FC NC hap9 hDI
        clear F8 N8
        have X' := X.keeps G.stays
        have T' := TT.keeps G.stays
        clear X TT
        refine wpAny_assign_Name (wpAny_storeName_local rfl FC.ns (fun h₃ hn₃ hs₃ => ?_) rfl)
        have F9 := FC.set hn₃ hs₃
        have N9 := NC.set hs₃
        clear FC NC hn₃ hs₃
        refine ifs_nil ?_
        rw [if_pos rfl]
        k_steps
        rename Fr _ _ _ _ => F9; rename News _ _ _ _ => N9
        refine ⟨_, _, _, _, rfl, F9, N9, hap9, ?_, rfl⟩
        rw [List.take_add_one, show r.cps.toList[i]? = some c by simpa using hc, List.map_append, List.map_append]
        rfl
      case hfin =>
        rintro h' tk mC ys nD9 led g C D9 G FC NC hap9 hDL hCL hDC hlen ⟨rfl, rfl⟩
        refine' fin_assign ?hy ?hp hCL G FC NC ?_
        case hy => exact rfl
        case hp => exact rfl
        intro h9 tk9 F9 N9
        have eL : List.take r.cps.size r.cps.toList = r.cps.toList := List.take_of_length_le (by simp)
        rw [eL] at N9
        exact hQ h9 _ D9 nD9 F9 N9 hap9
    · refine wpAny_pyIter_ascii ha ?_
      refine' comp_core (h₀ := h₀) (srcStrA rfl r tr) ?hsz (F8.push _) (N8.push F8 _) ?hap ?hst
        (fun _ i ys led => ys = ((r.cps.toList.take i).map fun c => (⟨#[c]⟩ : Str) == Txt.item r 0).map Value.bool ∧ led = (L + 1 + 1 + 1, o3) :: rest) ?h0 ?hSh ?step ?hfin ?ht
      case hsz => rw [sizeLine_eq]; exact Nat.le_trans hr (by decide)
      case hap => intro p hp; exact Nat.ne_of_lt (Heap.lt_size (N8 p hp).1)
      case hst => intro h e; exact ⟨_, e, rfl, rfl⟩
      case h0 => intro C _; exact ⟨rfl, rfl⟩
      case hSh => intros; trivial
      case ht => intros; rfl
      case step =>
        rintro i v ys nD led h mC tk E' g C D oI' G hi ⟨c, tc, hc, rfl⟩ ⟨rfl, rfl⟩ hlen FC NC hap9 hDI
        clear F8 N8
        have X' := X.keeps G.stays
        have T' := TT.keeps G.stays
        clear X TT
        refine wpAny_assign_Name (wpAny_storeName_local rfl FC.ns (fun h₃ hn₃ hs₃ => ?_) rfl)
        have F9 := FC.set hn₃ hs₃
        have N9 := NC.set hs₃
        clear FC NC hn₃ hs₃
        refine ifs_nil ?_
        rw [if_pos rfl]
        k_steps
        rename Fr _ _ _ _ => F9; rename News _ _ _ _ => N9
        refine ⟨_, _, _, _, rfl, F9, N9, hap9, ?_, rfl⟩
        rw [List.take_add_one, show r.cps.toList[i]? = some c by simpa using hc, List.map_append, List.map_append]
        rfl
      case hfin =>
        rintro h' tk mC ys nD9 led g C D9 G FC NC hap9 hDL hCL hDC hlen ⟨rfl, rfl⟩
        refine' fin_assign ?hy ?hp hCL G FC NC ?_
        case hy => exact rfl
        case hp => exact rfl
        intro h9 tk9 F9 N9
        have eL : List.take r.cps.size r.cps.toList = r.cps.toList := List.take_of_length_le (by simp)
        rw [eL] at N9
        exact hQ h9 _ D9 nD9 F9 N9 hap9
end

end
-- part Bools
section
open PySem.Calls PySem.SeqAt PySem.Builtin PySem.Builtin.Str
inductive BoolsR : List Value → List Bool → Prop
  | nil : BoolsR [] []
  | cons (b : Bool) {vs : List Value} {bs : List Bool} : BoolsR vs bs → BoolsR (.bool b :: vs) (b :: bs)
theorem BoolsR.of_map : ∀ bs : List Bool, BoolsR (bs.map Value.bool) bs
  | [] => .nil
  | b :: r => .cons b (of_map r)
theorem BoolsR.app {vs ws : List Value} {bs cs : List Bool} (h : BoolsR vs bs) (h2 : BoolsR ws cs) : BoolsR (vs ++ ws) (bs ++ cs) := by
  induction h with
  | nil => exact h2
  | cons b _ ih => exact .cons b ih
theorem BoolsR.length {vs : List Value} {bs : List Bool} (h : BoolsR vs bs) : vs.length = bs.length := by
  induction h with
  | nil => rfl
  | cons b _ ih => simp [ih]
theorem BoolsR.rep (b : Bool) : ∀ k : Nat, BoolsR (List.replicate k [Value.bool b]).flatten (List.replicate k b)
  | 0 => .nil
  | k + 1 => .cons b (BoolsR.rep b k)
theorem readsAll_bools {h : Heap} {vs : List Value} {bs : List Bool} (x : BoolsR vs bs) : ReadsAll h vs (bs.map PyData.bool) [] := by
  induction x with
  | nil => exact .nil
  | cons b _ ih => exact ReadsAll.cons (as := []) (.bool b) ih
theorem reads_bools {h : Heap} {a : Addr} {vs : List Value} {bs : List Bool} {n : Nat} (hl : h.get? a = some (lobj vs n)) (x : BoolsR vs bs) : Reads h (.ref a) (.list (bs.map PyData.bool)) [a] :=
  Reads.list hl rfl rfl (readsAll_bools x)
theorem canLayAll0_bools : ∀ bs : List Bool, PyData.canLayAll0 (bs.map PyData.bool) = true
  | [] => by simp [PyData.canLayAll0]
  | n :: r => by simp [PyData.canLayAll0, PyData.canLay0, canLayAll0_bools r]
theorem depthAll_bools : ∀ bs : List Bool, PyData.depthAll (bs.map PyData.bool) ≤ 1
  | [] => by simp [PyData.depthAll]
  | n :: r => by
    have := depthAll_bools r
    simp only [List.map_cons, PyData.depthAll, PyData.depth]
    omega
theorem shaped_bools (bs : List Bool) : shaped (.list (bs.map PyData.bool)) = true := by
  have h1 := depthAll_bools bs
  have h2 : PyData.depth (.list (bs.map PyData.bool)) ≤ 64 := by simp only [PyData.depth]; omega
  show (PyData.canLay0 (.list (bs.map PyData.bool)) && decide (PyData.depth (.list (bs.map PyData.bool)) ≤ 64)) = true
  rw [Bool.and_eq_true]
  exact ⟨by simp only [PyData.canLay0]; exact canLayAll0_bools bs, decide_eq_true h2⟩
theorem eqvAll_bools : ∀ bs cs : List Bool, PyData.eqvAll (bs.map PyData.bool) (cs.map PyData.bool) = decide (bs = cs)
  | [], [] => by simp [PyData.eqvAll]
  | [], _ :: _ => by simp [PyData.eqvAll]
  | _ :: _, [] => by simp [PyData.eqvAll]
  | n :: r, k :: q => by
    simp only [List.map_cons, PyData.eqvAll, PyData.eqv, eqvAll_bools r q]
    by_cases h : n = k <;> simp [h]

def toB : Value → Bool
  | .bool b => b
  | _ => false
theorem boolsR_of : ∀ {vs : List Value}, vs = (vs.map toB).map Value.bool → BoolsR vs (vs.map toB)
  | [], _ => .nil
  | v :: r, h => by
    simp only [List.map_cons, List.cons.injEq] at h
    have h2 := boolsR_of (vs := r) h.2
    rw [h.1]
    exact .cons _ h2
theorem toB_map (bs : List Bool) : (bs.map Value.bool).map toB = bs := by
  rw [List.map_map]; exact List.map_id'' (fun _ => rfl) bs
theorem units_ok {un : Nat} (h : un + 200 < cLine) : un + 64 < cLine := by omega

section
variable {prog : Program} {w : World} {A : Around} {E : Value → Shared → Prop} {s : Shared} {h₀ : Heap} {L a b : Addr} {m : Str → Option Value} {news : List (Addr × Obj)} {vs ws : List Value} {n n2 : Nat} {Q : Value → Shared → Prop}
theorem eq_bools (N : News h₀ L s.heap news) (h1 : (a, lobj vs n) ∈ news) (h2 : (b, lobj ws n2) ∈ news) (x : vs = (vs.map toB).map Value.bool) (y : ws = (ws.map toB).map Value.bool) (hu : A.units + 64 < cLine) (h : Q (.bool (decide (vs.map toB = ws.map toB))) s) :
    wpAny (model prog w) A (compareOp .Eq (.ref a) (.ref b)) Q E s :=
  eq_dataH (reads_bools (N _ h1).1 (boolsR_of x)) (reads_bools (N _ h2).1 (boolsR_of y)) (shaped_bools _) (shaped_bools _) hu (by rw [PyData.eqv, eqvAll_bools]; exact h)
theorem ne_bools (N : News h₀ L s.heap news) (h1 : (a, lobj vs n) ∈ news) (h2 : (b, lobj ws n2) ∈ news) (x : vs = (vs.map toB).map Value.bool) (y : ws = (ws.map toB).map Value.bool) (hu : A.units + 64 < cLine) (h : Q (.bool (!decide (vs.map toB = ws.map toB))) s) :
    wpAny (model prog w) A (compareOp .NotEq (.ref a) (.ref b)) Q E s :=
  ne_dataH (reads_bools (N _ h1).1 (boolsR_of x)) (reads_bools (N _ h2).1 (boolsR_of y)) (shaped_bools _) (shaped_bools _) hu (by rw [PyData.eqv, eqvAll_bools]; exact h)
theorem mul_bools {v : Value} {k : Int} {u : Tok} (F : Fr h₀ L s.heap m) (N : News h₀ L s.heap news) (h1 : (a, lobj [v] n) ∈ news) (hk0 : 0 ≤ k) (hk : k ≤ 1000)
    (h : ∀ h' D, Fr h₀ L h' m → News h₀ L h' ((D, lobj (List.replicate k.toNat v) 0) :: news) → Q (.ref D) { s with heap := h' }) :
    wpAny (model prog w) A (binaryOp .Mult (.ref a) (.int k u)) Q E s := by
  refine mul_list F N (N _ h1).1 (by omega) (by omega) (by simp; omega) fun h' F' N' => ?_
  rw [listMul_foldl_if] at N'
  refine h h' _ F' (fun p hp => N' p ?_)
  rcases List.mem_cons.mp hp with rfl | hp
  · rw [lm_rep_flat_one]; exact .head _
  · exact .tail _ hp
theorem add_bools (F : Fr h₀ L s.heap m) (N : News h₀ L s.heap news) (h1 : (a, lobj vs n) ∈ news) (h2 : (b, lobj ws n2) ∈ news) (hk : vs.length + ws.length ≤ 1000)
    (h : ∀ h' D, Fr h₀ L h' m → News h₀ L h' ((D, lobj (vs ++ ws) 0) :: news) → Q (.ref D) { s with heap := h' }) :
    wpAny (model prog w) A (binaryOp .Add (.ref a) (.ref b)) Q E s :=
  add_lists F N ⟨_, (N _ h1).1, rfl, _, rfl⟩ ⟨_, (N _ h2).1, rfl, _, rfl⟩ (fun h' F' N' => h h' _ F' N') (by rw [sizeLine_eq]; exact Nat.le_trans hk (by decide))
end

end
-- part L7
section
open PySem.Calls PySem.Builtin PySem.Builtin.Str
section
local macro_rules | `(tactic| walk_at "eval Name") => `(tactic| k_dflt walk_at "m name")
local macro_rules | `(tactic| walk_at "binaryOp Mult ref int") => `(tactic| k_dflt ((with_reducible show wpAny _ _ (binaryOp Operator.Mult (Value.ref _) (Value.int _ _)) _ _ _); (rename Fr _ _ _ _ => F9); (rename News _ _ _ _ => N9); (with_unfolding_all refine' mul_bools F9 N9 ?h1 ?hk0 ?hk ?_); (case h1 => walk_at "m mem"); (case hk0 => decide); (case hk => decide); clear F9 N9; intro h9 D9 F9 N9))
local macro_rules | `(tactic| walk_at "binaryOp Add ref ref") => `(tactic| k_dflt ((with_reducible show wpAny _ _ (binaryOp Operator.Add (Value.ref _) (Value.ref _)) _ _ _); (rename Fr _ _ _ _ => F9); (rename News _ _ _ _ => N9); (with_unfolding_all refine' add_bools F9 N9 ?h1 ?h2 ?hk ?_); (case h1 => walk_at "m mem"); (case h2 => walk_at "m mem"); (case hk => decide); clear F9 N9; intro h9 D9 F9 N9))
local macro_rules | `(tactic| walk_at "compareOp Eq ref ref") => `(tactic| k_dflt ((with_reducible show wpAny _ _ (compareOp CmpOp.Eq (Value.ref _) (Value.ref _)) _ _ _); (rename News _ _ _ _ => N9); (with_unfolding_all refine' eq_bools N9 ?h1 ?h2 ?x ?y ?hu ?_); (case h1 => walk_at "m mem"); (case h2 => walk_at "m mem"); (case x => exact rfl); (case y => exact rfl); (case hu => (dsimp only; exact units_ok (by with_reducible assumption)))))
local macro_rules | `(tactic| walk_at "compareOp NotEq ref ref") => `(tactic| k_dflt ((with_reducible show wpAny _ _ (compareOp CmpOp.NotEq (Value.ref _) (Value.ref _)) _ _ _); (rename News _ _ _ _ => N9); (with_unfolding_all refine' ne_bools N9 ?h1 ?h2 ?x ?y ?hu ?_); (case h1 => walk_at "m mem"); (case h2 => walk_at "m mem"); (case x => exact rfl); (case y => exact rfl); (case hu => (dsimp only; exact units_ok (by with_reducible assumption)))))

def tenB (b1 b2 b3 b4 b5 b6 b7 b8 b9 : Bool) : Bool := decide ([b1, b2, b3, b4, b5, b6, b7, b8, b9] = [false, false, false, true, true, true, true, true, true])
def eightB (b1 b2 b4 b5 b6 b7 : Bool) : Bool := decide ([b1, b2] = [false, false]) && decide ([b4, b5, b6, b7] = [true, true, true, true])
def sixA (b2 b3 b4 b5 : Bool) : Bool := decide ([b2, b3] = [false, false]) && !decide ([b4, b5] = [true, true])
def sixC (b2 b3 b4 b5 : Bool) : Bool := decide ([b4, b5] = [true, true]) && !decide ([b2, b3] = [true, false])
theorem and_yes {P : Prop} [Decidable P] {b : Bool} (h : P) : b = (decide P && b) := by rw [decide_eq_true h]; rfl
theorem and_no {P : Prop} [Decidable P] {b : Bool} (h : ¬P) : decide P = (decide P && b) := by rw [decide_eq_false h]; rfl
theorem law_ten {w : World} {dp un : Nat} {fr : Option (List Env)} {gd : Option (List Code)} {s : Shared} {E : Value → Shared → Prop} {Q : Flow → Shared → Prop} {mean : ExcName → Option Value} {mg mb : Str → Option Value} {h₀ : Heap} {L fa S : Addr} {cd : Value} {m : Str → Option Value} {nS : Nat} {rest : List (Addr × Obj)} {b0 b1 b2 b3 b4 b5 b6 b7 b8 b9 b10 b11 : Bool}
  (X : (hd.heap_39 w.params).In h₀) (TT : Top hd.view_39 (looseW hd.view_39 []) mean mg mb h₀) (hu : un + 200 < cLine)
  (F : Fr h₀ L s.heap m) (N : News h₀ L s.heap ((S, lobj [.bool b0, .bool b1, .bool b2, .bool b3, .bool b4, .bool b5, .bool b6, .bool b7, .bool b8, .bool b9, .bool b10, .bool b11] nS) :: rest)) (hs : m (Str.ofString "same") = some (.ref S))
  (hQ : ∀ h' tk v, v = tenB b1 b2 b3 b4 b5 b6 b7 b8 b9 → Fr h₀ L h' (fun y => if y = Str.ofString "ten" then some (.bool v) else m y) → News h₀ L h' ((S, lobj [.bool b0, .bool b1, .bool b2, .bool b3, .bool b4, .bool b5, .bool b6, .bool b7, .bool b8, .bool b9, .bool b10, .bool b11] nS) :: rest) → Q .next { s with heap := h', toks := tk }) :
  wpAny (model PySem.Challenge.rw_wb0004_01.row.prog w) ({ handled := none, depth := dp, frames := fr, guards := gd, units := un } : Around) (exec (lawSt 8) (envOfC (Str.ofString "law") lawScope L fa cd)) Q E s := by
    revert X TT; w_top off; k_fill; intro X TT
    refine (show wpAny _ _ (exec (Stmt.Assign _ _ _) _) _ _ _ from ?_)
    k_steps
    rename Fr _ _ _ _ => F9; rename News _ _ _ _ => N9
    exact hQ _ _ _ rfl F9 (fun p hp => N9 p (by repeat (first | exact hp | apply List.Mem.tail)))
theorem law_eight {w : World} {dp un : Nat} {fr : Option (List Env)} {gd : Option (List Code)} {s : Shared} {E : Value → Shared → Prop} {Q : Flow → Shared → Prop} {mean : ExcName → Option Value} {mg mb : Str → Option Value} {h₀ : Heap} {L fa S : Addr} {cd : Value} {m : Str → Option Value} {nS : Nat} {rest : List (Addr × Obj)} {b0 b1 b2 b3 b4 b5 b6 b7 b8 b9 b10 b11 : Bool}
  (X : (hd.heap_39 w.params).In h₀) (TT : Top hd.view_39 (looseW hd.view_39 []) mean mg mb h₀) (hu : un + 200 < cLine)
  (F : Fr h₀ L s.heap m) (N : News h₀ L s.heap ((S, lobj [.bool b0, .bool b1, .bool b2, .bool b3, .bool b4, .bool b5, .bool b6, .bool b7, .bool b8, .bool b9, .bool b10, .bool b11] nS) :: rest)) (hs : m (Str.ofString "same") = some (.ref S))
  (hQ : ∀ h' tk v, v = eightB b1 b2 b4 b5 b6 b7 → Fr h₀ L h' (fun y => if y = Str.ofString "eight" then some (.bool v) else m y) → News h₀ L h' ((S, lobj [.bool b0, .bool b1, .bool b2, .bool b3, .bool b4, .bool b5, .bool b6, .bool b7, .bool b8, .bool b9, .bool b10, .bool b11] nS) :: rest) → Q .next { s with heap := h', toks := tk }) :
  wpAny (model PySem.Challenge.rw_wb0004_01.row.prog w) ({ handled := none, depth := dp, frames := fr, guards := gd, units := un } : Around) (exec (lawSt 9) (envOfC (Str.ofString "law") lawScope L fa cd)) Q E s := by
    revert X TT; w_top off; k_fill; intro X TT
    refine (show wpAny _ _ (exec (Stmt.Assign _ _ _) _) _ _ _ from ?_)
    k_steps
    all_goals (
      rename Fr _ _ _ _ => F9; rename News _ _ _ _ => N9
      refine hQ _ _ _ ?_ F9 (fun p hp => N9 p (by repeat (first | exact hp | apply List.Mem.tail)))
      first | exact and_yes (by assumption) | exact and_no (by assumption))
theorem law_six {w : World} {dp un : Nat} {fr : Option (List Env)} {gd : Option (List Code)} {s : Shared} {E : Value → Shared → Prop} {Q : Flow → Shared → Prop} {mean : ExcName → Option Value} {mg mb : Str → Option Value} {h₀ : Heap} {L fa S : Addr} {cd : Value} {m : Str → Option Value} {nS : Nat} {rest : List (Addr × Obj)} {b0 b1 b2 b3 b4 b5 b6 b7 b8 b9 b10 b11 : Bool}
  (X : (hd.heap_39 w.params).In h₀) (TT : Top hd.view_39 (looseW hd.view_39 []) mean mg mb h₀) (hu : un + 200 < cLine)
  (F : Fr h₀ L s.heap m) (N : News h₀ L s.heap ((S, lobj [.bool b0, .bool b1, .bool b2, .bool b3, .bool b4, .bool b5, .bool b6, .bool b7, .bool b8, .bool b9, .bool b10, .bool b11] nS) :: rest)) (hs : m (Str.ofString "same") = some (.ref S))
  (hQ : ∀ h' tk v, v = sixA b2 b3 b4 b5 → Fr h₀ L h' (fun y => if y = Str.ofString "six" then some (.bool v) else m y) → News h₀ L h' ((S, lobj [.bool b0, .bool b1, .bool b2, .bool b3, .bool b4, .bool b5, .bool b6, .bool b7, .bool b8, .bool b9, .bool b10, .bool b11] nS) :: rest) → Q .next { s with heap := h', toks := tk }) :
  wpAny (model PySem.Challenge.rw_wb0004_01.row.prog w) ({ handled := none, depth := dp, frames := fr, guards := gd, units := un } : Around) (exec (lawSt 10) (envOfC (Str.ofString "law") lawScope L fa cd)) Q E s := by
    revert X TT; w_top off; k_fill; intro X TT
    refine (show wpAny _ _ (exec (Stmt.Assign _ _ _) _) _ _ _ from ?_)
    k_steps
    all_goals (
      rename Fr _ _ _ _ => F9; rename News _ _ _ _ => N9
      refine hQ _ _ _ ?_ F9 (fun p hp => N9 p (by repeat (first | exact hp | apply List.Mem.tail)))
      first | exact and_yes (by assumption) | exact and_no (by assumption))
theorem law_six2 {w : World} {dp un : Nat} {fr : Option (List Env)} {gd : Option (List Code)} {s : Shared} {E : Value → Shared → Prop} {Q : Flow → Shared → Prop} {mean : ExcName → Option Value} {mg mb : Str → Option Value} {h₀ : Heap} {L fa S : Addr} {cd : Value} {m : Str → Option Value} {nS : Nat} {rest : List (Addr × Obj)} {b0 b1 b2 b3 b4 b5 b6 b7 b8 b9 b10 b11 v0 : Bool}
  (X : (hd.heap_39 w.params).In h₀) (TT : Top hd.view_39 (looseW hd.view_39 []) mean mg mb h₀) (hu : un + 200 < cLine)
  (F : Fr h₀ L s.heap m) (N : News h₀ L s.heap ((S, lobj [.bool b0, .bool b1, .bool b2, .bool b3, .bool b4, .bool b5, .bool b6, .bool b7, .bool b8, .bool b9, .bool b10, .bool b11] nS) :: rest)) (hs : m (Str.ofString "same") = some (.ref S)) (h6 : m (Str.ofString "six") = some (.bool v0))
  (hQ : ∀ h' tk m', m' (Str.ofString "six") = some (.bool (if b1 = true then v0 else sixC b2 b3 b4 b5)) → (∀ y, y ≠ Str.ofString "six" → m' y = m y) → Fr h₀ L h' m' → News h₀ L h' ((S, lobj [.bool b0, .bool b1, .bool b2, .bool b3, .bool b4, .bool b5, .bool b6, .bool b7, .bool b8, .bool b9, .bool b10, .bool b11] nS) :: rest) → Q .next { s with heap := h', toks := tk }) :
  wpAny (model PySem.Challenge.rw_wb0004_01.row.prog w) ({ handled := none, depth := dp, frames := fr, guards := gd, units := un } : Around) (exec (lawSt 11) (envOfC (Str.ofString "law") lawScope L fa cd)) Q E s := by
    revert X TT; w_top off; k_fill; intro X TT
    refine (show wpAny _ _ (exec (Stmt.If _ _ _ _) _) _ _ _ from ?_)
    k_steps
    all_goals (rename Fr _ _ _ _ => F9; rename News _ _ _ _ => N9)
    · exact hQ _ _ m (by rw [if_pos (by assumption)]; exact h6) (fun _ _ => rfl) F9 N9
    all_goals (
      have hb : ¬ (b1 = true) := by first | exact Bool.eq_false_iff.mp (by with_reducible assumption) | with_reducible assumption
      refine hQ _ _ _ (congrArg (fun b => some (Value.bool b)) ?_) (fun y hy => if_neg hy) F9 (fun p hp => N9 p (by repeat (first | exact hp | apply List.Mem.tail)))
      rw [if_neg hb]
      first | exact and_yes (by assumption) | exact and_no (by assumption))
end

end
-- part Two
section
abbrev twoE (elt t1 it1 t2 it2 : Expr) (ifs : List Expr) (scope : Scope) (pos : Pos) : Expr := .ListComp elt [⟨t1, it1, [], 0⟩, ⟨t2, it2, ifs, 0⟩] scope pos

theorem compTurn_two0 (elt t1 it1 t2 it2 : Expr) (ifs : List Expr) (scope : Scope) (pos : Pos) (it acc : Value) (env : Env) : compTurn (twoE elt t1 it1 t2 it2 ifs scope pos) 0 it acc env = (do
    standAt it1.pos
    match ← pyNext it with
    | none => pure (.done .next)
    | some v =>
      letOwnedTupleGo t1 it v
      assign t1 env v
      let x ← eval it2 env
      standAt it2.pos
      let x ← foldedSetIterable it2 env x
      let _ ← runOwn (.compStart (twoE elt t1 it1 t2 it2 ifs scope pos) 1 (← holding [x] (pyIter x)) acc env) env
      again (.compLoop (twoE elt t1 it1 t2 it2 ifs scope pos) 0 it acc env)) := by rfl
theorem compTurn_two1 (elt t1 it1 t2 it2 : Expr) (ifs : List Expr) (scope : Scope) (pos : Pos) (it acc : Value) (env : Env) : compTurn (twoE elt t1 it1 t2 it2 ifs scope pos) 1 it acc env = (do
    standAt it2.pos
    match ← pyNext it with
    | none => pure (.done .next)
    | some v =>
      letOwnedTupleGo t2 it v
      assign t2 env v
      let mut ok := true
      for c in ifs do
        if ok then ok ← isTrue c env (eval c env)
      if ok then
        (do let _ ← call (.builtin "list.append") [acc, ← eval elt env])
      again (.compLoop (twoE elt t1 it1 t2 it2 ifs scope pos) 1 it acc env)) := by rfl

section
variable {prog : Program} {w : World} {A : Around} {E : Value → Shared → Prop} {R : Result → Shared → Prop} {s : Shared}

theorem codeAny_two1 {elt t1 it1 t2 it2 : Expr} {ifs : List Expr} {scope : Scope} {pos : Pos} {it acc : Value} {env : Env} (I : Nat → Shared → Prop)
    (turn : ∀ n s, I n s → wpAny (model prog w) A (pyNext it) (fun r s₁ => match r with
      | none => R (.ok .next) s₁
      | some v => wpAny (model prog w) A (assign t2 env v) (fun _ s₂ =>
          wpAny (model prog w) A (forIn ifs true fun c r => if r = true then do let ok ← isTrue c env (eval c env); pure (ForInStep.yield ok) else pure (ForInStep.yield r)) (fun ok s₃ =>
            if ok = true then wpAny (model prog w) A (eval elt env) (fun x s₄ =>
              wpAny (model prog w) A (call (.builtin "list.append") [acc, x]) (fun _ s₅ => ∃ m, m < n ∧ I m s₅) (notedBy (model prog w) A env fun e s' => R (.error e) s') s₄) (notedBy (model prog w) A env fun e s' => R (.error e) s') s₃
            else ∃ m, m < n ∧ I m s₃) (notedBy (model prog w) A env fun e s' => R (.error e) s') s₂) (notedBy (model prog w) A env fun e s' => R (.error e) s') s₁) (notedBy (model prog w) A env fun e s' => R (.error e) s') s)
    (n : Nat) (h : I n s) (ht : ∀ v, letOwnedTupleGo t2 it v = pure () := by intro _; rfl) :
    codeAny (model prog w) A (.compLoop (twoE elt t1 it1 t2 it2 ifs scope pos) 1 it acc env) R s := by
  refine codeAny_loop rfl I (fun n s hI => ?_) n h
  show wpAny _ A ((compTurn (twoE elt t1 it1 t2 it2 ifs scope pos) 1 it acc env).onRaise (fun x => do noteFrame x env; theTreesLotGoes x)) _ _ s
  refine wpAny_noted ?_
  rw [compTurn_two1]
  refine wpAny_bind (wpAny_standAt (wpAny_bind (wpAny_mono (turn n s hI) (fun r s₁ h₁ => ?_) fun _ _ h' => h')))
  cases r with
  | none => exact wpAny_pure h₁
  | some v =>
    refine wpAny_bind (wpAny_of_eq (ht v) ?_)
    refine wpAny_bind (wpAny_mono h₁ (fun _ s₂ h₂ => wpAny_bind (wpAny_mono h₂ (fun ok s₃ h₃ => ?_) fun _ _ h' => h')) fun _ _ h' => h')
    cases ok with
    | false => exact wpAny_pure ⟨rfl, h₃⟩
    | true =>
      exact wpAny_bind (wpAny_bind (wpAny_mono h₃ (fun x s₄ h₄ => wpAny_bind (wpAny_mono h₄ (fun _ s₅ h₅ => wpAny_pure (wpAny_pure ⟨rfl, h₅⟩)) fun _ _ h' => h')) fun _ _ h' => h'))

theorem codeAny_two0 {elt t1 it1 t2 it2 : Expr} {ifs : List Expr} {scope : Scope} {pos : Pos} {it acc : Value} {env : Env} (I : Nat → Shared → Prop)
    (turn : ∀ n s (E' : Value → Shared → Prop), I n s → wpAny (model prog w) A (pyNext it) (fun r s₁ => match r with
      | none => R (.ok .next) s₁
      | some v => wpAny (model prog w) A (assign t1 env v) (fun _ s₂ =>
          wpAny (model prog w) A (eval it2 env) (fun x s₃ => wpAny (model prog w) A (pyIter x) (fun jt s₄ =>
            codeAny (model prog w) A (.compStart (twoE elt t1 it1 t2 it2 ifs scope pos) 1 jt acc env) (fun r s₅ => match r with | .ok _ => ∃ m, m < n ∧ I m s₅ | .error e => cameBackBy (model prog w) A env E' e s₅) s₄) E' s₃) E' s₂) E' s₁) E' s)
    (n : Nat) (h : I n s) (hs : ∀ x, foldedSetIterable it2 env x = pure x := by intro _; rfl) (ht : ∀ v, letOwnedTupleGo t1 it v = pure () := by intro _; rfl) :
    codeAny (model prog w) A (.compLoop (twoE elt t1 it1 t2 it2 ifs scope pos) 0 it acc env) R s := by
  refine codeAny_loop rfl I (fun n s hI => ?_) n h
  show wpAny _ A ((compTurn (twoE elt t1 it1 t2 it2 ifs scope pos) 0 it acc env).onRaise (fun x => do noteFrame x env; theTreesLotGoes x)) _ _ s
  refine wpAny_noted ?_
  rw [compTurn_two0]
  refine wpAny_bind (wpAny_standAt (wpAny_bind (wpAny_mono (turn n s _ hI) (fun r s₁ h₁ => ?_) fun _ _ h' => h')))
  cases r with
  | none => exact wpAny_pure h₁
  | some v =>
    refine wpAny_bind (wpAny_of_eq (ht v) ?_)
    refine wpAny_bind (wpAny_mono h₁ (fun _ s₂ h₂ => wpAny_bind (wpAny_mono h₂ (fun x s₃ h₃ => ?_) fun _ _ h' => h')) fun _ _ h' => h')
    refine wpAny_bind (wpAny_standAt (wpAny_bind (wpAny_of_eq (hs x) (wpAny_bind (wpAny_holding (wpAny_mono h₃ (fun jt s₄ h₄ => ?_) fun _ _ h' => h'))))))
    exact wpAny_bind (wpAny_runOwn (codeAny_mono h₄ fun r s₅ h₅ => by cases r with | ok f => exact wpAny_pure ⟨rfl, h₅⟩ | error e => exact h₅))

theorem codeAny_start1 {elt t1 it1 t2 it2 ifs scope pos it acc env}
    (h0 : codeAny (model prog w) A (.compLoop (twoE elt t1 it1 t2 it2 ifs scope pos) 1 it acc env) R s)
    (h : wpAny (model prog w) A (pyIter it) (fun it' s' => codeAny (model prog w) A (.compLoop (twoE elt t1 it1 t2 it2 ifs scope pos) 1 it' acc env) R s')
      (notedBy (model prog w) A env fun x s' => R (.error x) s') s) :
    codeAny (model prog w) A (.compStart (twoE elt t1 it1 t2 it2 ifs scope pos) 1 it acc env) R s := by
  refine codeAny_of_tree ?_
  show wpAny _ _ ((compStart (twoE elt t1 it1 t2 it2 ifs scope pos) 1 it acc env).onRaise (fun x => do noteFrame x env; standAt theWindowsPlace)) _ _ s
  refine wpAny_notedAt ?_
  unfold compStart
  show wpAny _ _ (ask >>= _) _ _ s
  refine wpAny_bind (wpAny_askSetting (wpAny_ite ?_))
  split
  · first
      | exact wpAny_bind (wpAny_pure (wpAny_pure (And.intro rfl h0)))
      | exact wpAny_pure (And.intro rfl h0)
  · first
      | exact wpAny_bind (wpAny_rule (wpAny_bind (wpAny_standAt (wpAny_bind (wpAny_mono h (fun it' s' h' => wpAny_pure (And.intro rfl h')) fun _ _ x => x)))))
      | (refine wpAny_bind (wpAny_rule ?_); show wpAny _ _ (standAt it2.pos >>= _) _ _ s; exact wpAny_bind (wpAny_standAt (wpAny_bind (wpAny_mono h (fun it' s' h' => wpAny_pure (And.intro rfl h')) fun _ _ x => x))))
end

section
variable {prog : Program} {w : World} {A : Around} {s : Shared} {env cenv : Env} {h₀ : Heap} {E : Value → Shared → Prop} {R : Result → Shared → Prop}

/-- what a turn of the inner clause reaches, before the append -/
def InTurn (g : Heap) (C D I : Addr) (oI : Obj) (oD : Obj) (J : (Str → Option Value) → List (Addr × Obj) → Prop) (s : Shared) (s₄ : Shared) : Prop :=
  ∃ h' tk mC' led', s₄ = { s with heap := h', toks := tk } ∧ Fr g C h' mC' ∧ News g C h' ((D, oD) :: (I, oI) :: led') ∧ (∀ p ∈ led', p.1 ≠ I ∧ p.1 ≠ D) ∧ J mC' led'

theorem inner_core {elt t1 it1 t2 it2 : Expr} {ifs : List Expr} {scope : Scope} {pos : Pos} {g : Heap} {C D I : Addr} {oI : Obj} {n : Nat} {P : Nat → Value → Prop} {St : Nat → Obj → Prop} {Sh : Heap → Prop}
    {mC : Str → Option Value} {led : List (Addr × Obj)} {ys : List Value} {nD : Nat}
    (S : Src prog w A I n P St Sh) (F : Fr g C s.heap mC) (N : News g C s.heap ((D, lobj ys nD) :: (I, oI) :: led)) (hap : ∀ p ∈ led, p.1 ≠ I ∧ p.1 ≠ D) (hDI : D ≠ I) (hst : St 0 oI)
    (J : Nat → (Str → Option Value) → List Value → List (Addr × Obj) → Prop) (h0 : J 0 mC ys led) (hB : ∀ i mC ys led, J i mC ys led → ys.length ≤ sizeLine)
    (hSh : ∀ i h mC ys led, J i mC ys led → Fr g C h mC → News g C h led → Sh h)
    (step : ∀ i v ys nD led h mC tk E' oI', i < n → P i v → J i mC ys led → Fr g C h mC → News g C h ((D, lobj ys nD) :: (I, oI') :: led) → (∀ p ∈ led, p.1 ≠ I ∧ p.1 ≠ D) →
      wpAny (model prog w) A (assign t2 cenv v) (fun _ s₂ =>
        wpAny (model prog w) A (forIn ifs true fun c r => if r = true then do let ok ← isTrue c cenv (eval c cenv); pure (ForInStep.yield ok) else pure (ForInStep.yield r)) (fun ok s₃ =>
          if ok = true then wpAny (model prog w) A (eval elt cenv) (fun y s₄ => InTurn g C D I oI' (lobj ys nD) (fun mC' led' => J (i + 1) mC' (ys ++ [y]) led') s s₄) E' s₃
          else InTurn g C D I oI' (lobj ys nD) (fun mC' led' => J (i + 1) mC' ys led') s s₃) E' s₂) E' { s with heap := h, toks := tk })
    (hfin : ∀ h' tk mC ys nD led, Fr g C h' mC → News g C h' ((D, lobj ys nD) :: led) → (∀ p ∈ led, p.1 ≠ D) → J n mC ys led → R (.ok .next) { s with heap := h', toks := tk })
    (ht : ∀ it v, letOwnedTupleGo t2 it v = pure () := by intro _ _; rfl) :
    codeAny (model prog w) A (.compStart (twoE elt t1 it1 t2 it2 ifs scope pos) 1 (.ref I) (.ref D) cenv) R s := by
  have DC : D ≠ C := (N _ (.head _)).2.1
  have loop : codeAny (model prog w) A (.compLoop (twoE elt t1 it1 t2 it2 ifs scope pos) 1 (.ref I) (.ref D) cenv) R s := by
    refine codeAny_two1
      (fun k s' => ∃ h' tk mC ys nD led i oI', s' = { s with heap := h', toks := tk } ∧ St i oI' ∧ Fr g C h' mC ∧ News g C h' ((D, lobj ys nD) :: (I, oI') :: led) ∧ (∀ p ∈ led, p.1 ≠ I ∧ p.1 ≠ D) ∧ J i mC ys led ∧ i ≤ n ∧ k = n + 1 - i) ?_ (n + 1)
      ⟨s.heap, s.toks, _, ys, nD, _, 0, oI, rfl, hst, F, N, hap, h0, Nat.zero_le _, rfl⟩ (ht _)
    clear F N hap h0 hst
    rintro k s' ⟨h', tk, mC, ys, nD, led, i, oI', rfl, hst', F', N', ap', hJ, hi, rfl⟩
    have hgI : g.get? I = none := (N' _ (.tail _ (.head _))).2.2
    have hCI : C ≠ I := fun e => (N' (I, oI') (.tail _ (.head _))).2.1 e.symm
    have hsh := hSh i h' mC ys led hJ F' fun p hp => N' p (.tail _ (.tail _ hp))
    by_cases hlt : i < n
    · refine S.item i _ _ _ oI' hlt (N' _ (.tail _ (.head _))).1 hst' hsh fun v h₁ tk₁ oI₁ hP hoI₁ hst₁ hs₁ => ?_
      have F₁ := fr_off F' hs₁ hCI hgI
      have N₁ : News g C h₁ ((D, lobj ys nD) :: (I, oI₁) :: led) := by
        intro p hp
        rcases List.mem_cons.mp hp with rfl | hp
        · exact ⟨hs₁ _ _ hDI (N' _ (.head _)).1, (N' _ (.head _)).2⟩
        · rcases List.mem_cons.mp hp with rfl | hp
          · exact ⟨hoI₁, Ne.symm hCI, hgI⟩
          · exact ⟨hs₁ _ _ (ap' p hp).1 (N' p (.tail _ (.tail _ hp))).1, (N' p (.tail _ (.tail _ hp))).2⟩
      refine wpAny_mono (step i v ys nD led h₁ mC tk₁ _ oI₁ hlt hP hJ F₁ N₁ ap') (fun _ s₂ h₂ => wpAny_mono h₂ (fun ok s₃ h₃ => ?_) fun _ _ e => e) fun _ _ e => e
      cases ok with
      | false =>
        simp only [Bool.false_eq_true, if_false] at h₃ ⊢
        obtain ⟨h₃', tk₃, mC₃, led₃, rfl, F₃, N₃, ap₃, hJ₃⟩ := h₃
        exact ⟨n + 1 - (i + 1), by omega, h₃', tk₃, mC₃, ys, nD, led₃, i + 1, oI₁, rfl, hst₁, F₃, N₃, ap₃, hJ₃, hlt, rfl⟩
      | true =>
        simp only [if_true] at h₃ ⊢
        refine wpAny_mono h₃ (fun y s₄ h₄ => ?_) fun _ _ e => e
        obtain ⟨h₄', tk₄, mC₄, led₄, rfl, F₄, N₄, ap₄, hJ₄⟩ := h₄
        refine wpAny_list_append_plain (hsz := by rw [List.size_toArray]; exact hB _ _ _ _ hJ) ⟨nD, (N₄ _ (.head _)).1⟩ fun h₅ hl₅ hs₅ => ?_
        obtain ⟨nD', hl₅⟩ := hl₅
        have hgD : g.get? D = none := (N₄ _ (.head _)).2.2
        have hl₅' : h₅.get? D = some (lobj (ys ++ [y]) nD') := by rw [hl₅]; simp [lobj]
        refine ⟨n + 1 - (i + 1), by omega, h₅, tk₄, mC₄, ys ++ [y], nD', led₄, i + 1, oI₁, rfl, hst₁, fr_off F₄ hs₅.extBut (Ne.symm DC) hgD, ?_, ap₄, hJ₄, hlt, rfl⟩
        intro p hp
        rcases List.mem_cons.mp hp with rfl | hp
        · exact ⟨hl₅', DC, hgD⟩
        · rcases List.mem_cons.mp hp with rfl | hp
          · exact ⟨hs₅.extBut _ _ (Ne.symm hDI) (N₄ _ (.tail _ (.head _))).1, (N₄ _ (.tail _ (.head _))).2⟩
          · exact ⟨hs₅.extBut _ _ (ap₄ p hp).2 (N₄ p (.tail _ (.tail _ hp))).1, (N₄ p (.tail _ (.tail _ hp))).2⟩
    · have hin : i = n := by omega
      subst hin
      refine S.done _ _ _ oI' (N' _ (.tail _ (.head _))).1 hst' hsh fun h₁ tk₁ hs₁ => ?_
      refine hfin h₁ tk₁ mC ys nD led (fr_off F' hs₁ hCI hgI) ?_ (fun p hp => (ap' p hp).2) hJ
      intro p hp
      rcases List.mem_cons.mp hp with rfl | hp
      · exact ⟨hs₁ _ _ hDI (N' _ (.head _)).1, (N' _ (.head _)).2⟩
      · exact ⟨hs₁ _ _ (ap' p hp).1 (N' p (.tail _ (.tail _ hp))).1, (N' p (.tail _ (.tail _ hp))).2⟩
  exact codeAny_start1 loop (S.self 0 _ _ _ oI (N _ (.tail _ (.head _))).1 hst loop)

/-- what the outer clause's turn reaches -/
def TwoTurn (g : Heap) (C D I : Addr) (oI : Obj) (J : List Value → List (Addr × Obj) → Prop) (s : Shared) (s₄ : Shared) : Prop :=
  ∃ h' tk mC' led' ys' nD', s₄ = { s with heap := h', toks := tk } ∧ Fr g C h' mC' ∧ News g C h' ((D, lobj ys' nD') :: (I, oI) :: led') ∧ (∀ p ∈ led', p.1 ≠ I ∧ p.1 ≠ D) ∧ J ys' led'

theorem two_core {elt t1 it1 t2 it2 : Expr} {ifs : List Expr} {scope : Scope} {pos : Pos} {cl : List (Str × Addr)} {I : Addr} {oI : Obj} {n : Nat} {P : Nat → Value → Prop} {St : Nat → Obj → Prop} {Sh : Heap → Prop}
    {m : Str → Option Value} {news : List (Addr × Obj)} {RR : Value → Addr → Result → Shared → Prop}
    (S : Src prog w A I n P St Sh) (F : Fr h₀ env.locals s.heap m) (N : News h₀ env.locals s.heap ((I, oI) :: news)) (hap : ∀ p ∈ news, p.1 ≠ I) (hst : St 0 oI)
    (J : Addr → Nat → List Value → List (Addr × Obj) → Prop)
    (h0 : ∀ C, (∀ p ∈ news, p.1 < C) → J C 0 [] (ledCells (C + 1) scope.names ++ news))
    (hSh : ∀ i C g h mC ys led, CompGround h₀ env.locals m g → J C i ys led → Fr g C h mC → News g C h led → Sh h)
    (step : ∀ i v ys nD led h mC tk E' g C D oI', CompGround h₀ env.locals m g → i < n → P i v → J C i ys led → Fr g C h mC → News g C h ((D, lobj ys nD) :: (I, oI') :: led) →
      (∀ p ∈ led, p.1 ≠ I ∧ p.1 ≠ D) → D ≠ I →
      wpAny (model prog w) A (assign t1 (compEnvC scope (cellsFrom (C + 1) scope.names cl) C env) v) (fun _ s₂ =>
        wpAny (model prog w) A (eval it2 (compEnvC scope (cellsFrom (C + 1) scope.names cl) C env)) (fun x s₃ => wpAny (model prog w) A (pyIter x) (fun jt s₄ =>
          codeAny (model prog w) A (.compStart (twoE elt t1 it1 t2 it2 ifs scope pos) 1 jt (.ref D) (compEnvC scope (cellsFrom (C + 1) scope.names cl) C env)) (fun r s₅ => match r with
            | .ok _ => TwoTurn g C D I oI' (J C (i + 1)) s s₅ | .error e => cameBackBy (model prog w) A (compEnvC scope (cellsFrom (C + 1) scope.names cl) C env) E' e s₅) s₄) E' s₃) E' s₂) E' { s with heap := h, toks := tk })
    (hfin : ∀ h' tk mC ys nD led g C D, CompGround h₀ env.locals m g → Fr g C h' mC → News g C h' ((D, lobj ys nD) :: led) → (∀ p ∈ led, p.1 ≠ D) → D ≠ env.locals → C ≠ env.locals → D ≠ C → J C n ys led →
      RR (.ref D) C (.ok .next) { s with heap := h', toks := tk })
    (hs2 : ∀ env x, foldedSetIterable it2 env x = pure x := by intro _ _; rfl)
    (ht : ∀ it v, letOwnedTupleGo t1 it v = pure () := by intro _ _; rfl) :
    wpAny (model prog w) A (newList []) (fun acc s₃ => wpAny (model prog w) A (newFunctionEnv scope env.globals cl [] env.qual none .none (some env)) (fun cenv s₄ =>
      codeAny (model prog w) A (.compStart (twoE elt t1 it1 t2 it2 ifs scope pos) 0 (.ref I) acc { cenv with scope := relabel scope env }) (RR acc cenv.locals) s₄) E s₃) E s := by
  refine wpAny_newObj_type (wpAny_compEnv ?_)
  dsimp only
  generalize hD : s.heap.objs.size = D
  have hC : (s.heap.push (lobj [] 0)).objs.size = D + 1 := by rw [Heap.size_push, hD]
  show codeAny _ _ (.compStart _ 0 (.ref I) (.ref D) (compEnvC scope (cellsFrom ((s.heap.push (lobj [] 0)).objs.size + 1) scope.names cl) (s.heap.push (lobj [] 0)).objs.size env)) (RR (.ref D) (s.heap.push (lobj [] 0)).objs.size) { s with heap := pushCells ((s.heap.push (lobj [] 0)).push { cls := .type "dict", data := .dict #[] }) scope.names }
  rw [hC]
  let hid : List Addr := I :: news.map (·.1)
  have hDfree : s.heap.get? D = none := by
    cases e : s.heap.get? D with
    | none => rfl
    | some o => exact absurd (Heap.lt_size e) (by rw [hD]; exact Nat.lt_irrefl _)
  have hidlt : ∀ b ∈ hid, b < D := fun b hb => by
    rw [← hD]
    rcases List.mem_cons.mp hb with rfl | hb
    · exact Heap.lt_size (N _ (.head _)).1
    · obtain ⟨p, hp, rfl⟩ := List.mem_map.mp hb
      exact Heap.lt_size (N p (.tail _ hp)).1
  have hid0 : ∀ b o, h₀.get? b = some o → b ∉ hid := fun b o e hb => by
    rcases List.mem_cons.mp hb with rfl | hb
    · rw [(N _ (.head _)).2.2] at e; cases e
    · obtain ⟨p, hp, rfl⟩ := List.mem_map.mp hb
      rw [(N p (.tail _ hp)).2.2] at e; cases e
  have hidL : env.locals ∉ hid := fun hb => by
    rcases List.mem_cons.mp hb with e | hb
    · exact (N _ (.head _)).2.1 e.symm
    · obtain ⟨p, hp, e⟩ := List.mem_map.mp hb
      exact (N p (.tail _ hp)).2.1 e
  obtain ⟨oL, es, ep, hL, hLd, hLk, hLf⟩ := id F.ns
  have hLg : (hideAll s.heap hid).get? env.locals = some oL := hideAll_get hid hL hidL
  have G : CompGround h₀ env.locals m (hideAll s.heap hid) := by
    refine ⟨fun b o e => hideAll_get hid (F.keep b o e) (hid0 b o e), fun h' hk => ⟨⟨oL, es, ep, hk _ _ hLg, hLd, hLk, hLf⟩, fun b o e => hk b o (hideAll_get hid (F.keep b o e) (hid0 b o e)), F.above⟩, fun b hb => ⟨?_, ?_⟩⟩
    · cases q : h₀.get? b with
      | none => rfl
      | some o => rw [hideAll_get hid (F.keep b o q) (hid0 b o q)] at hb; cases hb
    · rintro rfl; rw [hLg] at hb; cases hb
  have LD : env.locals ≠ D := fun q => by rw [q, hDfree] at hL; cases hL
  have LC : env.locals ≠ D + 1 := fun q => by have := Heap.lt_size hL; rw [hD, q] at this; exact absurd this (Nat.not_lt.mpr (Nat.le_succ D))
  generalize hH : pushCells ((s.heap.push (lobj [] 0)).push { cls := .type "dict", data := .dict #[] }) scope.names = H
  have up : ∀ b o, s.heap.get? b = some o → H.get? b = some o := fun b o e => hH ▸ pushCells_keeps _ _ _ _ (Heap.get?_push_of_some _ (Heap.get?_push_of_some _ e))
  have hDobj : H.get? D = some (lobj [] 0) := by
    rw [← hH, ← hD]; exact pushCells_keeps _ _ _ _ (Heap.get?_push_of_some _ (Heap.get?_push_size _ rfl))
  have hns : H.Ns (D + 1) (fun _ => none) := by
    rw [← hH, ← hC]
    exact (Heap.Ns.new (s.heap.push (lobj [] 0)) (.type "dict")).keeps (pushCells_keeps _ _)
  have FC : Fr (hideAll s.heap hid) (D + 1) H (fun _ => none) := ⟨hns, fun b o e => up b o (of_hideAll _ e), by rw [hideAll_size, hD]; exact Nat.le_succ _⟩
  have gnone : ∀ b, D ≤ b → (hideAll s.heap hid).get? b = none := fun b hb => by
    cases q : (hideAll s.heap hid).get? b with
    | none => rfl
    | some o => have := Heap.lt_size (of_hideAll _ q); rw [hD] at this; exact absurd hb (Nat.not_le.mpr this)
  have hIlt : I < D := hidlt I (.head _)
  have NC : News (hideAll s.heap hid) (D + 1) H ((D, lobj [] 0) :: (I, oI) :: (ledCells (D + 1 + 1) scope.names ++ news)) := by
    intro p hp
    rcases List.mem_cons.mp hp with rfl | hp
    · exact ⟨hDobj, Nat.ne_of_lt (Nat.lt_succ_self _), gnone _ (Nat.le_refl _)⟩
    · rcases List.mem_cons.mp hp with rfl | hp
      · exact ⟨up _ _ (N _ (.head _)).1, Nat.ne_of_lt (Nat.lt_succ_of_lt hIlt), hideAll_none _ (.head _)⟩
      · rcases List.mem_append.mp hp with hp | hp
        · have := ledCells_ok scope.names ((s.heap.push (lobj [] 0)).push { cls := .type "dict", data := .dict #[] }) p (by rw [Heap.size_push, hC]; exact hp)
          rw [Heap.size_push, hC] at this
          exact ⟨hH ▸ this.1, Nat.ne_of_gt this.2, gnone _ (Nat.le_trans (Nat.le_add_right D 2) this.2)⟩
        · exact ⟨up _ _ (N p (.tail _ hp)).1, Nat.ne_of_lt (Nat.lt_succ_of_lt (hidlt _ (.tail _ (List.mem_map_of_mem hp)))), hideAll_none _ (.tail _ (List.mem_map_of_mem hp))⟩
  have apart : ∀ p ∈ ledCells (D + 1 + 1) scope.names ++ news, p.1 ≠ I ∧ p.1 ≠ D := fun p hp => by
    rcases List.mem_append.mp hp with hp | hp
    · have := (ledCells_ok scope.names ((s.heap.push (lobj [] 0)).push { cls := .type "dict", data := .dict #[] }) p (by rw [Heap.size_push, hC]; exact hp)).2
      rw [Heap.size_push, hC] at this
      exact ⟨Nat.ne_of_gt (Nat.lt_of_lt_of_le hIlt (Nat.le_trans (Nat.le_add_right D 2) this)), Nat.ne_of_gt (Nat.le_of_succ_le this)⟩
    · exact ⟨hap p hp, Nat.ne_of_lt (hidlt _ (.tail _ (List.mem_map_of_mem hp)))⟩
  have hID : D ≠ I := Nat.ne_of_gt hIlt
  have hNC : ∀ p ∈ news, p.1 < D + 1 := fun p hp => Nat.lt_succ_of_lt (hidlt _ (.tail _ (List.mem_map_of_mem hp)))
  generalize hideAll s.heap hid = g at G FC NC
  generalize D + 1 = C at FC NC apart LC hNC
  have DC : D ≠ C := (NC _ (.head _)).2.1
  have loop : ∀ s₃ : Shared, s₃ = { s with heap := H } →
      codeAny (model prog w) A (.compLoop (twoE elt t1 it1 t2 it2 ifs scope pos) 0 (.ref I) (.ref D) (compEnvC scope (cellsFrom (C + 1) scope.names cl) C env)) (RR (.ref D) C) s₃ := by
    rintro s₃ rfl
    refine codeAny_two0
      (fun k s' => ∃ h' tk mC ys nD led i oI', s' = { s with heap := h', toks := tk } ∧ St i oI' ∧ Fr g C h' mC ∧ News g C h' ((D, lobj ys nD) :: (I, oI') :: led) ∧ (∀ p ∈ led, p.1 ≠ I ∧ p.1 ≠ D) ∧ J C i ys led ∧ i ≤ n ∧ k = n + 1 - i) ?_ (n + 1)
      ⟨H, s.toks, _, [], 0, _, 0, oI, rfl, hst, FC, NC, apart, h0 C hNC, Nat.zero_le _, rfl⟩ (hs2 _) (ht _)
    rintro k s' E' ⟨h', tk, mC, ys, nD, led, i, oI', rfl, hst', F', N', ap', hJ, hi, rfl⟩
    have hgI : g.get? I = none := (NC _ (.tail _ (.head _))).2.2
    have hCI : C ≠ I := fun e => (NC (I, oI) (.tail _ (.head _))).2.1 e.symm
    have hsh := hSh i C g h' mC ys led G hJ F' fun p hp => N' p (.tail _ (.tail _ hp))
    by_cases hlt : i < n
    · refine S.item i _ _ _ oI' hlt (N' _ (.tail _ (.head _))).1 hst' hsh fun v h₁ tk₁ oI₁ hP hoI₁ hst₁ hs₁ => ?_
      have F₁ := fr_off F' hs₁ hCI hgI
      have N₁ : News g C h₁ ((D, lobj ys nD) :: (I, oI₁) :: led) := by
        intro p hp
        rcases List.mem_cons.mp hp with rfl | hp
        · exact ⟨hs₁ _ _ hID (N' _ (.head _)).1, (N' _ (.head _)).2⟩
        · rcases List.mem_cons.mp hp with rfl | hp
          · exact ⟨hoI₁, Ne.symm hCI, hgI⟩
          · exact ⟨hs₁ _ _ (ap' p hp).1 (N' p (.tail _ (.tail _ hp))).1, (N' p (.tail _ (.tail _ hp))).2⟩
      refine wpAny_mono (step i v ys nD led h₁ mC tk₁ _ g C D oI₁ G hlt hP hJ F₁ N₁ ap' hID) (fun _ s₂ h₂ => wpAny_mono h₂ (fun x s₃ h₃ => wpAny_mono h₃ (fun jt s₄ h₄ => codeAny_mono h₄ fun r s₅ h₅ => ?_) fun _ _ e => e) fun _ _ e => e) fun _ _ e => e
      cases r with
      | error e => exact h₅
      | ok f =>
        obtain ⟨h₃', tk₃, mC₃, led₃, ys₃, nD₃, rfl, F₃, N₃, ap₃, hJ₃⟩ := h₅
        exact ⟨n + 1 - (i + 1), by omega, h₃', tk₃, mC₃, ys₃, nD₃, led₃, i + 1, oI₁, rfl, hst₁, F₃, N₃, ap₃, hJ₃, hlt, rfl⟩
    · have hin : i = n := by omega
      subst hin
      refine S.done _ _ _ oI' (N' _ (.tail _ (.head _))).1 hst' hsh fun h₁ tk₁ hs₁ => ?_
      refine hfin h₁ tk₁ mC ys nD led g C D G (fr_off F' hs₁ hCI hgI) ?_ (fun p hp => (ap' p hp).2) (Ne.symm LD) (Ne.symm LC) DC hJ
      intro p hp
      rcases List.mem_cons.mp hp with rfl | hp
      · exact ⟨hs₁ _ _ hID (N' _ (.head _)).1, (N' _ (.head _)).2⟩
      · exact ⟨hs₁ _ _ (ap' p hp).1 (N' p (.tail _ (.tail _ hp))).1, (N' p (.tail _ (.tail _ hp))).2⟩
  exact codeAny_compStart_list (loop _ rfl) (S.self 0 _ _ _ oI (NC _ (.tail _ (.head _))).1 hst (loop _ rfl))

theorem eval_two {elt t1 it1 t2 it2 : Expr} {ifs : List Expr} {scope : Scope} {pos : Pos} {cl : List (Str × Addr)} {Q : Value → Shared → Prop}
    (hclos : closureFor scope env = pure cl) (hkind : scope.kind = .function) (hnames : ∀ x ∈ scope.names, x.2 = .local → scope.names.lookup x.1 = some .local)
    (h : wpAny (model prog w) A (eval it1 env) (fun x s₁ => wpAny (model prog w) A (pyIter x) (fun it s₂ => wpAny (model prog w) A (newList []) (fun acc s₃ =>
      wpAny (model prog w) A (newFunctionEnv scope env.globals cl [] env.qual none .none (some env)) (fun cenv s₄ =>
        codeAny (model prog w) A (.compStart (twoE elt t1 it1 t2 it2 ifs scope pos) 0 it acc { cenv with scope := relabel scope env }) (compPost (model prog w) A E none Q acc cenv.locals) s₄) E s₃) E s₂) E s₁) E s)
    (hs : ∀ x, foldedSetIterable it1 env x = pure x := by intro _; rfl) :
    wpAny (model prog w) A (eval (twoE elt t1 it1 t2 it2 ifs scope pos) env) Q E s := by
  rw [eval_ListComp]
  exact wpAny_comprehension_free (use := none) rfl hs hclos hkind hnames h
end

end
-- part L8
section
open PySem.Calls PySem.SeqAt PySem.Builtin PySem.Builtin.Str
theorem eq_nil {prog : Program} {w : World} {A : Around} {E : Value → Shared → Prop} {s : Shared} {h₀ : Heap} {L a b : Addr} {news : List (Addr × Obj)} {vs : List Value} {n n2 : Nat} {Q : Value → Shared → Prop} (N : News h₀ L s.heap news) (h1 : (a, lobj vs n) ∈ news) (h2 : (b, lobj [] n2) ∈ news) (hu : A.units < cLine) (h : Q (.bool vs.isEmpty) s) :
    wpAny (model prog w) A (compareOp .Eq (.ref a) (.ref b)) Q E s := by
  cases vs with
  | nil => exact eq_listAt (items := #[]) (items2 := #[]) (e := fun _ => true) ⟨_, (N _ h1).1, rfl, n, rfl⟩ ⟨_, (N _ h2).1, rfl, n2, rfl⟩ rfl hu (fun j hj => absurd hj (Nat.not_lt_zero j)) h
  | cons v vs => exact eq_list_lengthsAt (items := (v :: vs).toArray) (items2 := #[]) ⟨_, (N _ h1).1, rfl, n, rfl⟩ ⟨_, (N _ h2).1, rfl, n2, rfl⟩ (by simp) hu h

def hitAt (tt : List (List Bool)) (i j : Nat) : Bool := (tt.getD i []).getD j false
def noHit (tt : List (List Bool)) (most : Nat) : Bool := (List.range most).all fun j => (List.range j).all fun i => !hitAt tt i j

theorem units_lt {un : Nat} (h : un + 200 < cLine) : un < cLine := by omega
theorem four_vals {h₀ h : Heap} {L Tu : Addr} {R : List (Addr × Obj)} {a b c d : Tok} (N : News h₀ L h ((Tu, { cls := .type "tuple", data := .seq #[.int 3 a, .int 4 b, .int 5 c, .int 6 d] }) :: R)) :
    ∃ vs : List Value, (∀ (i : Nat) (v : Value), vs[i]? = some v → ∃ t, v = .int (3 + (i : Int)) t) ∧ vs.length = 4 ∧ News h₀ L h ((Tu, { cls := .type "tuple", data := .seq vs.toArray }) :: R) := by
  refine ⟨[.int 3 a, .int 4 b, .int 5 c, .int 6 d], ?_, rfl, N⟩
  intro i v hv
  match i, hv with
  | 0, hv => cases hv; exact ⟨_, rfl⟩
  | 1, hv => cases hv; exact ⟨_, rfl⟩
  | 2, hv => cases hv; exact ⟨_, rfl⟩
  | 3, hv => cases hv; exact ⟨_, rfl⟩
  | i + 4, hv => cases hv
def noHitI (tt : List (List Bool)) (j i : Nat) : Bool := (List.range i).all fun i => !hitAt tt i j
theorem noHitI_succ (tt : List (List Bool)) (j i : Nat) : noHitI tt j (i + 1) = (noHitI tt j i && !hitAt tt i j) := by
  unfold noHitI; rw [List.range_succ, List.all_append]; simp
theorem noHit_succ (tt : List (List Bool)) (j : Nat) : noHit tt (j + 1) = (noHit tt j && noHitI tt j j) := by
  unfold noHit; rw [List.range_succ, List.all_append]; simp [noHitI]
theorem rowsVal_get {ts : List TB} {i : Nat} {t : TB} (h : ts[i]? = some t) : (rowsVal ts)[i]? = some (.ref t.1) := by
  unfold rowsVal; rw [List.getElem?_map, h]; rfl
theorem hitAt_get {ts : List TB} {i j : Nat} {t : TB} {b : Bool} (h : ts[i]? = some t) (hb : t.2.2[j]? = some b) : hitAt (ts.map (·.2.2)) i j = b := by
  have e : (ts.map (·.2.2)).getD i [] = t.2.2 := by rw [List.getD_eq_getElem?_getD, List.getElem?_map, h]; rfl
  unfold hitAt
  rw [e, List.getD_eq_getElem?_getD, hb]; rfl

section
local macro_rules | `(tactic| walk_at "eval Name") => `(tactic| k_dflt walk_at "m name")
local macro_rules | `(tactic| walk_at "pyIter ref") => `(tactic| ((with_reducible show wpAny _ _ (pyIter _) _ _ _); refine stopHere ?_))
local macro_rules | `(tactic| walk_at "subscriptTail Name Name ref int") => `(tactic| ((with_reducible show wpAny _ _ (subscriptTail _ _ _ _) _ _ _); refine stopHere ?_))
local macro_rules | `(tactic| walk_at "subscriptTail Subscript Name ref int") => `(tactic| ((with_reducible show wpAny _ _ (subscriptTail _ _ _ _) _ _ _); refine stopHere ?_))
local macro_rules | `(tactic| walk_at "eval ListComp") => `(tactic| ((with_reducible show wpAny _ _ (eval _ _) _ _ _); refine stopHere ?_))

local macro_rules | `(tactic| walk_at "pad 2579") => `(tactic| skip)
theorem law_free {w : World} {dp un : Nat} {fr : Option (List Env)} {gd : Option (List Code)} {s : Shared} {E : Value → Shared → Prop} {Q : Flow → Shared → Prop} {mean : ExcName → Option Value} {mg mb : Str → Option Value} {h₀ : Heap} {L fa W : Addr} {cd : Value} {m : Str → Option Value} {o6 : Obj} {ts : List TB} {nW : Nat} {R : List (Addr × Obj)}
  (X : (hd.heap_39 w.params).In h₀) (TT : Top hd.view_39 (looseW hd.view_39 []) mean mg mb h₀) (hu : un + 200 < cLine)
  (F : Fr h₀ L s.heap m) (N : News h₀ L s.heap R) (hd6 : o6.data = .cell (some (.ref W))) (hm6 : (L + 1 + 1 + 1 + 1 + 1 + 1, o6) ∈ R) (hW : (W, lobj (rowsVal ts) nW) ∈ R) (hT : ∀ t ∈ ts, (t.1, lobj (t.2.2.map Value.bool) t.2.1) ∈ R) (hl6 : ts.length = 6) (hl : ∀ t ∈ ts, t.2.2.length = 6)
  (hQ : ∀ h' tk D nD, Fr h₀ L h' (fun y => if y = Str.ofString "free" then some (.ref D) else m y) →
    News h₀ L h' ((D, lobj ([3, 4, 5, 6].map fun k => Value.bool (noHit (ts.map (·.2.2)) k)) nD) :: R) → (∀ p ∈ R, p.1 ≠ D) → Q .next { s with heap := h', toks := tk }) :
  wpAny (model PySem.Challenge.rw_wb0004_01.row.prog w) ({ handled := none, depth := dp, frames := fr, guards := gd, units := un } : Around) (exec (lawSt 12) (envOfC (Str.ofString "law") lawScope L fa cd)) Q E s := by
    revert X TT; w_top off; k_fill; intro X TT
    refine (show wpAny _ _ (exec (Stmt.Assign _ _ _) _) _ _ _ from ?_)
    refine' assign_comp ?hsw ?hclos ?hkind ?hnames ?_ ?hs
    case hsw => with_unfolding_all rfl
    case hclos => with_unfolding_all rfl
    case hkind => rfl
    case hnames => decide
    case hs => intro _; with_unfolding_all rfl
    k_steps
    unfold Stop
    rename Fr _ _ _ _ => F8; rename News _ _ _ _ => N8
    rename_i Tu h8 l8
    obtain ⟨vs, hvs, hv4, N8⟩ := four_vals N8
    refine wpAny_pyIter_tuple (items := vs.toArray) ⟨_, (N8 _ (.head _)).1, rfl, _, rfl⟩ ?_
    refine' comp_core (h₀ := h₀) (srcTuple rfl (lx := Tu) vs.toArray) ?hsz (F8.push _) (N8.push F8 _) ?hap ?hst
      (fun _ i ys led => ys = (([3, 4, 5, 6] : List Nat).take i).map (fun k => Value.bool (noHit (ts.map (·.2.2)) k)) ∧ led = (Tu, { cls := .type "tuple", data := .seq vs.toArray }) :: R) ?h0 ?hSh ?step ?hfin ?ht
    case hsz => rw [List.size_toArray, hv4, sizeLine_eq]; decide
    case hap => intro p hp; exact Nat.ne_of_lt (Heap.lt_size (N8 p hp).1)
    case hst => intro h e; exact ⟨_, e, rfl, rfl⟩
    case h0 => intro C hC; exact ⟨rfl, rfl⟩
    case hSh =>
      rintro i C g h' mC ys led G ⟨rfl, rfl⟩ F' N'
      exact ⟨_, (N' _ (.head _)).1, rfl, _, rfl⟩
    case ht => intros; rfl
    case step =>
      rintro i v ys nD led h mC tk E' g C D oI' G hi hv ⟨rfl, rfl⟩ hlen FC NC hap9 hDI
      obtain ⟨tv, rfl⟩ := hvs i v (by simpa using hv)
      have hi4 : i < 4 := by rw [List.size_toArray, hv4] at hi; exact hi
      clear F8 N8
      have X' := X.keeps G.stays
      have T' := TT.keeps G.stays
      clear X TT
      refine wpAny_assign_Name (wpAny_storeName_local rfl FC.ns (fun h₃ hn₃ hs₃ => ?_) rfl)
      have F9 := FC.set hn₃ hs₃
      have N9 := NC.set hs₃
      clear FC NC hn₃ hs₃
      refine ifs_nil ?_
      rw [if_pos rfl]
      k_steps
      unfold Stop
      refine' eval_two ?hclos ?hkind ?hnames ?_ ?hs
      case hclos => with_unfolding_all rfl
      case hkind => rfl
      case hnames => decide
      case hs => intro _; with_unfolding_all rfl
      k_steps
      unfold Stop
      rename IsRange _ _ _ _ _ _ _ _ => hR
      rename Heap => hk
      rename Fr _ _ _ _ => F8; rename News _ _ _ _ => N8
      have hsm : Builtin.Range.small 0 (3 + (i : Int)) 1 = true := small_one (by decide) (by decide) (by omega) (by omega)
      have hrs : Builtin.Range.rangeSize 0 (3 + (i : Int)) 1 = ((3 + i : Nat) : Int) := by rw [rangeSize_one]; split <;> omega
      refine wpAny_pyIter_range hR hsm ?_
      rw [hrs]
      have hap9' : ∀ p ∈ (Tu, ({ cls := .type "tuple", data := .seq vs.toArray } : Obj)) :: R, p.1 ≠ h8.objs.size ∧ p.1 ≠ D := hap9
      generalize hRO : (D, lobj ((([3, 4, 5, 6] : List Nat).take i).map (fun k => Value.bool (noHit (ts.map (·.2.2)) k))) nD) :: (h8.objs.size, oI') :: (Tu, ({ cls := .type "tuple", data := .seq vs.toArray } : Obj)) :: R = RO at N8
      have hRR : ∀ p ∈ R, p ∈ RO := fun p hp => by rw [← hRO]; exact .tail _ (.tail _ (.tail _ hp))
      have hm6' := hRR _ hm6
      have hW' := hRR _ hW
      have hT' : ∀ t ∈ ts, (t.1, lobj (t.2.2.map Value.bool) t.2.1) ∈ RO := fun t ht => hRR _ (hT t ht)
      refine' two_core (h₀ := g) (srcRange rfl 0 1 (3 + i)) (F8.push _) (N8.push F8 _) ?hap_i ?hst_i
        (fun _ j ys2 led2 => ys2.isEmpty = noHit (ts.map (·.2.2)) j ∧ ys2.length ≤ 6 * j ∧ led2 = RO) ?h0_i ?hSh_i ?step_i ?hfin_i ?hs2_i ?ht_i
      case hap_i => intro p hp; exact Nat.ne_of_lt (Heap.lt_size (N8 p hp).1)
      case hst_i => intro h e; show h.get? _ = _; rw [e]; simp
      case h0_i => intro C _; exact ⟨rfl, Nat.le_refl _, rfl⟩
      case hSh_i => intros; trivial
      case ht_i => intros; rfl
      case hs2_i => intros; with_unfolding_all rfl
      case step_i =>
        rintro j v2 ys2 nD2 led2 hh mC2 tk2 E2 g2 C2 D2 oI2 G2 hj ⟨tj, rfl⟩ ⟨hys, hyl, rfl⟩ FC2 NC2 hap2 hDI2
        clear F8 N8
        have X2 := X'.keeps G2.stays
        have T2 := T'.keeps G2.stays
        clear X' T'
        refine wpAny_assign_Name (wpAny_storeName_local rfl FC2.ns (fun h₄ hn₄ hs₄ => ?_) rfl)
        have F9 := FC2.set hn₄ hs₄
        have N9 := NC2.set hs₄
        clear FC2 NC2 hn₄ hs₄
        have e0 : (0 : Int) + (j : Int) * 1 = (j : Int) := by omega
        rw [e0] at F9
        k_steps
        unfold Stop
        rename IsRange _ _ _ _ _ _ _ _ => hR2
        rename Fr _ _ _ _ => F8; rename News _ _ _ _ => N8
        have hj6 : j < 6 := by omega
        have hsm2 : Builtin.Range.small 0 (j : Int) 1 = true := small_one (by decide) (by decide) (by omega) (by omega)
        have hrs2 : Builtin.Range.rangeSize 0 (j : Int) 1 = (j : Int) := by rw [rangeSize_one]; split <;> omega
        refine wpAny_pyIter_range hR2 hsm2 ?_
        rw [hrs2]
        have FP := F8.push { cls := .type "range_iterator", data := .fields #[rawInt 0, rawInt (j : Int), rawInt 1] }
        have NP := N8.push F8 { cls := .type "range_iterator", data := .fields #[rawInt 0, rawInt (j : Int), rawInt 1] }
        have hltI := Heap.lt_size (N8 _ (.tail _ (.head _))).1
        have hltD := Heap.lt_size (N8 _ (.head _)).1
        have hltR : ∀ p ∈ led2, _ := fun p hp => Heap.lt_size (N8 p (.tail _ (.tail _ hp))).1
        clear F8 N8
        refine' inner_core (srcRange rfl 0 1 j) FP (fun p hp => NP p ?hperm) ?hap_j ?hne_j ?hst_j
          (fun i mC ys led => mC (Str.ofString "j") = some (.int (j : Int) tj) ∧ ys.isEmpty = (noHit (ts.map (·.2.2)) j && noHitI (ts.map (·.2.2)) j i) ∧ (ys.length ≤ 6 * j + i ∧ i ≤ j) ∧ led = (hk.objs.size, oI2) :: led2) ?h0_j ?hB_j ?hSh_j ?step_j ?hfin_j ?ht_j
        case hperm =>
          rcases List.mem_cons.mp hp with rfl | hp
          · exact .tail _ (.head _)
          · rcases List.mem_cons.mp hp with rfl | hp
            · exact .head _
            · exact .tail _ (.tail _ hp)
        case hap_j =>
          intro p hp
          rcases List.mem_cons.mp hp with rfl | hp
          · exact ⟨Nat.ne_of_lt hltI, Ne.symm hDI2⟩
          · exact ⟨Nat.ne_of_lt (hltR p hp), (hap2 p hp).2⟩
        case hne_j => exact Nat.ne_of_lt hltD
        case hst_j => intro h e; show h.get? _ = _; rw [e]; simp
        case h0_j => exact ⟨rfl, by rw [hys]; simp [noHitI], ⟨by omega, Nat.zero_le _⟩, rfl⟩
        case hB_j =>
          rintro i2 mC3 ys3 led3 ⟨_, _, ⟨hyl3, hi3⟩, _⟩
          rw [sizeLine_eq]
          omega
        case hSh_j => intros; trivial
        case ht_j => intros; rfl
        case step_j =>
          rintro i2 v3 ys3 nD3 led3 hh3 mC3 tk3 E3 oI3 hi2 ⟨ti, rfl⟩ ⟨hmj, hys3, ⟨hyl3, _⟩, rfl⟩ FC3 NC3 hap3
          clear FP NP
          refine wpAny_assign_Name (wpAny_storeName_local rfl FC3.ns (fun h₄ hn₄ hs₄ => ?_) rfl)
          have F9 := FC3.set hn₄ hs₄
          have N9 := NC3.set hs₄
          clear FC3 NC3 hn₄ hs₄
          have e0 : (0 : Int) + (i2 : Int) * 1 = (i2 : Int) := by omega
          rw [e0] at F9
          refine wpAny_tests_one ?_
          k_steps
          unfold Stop
          rename Fr _ _ _ _ => F8; rename News _ _ _ _ => N8
          have hts : ts[i2]? = some ts[i2] := List.getElem?_eq_getElem (by omega)
          refine item_list (items := (rowsVal ts).toArray) ⟨_, (N8 (W, lobj (rowsVal ts) nW) (by walk_at "m mem")).1, rfl, nW, rfl⟩ (by omega) (by omega) (by simpa using rowsVal_get hts) ?_
          k_steps
          unfold Stop
          rename Fr _ _ _ _ => F8; rename News _ _ _ _ => N8
          have htm := hT' _ (List.mem_of_getElem? hts)
          have hbl := hl _ (List.mem_of_getElem? hts)
          generalize ts[i2] = t at hts htm hbl
          have hb : t.2.2[j]? = some t.2.2[j] := List.getElem?_eq_getElem (by omega)
          generalize t.2.2[j] = b at hb
          refine item_list (items := (t.2.2.map Value.bool).toArray) ⟨_, (N8 (t.1, lobj (t.2.2.map Value.bool) t.2.1) (by walk_at "m mem")).1, rfl, _, rfl⟩ (by omega) (by omega) (x := .bool b) (by simp [hb]) ?_
          k_steps
          all_goals (rename Fr _ _ _ _ => F8; rename News _ _ _ _ => N8; rename b = _ => hbv; subst hbv)
          · refine ⟨_, _, _, _, rfl, F8, fun p hp => N8 p (.tail _ hp), hap3, (if_neg (by decide)).trans hmj, ?_, ⟨by rw [List.length_append]; simp; omega, by omega⟩, rfl⟩
            rw [noHitI_succ, hitAt_get hts hb]; simp
          · refine ⟨_, _, _, _, rfl, F8, N8, hap3, (if_neg (by decide)).trans hmj, ?_, ⟨by omega, by omega⟩, rfl⟩
            rw [noHitI_succ, hitAt_get hts hb, hys3]; simp
        case hfin_j =>
          rintro h' tk3 mC3 ys3 nD3 led3 FC3 NC3 hap3 ⟨hmj, hys3, ⟨hyl3, _⟩, rfl⟩
          refine ⟨_, _, _, _, _, _, rfl, FC3, NC3, hap2, ?_, by omega, rfl⟩
          rw [noHit_succ]; exact hys3
      case hfin_i =>
        rintro h' tk2 mC2 ys2 nD2 led2 g2 C2 D2 G2 FC2 NC2 hap2 hDL2 hCL2 hDC2 ⟨hys, hyl, rfl⟩
        refine fin_eval G2 FC2 NC2 fun h9 F9 N9 => ?_
        clear F8 N8 FC2 NC2
        k_steps
        rename Fr _ _ _ _ => F8; rename News _ _ _ _ => N8
        refine eq_nil N8 (.tail _ (.head _)) (.head _) (units_lt hu) ?_
        refine ⟨_, _, _, _, rfl, F8, fun p hp => N8 p (.tail _ (.tail _ (hRO ▸ hp))), hap9', ?_, rfl⟩
        rw [hys]
        have hc : i = 0 ∨ i = 1 ∨ i = 2 ∨ i = 3 := by omega
        rcases hc with rfl | rfl | rfl | rfl <;> rfl
    case hfin =>
      rintro h' tk mC ys nD9 led g C D G FC NC hap9 hDL hCL hDC hlen ⟨rfl, rfl⟩
      refine' fin_assign ?hy ?hp hCL G FC NC ?_
      case hy => exact rfl
      case hp => exact rfl
      intro h9 tk9 F9 N9
      rw [List.size_toArray, hv4] at N9
      refine hQ h9 _ D nD9 F9 (fun p hp => N9 p ?_) fun p hp => hap9 p (.tail _ hp)
      rcases List.mem_cons.mp hp with rfl | hp
      · exact .head _
      · exact .tail _ (.tail _ hp)
end

end
-- part Str
section
open PySem.Calls PySem.SeqAt PySem.Builtin PySem.Builtin.Str
/-- how lists of truths are shown -/
def boolsD (bs : List Bool) : PyData := .list (bs.map PyData.bool)
def rowsD (tt : List (List Bool)) : PyData := .list (tt.map boolsD)
theorem showableAll_bools : ∀ bs : List Bool, PyData.showableAll (bs.map PyData.bool) = true
  | [] => rfl
  | b :: r => by simp [PyData.showableAll, PyData.showable, showableAll_bools r]
theorem hasDictAll_bools : ∀ bs : List Bool, PyData.hasDictAll (bs.map PyData.bool) = false
  | [] => rfl
  | b :: r => by simp [PyData.hasDictAll, PyData.hasDict, hasDictAll_bools r]
theorem shown_bool_len (b : Bool) : (PyData.shown (.bool b)).length ≤ 5 := by cases b <;> decide
theorem shownAll_bools_len : ∀ bs : List Bool, ((PyData.shownAll (bs.map PyData.bool)).map (·.length)).sum ≤ 5 * bs.length ∧ (PyData.shownAll (bs.map PyData.bool)).length = bs.length
  | [] => ⟨by simp [PyData.shownAll], by simp [PyData.shownAll]⟩
  | b :: r => by
    have h := shownAll_bools_len r
    have h2 := shown_bool_len b
    simp only [List.map_cons, PyData.shownAll, List.sum_cons, List.length_cons]
    omega
theorem shown_bools_len (bs : List Bool) : (boolsD bs).shown.length ≤ 7 * bs.length + 3 := by
  have h := shownAll_bools_len bs
  have h2 := listText_len_le (PyData.shownAll (bs.map PyData.bool))
  show (PyData.shown (.list (bs.map PyData.bool))).length ≤ _
  rw [PyData.shown]
  omega
theorem rows_facts : ∀ tt : List (List Bool), (∀ t ∈ tt, t.length ≤ 6) → PyData.showableAll (tt.map boolsD) = true ∧ PyData.hasDictAll (tt.map boolsD) = false ∧ PyData.depthAll (tt.map boolsD) ≤ 2 ∧
    ((PyData.shownAll (tt.map boolsD)).map (·.length)).sum ≤ 45 * tt.length ∧ (PyData.shownAll (tt.map boolsD)).length = tt.length
  | [], _ => ⟨rfl, rfl, by simp [PyData.depthAll], by simp [PyData.shownAll], by simp [PyData.shownAll]⟩
  | t :: r, h => by
    obtain ⟨h1, h2, h3, h4, h5⟩ := rows_facts r (fun x hx => h x (.tail _ hx))
    have e1 : PyData.showable (boolsD t) = true := by simp [boolsD, PyData.showable, showableAll_bools]
    have e2 : PyData.hasDict (boolsD t) = false := by simp [boolsD, PyData.hasDict, hasDictAll_bools]
    have e3 : PyData.depth (boolsD t) ≤ 2 := by have := depthAll_bools t; simp only [boolsD, PyData.depth]; omega
    have e4 := shown_bools_len t
    have e5 := h t (.head _)
    refine ⟨by simp [PyData.showableAll, e1, h1], by simp [PyData.hasDictAll, e2, h2], by simp only [List.map_cons, PyData.depthAll]; omega, ?_, ?_⟩
    · simp only [List.map_cons, PyData.shownAll, List.sum_cons, List.length_cons]; omega
    · simp only [List.map_cons, PyData.shownAll, List.length_cons]; omega
theorem reads_rows {h : Heap} : ∀ ts : List TB, (∀ t ∈ ts, h.get? t.1 = some (lobj (t.2.2.map Value.bool) t.2.1)) → ∃ as, ReadsAll h (rowsVal ts) ((ts.map (·.2.2)).map boolsD) as
  | [], _ => ⟨_, .nil⟩
  | t :: r, hT => by
    obtain ⟨as, ih⟩ := reads_rows r (fun x hx => hT x (.tail _ hx))
    exact ⟨_, .cons (reads_bools (hT t (.head _)) (BoolsR.of_map _)) ih⟩

section
variable {prog : Program} {w : World} {A : Around} {E : Value → Shared → Prop} {s : Shared} {h₀ : Heap} {L W : Addr} {m : Str → Option Value} {news : List (Addr × Obj)} {Q : Value → Shared → Prop}
theorem str_rows {ts : List TB} {nW : Nat} (hg : A.guards = some []) (hu : A.units + 64 < cLine) (F : Fr h₀ L s.heap m) (N : News h₀ L s.heap news) (hW : (W, lobj (rowsVal ts) nW) ∈ news) (hT : ∀ t ∈ ts, (t.1, lobj (t.2.2.map Value.bool) t.2.1) ∈ news)
    (hl6 : ts.length = 6) (hl : ∀ t ∈ ts, t.2.2.length = 6)
    (h : ∀ h' u tk, Fr h₀ L h' m → News h₀ L h' news → Q (.str (rowsD (ts.map (·.2.2))).shown u) { s with heap := h', toks := tk }) :
    wpAny (model prog w) A (call (.type "str") [.ref W]) Q E s := by
  obtain ⟨as, ra⟩ := reads_rows (h := s.heap) ts (fun t ht => (N _ (hT t ht)).1)
  obtain ⟨f1, f2, f3, f4, f5⟩ := rows_facts (ts.map (·.2.2)) (fun x hx => by
    obtain ⟨t, ht, rfl⟩ := List.mem_map.mp hx
    exact Nat.le_of_eq (hl t ht))
  have hle := listText_len_le (PyData.shownAll ((ts.map (·.2.2)).map boolsD))
  rw [f5, List.length_map, hl6] at hle
  rw [List.length_map, hl6] at f4
  refine str_of_reads (d := rowsD (ts.map (·.2.2))) (h₀ := s.heap) (Reads.list (N _ hW).1 rfl rfl ra) ?_ ?_ hg ?_ (fun _ _ e => e) (fun h' u tk hk => h h' u tk (F.keeps hk) fun p hp => ⟨hk _ _ (N p hp).1, (N p hp).2⟩) ?_
  · rw [rowsD, PyData.showable]; exact f1
  · intro hd; rw [rowsD, PyData.hasDict, f2] at hd; cases hd
  · rw [rowsD, PyData.depth]; omega
  · rw [rowsD, PyData.shown, sizeLine_eq]; omega

theorem str_bools {a : Addr} {vs : List Value} {bs : List Bool} {n : Nat} (hg : A.guards = some []) (hu : A.units + 64 < cLine) (F : Fr h₀ L s.heap m) (N : News h₀ L s.heap news) (h1 : (a, lobj vs n) ∈ news) (hb : vs = bs.map Value.bool) (hl : bs.length ≤ 20)
    (h : ∀ h' u tk, Fr h₀ L h' m → News h₀ L h' news → Q (.str (boolsD bs).shown u) { s with heap := h', toks := tk }) :
    wpAny (model prog w) A (call (.type "str") [.ref a]) Q E s := by
  have e1 := shown_bools_len bs
  have e3 := depthAll_bools bs
  refine str_of_reads (d := boolsD bs) (h₀ := s.heap) (reads_bools (N _ h1).1 (hb ▸ BoolsR.of_map _)) ?_ ?_ hg ?_ (fun _ _ e => e) (fun h' u tk hk => h h' u tk (F.keeps hk) fun p hp => ⟨hk _ _ (N p hp).1, (N p hp).2⟩) ?_
  · rw [boolsD, PyData.showable]; exact showableAll_bools _
  · intro hd; rw [boolsD, PyData.hasDict, hasDictAll_bools] at hd; cases hd
  · rw [boolsD, PyData.depth]; omega
  · rw [sizeLine_eq]; omega

theorem ne_same {x y : Str} {t u : Tok} (e : x = y) (h : Q (.bool false) s) : wpAny (model prog w) A (compareOp .NotEq (.str x t) (.str y u)) Q E s := by
  subst e
  refine ne_str ?_
  have e : (x != x) = false := by simp
  rw [e]
  exact h
theorem ne_bools_same {a b : Addr} {vs ws : List Value} {n n2 : Nat} (N : News h₀ L s.heap news) (h1 : (a, lobj vs n) ∈ news) (h2 : (b, lobj ws n2) ∈ news) (x : vs = (vs.map toB).map Value.bool) (e : vs = ws) (hu : A.units + 64 < cLine) (h : Q (.bool false) s) :
    wpAny (model prog w) A (compareOp .NotEq (.ref a) (.ref b)) Q E s := by
  subst e
  refine ne_bools N h1 h2 x x hu ?_
  rw [decide_eq_true rfl]
  exact h
end

end
-- part L9
section
open PySem.Calls PySem.SeqAt PySem.Builtin PySem.Builtin.Str
section
local macro_rules | `(tactic| walk_at "eval Name") => `(tactic| k_dflt walk_at "m name")
local macro_rules | `(tactic| walk_at "compareOp NotEq ref ref") => `(tactic| k_dflt ((with_reducible show wpAny _ _ (compareOp CmpOp.NotEq (Value.ref _) (Value.ref _)) _ _ _); (rename News _ _ _ _ => N9); (with_unfolding_all refine' ne_bools_same N9 ?h1 ?h2 ?x ?y ?hu ?_); (case h1 => walk_at "m mem"); (case h2 => walk_at "m mem"); (case x => with_reducible assumption); (case y => with_reducible assumption); (case hu => (dsimp only; exact units_ok (by with_reducible assumption)))))

theorem law_if13 {w : World} {dp un : Nat} {fr : Option (List Env)} {gd : Option (List Code)} {s : Shared} {E : Value → Shared → Prop} {Q : Flow → Shared → Prop} {mean : ExcName → Option Value} {mg mb : Str → Option Value} {h₀ : Heap} {L fa FL : Addr} {cd : Value} {m : Str → Option Value} {nF : Nat} {R : List (Addr × Obj)} {vs : List Value} {s6 e8 t10 : Bool}
  (X : (hd.heap_39 w.params).In h₀) (TT : Top hd.view_39 (looseW hd.view_39 []) mean mg mb h₀) (hu : un + 200 < cLine)
  (F : Fr h₀ L s.heap m) (N : News h₀ L s.heap R) (hF : (FL, lobj vs nF) ∈ R) (h1 : m (Str.ofString "free") = some (.ref FL)) (h2 : m (Str.ofString "six") = some (.bool s6)) (h3 : m (Str.ofString "eight") = some (.bool e8)) (h4 : m (Str.ofString "ten") = some (.bool t10))
  (hv : vs = (vs.map toB).map Value.bool) (he : vs = [.bool s6, .bool e8, .bool t10, .bool false])
  (hQ : ∀ h' tk, Fr h₀ L h' m → News h₀ L h' R → Q .next { s with heap := h', toks := tk }) :
  wpAny (model PySem.Challenge.rw_wb0004_01.row.prog w) ({ handled := none, depth := dp, frames := fr, guards := gd, units := un } : Around) (exec (lawSt 13) (envOfC (Str.ofString "law") lawScope L fa cd)) Q E s := by
    revert X TT; w_top off; k_fill; intro X TT
    refine (show wpAny _ _ (exec (Stmt.If _ _ _ _) _) _ _ _ from ?_)
    k_steps
    all_goals (rename Fr _ _ _ _ => F9; rename News _ _ _ _ => N9)
    exact hQ _ _ F9 (fun p hp => N9 p (by repeat (first | exact hp | apply List.Mem.tail)))
end

section
local macro_rules | `(tactic| walk_at "eval Name") => `(tactic| k_dflt walk_at "m name")
local macro_rules | `(tactic| walk_at "eval ListComp") => `(tactic| ((with_reducible show wpAny _ _ (eval _ _) _ _ _); refine stopHere ?_))
local macro_rules | `(tactic| walk_at "pyIter ref") => `(tactic| ((with_reducible show wpAny _ _ (pyIter _) _ _ _); refine stopHere ?_))
local macro_rules | `(tactic| walk_at "call type:str") => `(tactic| ((with_reducible show wpAny _ _ (call (Value.type "str") [Value.ref _]) _ _ _); refine stopHere ?_))

theorem law_if14 {w : World} {dp un : Nat} {fr : Option (List Env)} {s : Shared} {E : Value → Shared → Prop} {Q : Flow → Shared → Prop} {mean : ExcName → Option Value} {mg mb : Str → Option Value} {h₀ : Heap} {L fa P W : Addr} {cd : Value} {m : Str → Option Value} {o4 o6 : Obj} {l : List (Str × Tok)} {xs : List Str} {nP nW : Nat} {ts0 : List TB} {R : List (Addr × Obj)}
  (X : (hd.heap_39 w.params).In h₀) (TT : Top hd.view_39 (looseW hd.view_39 []) mean mg mb h₀) (hu : un + 200 < cLine) (hroom : dp < recursionLimit)
  (F : Fr h₀ L s.heap m) (N : News h₀ L s.heap R) (hP : (P, lobj (strValues l) nP) ∈ R) (hm4 : (L + 1 + 1 + 1 + 1, o4) ∈ R) (hd4 : o4.data = .cell (some (.ref P))) (hm6 : (L + 1 + 1 + 1 + 1 + 1 + 1, o6) ∈ R) (hd6 : o6.data = .cell (some (.ref W))) (hl : l.map (fun p => p.1) = xs) (hx : ∀ x ∈ xs, x.length ≤ 20) (hx6 : xs.length = 6)
  (hW : (W, lobj (rowsVal ts0) nW) ∈ R) (hT : ∀ t ∈ ts0, (t.1, lobj (t.2.2.map Value.bool) t.2.1) ∈ R) (hts0 : ts0.map (fun t : TB => t.2.2) = xs.map (fun x => xs.map fun y => metB x y))
  (hQ : ∀ h' tk, Fr h₀ L h' m → News h₀ L h' R → Q .next { s with heap := h', toks := tk }) :
  wpAny (model PySem.Challenge.rw_wb0004_01.row.prog w) ({ handled := none, depth := dp, frames := fr, guards := some [], units := un } : Around) (exec (lawSt 14) (envOfC (Str.ofString "law") lawScope L fa cd)) Q E s := by
    revert X TT; w_top off; k_fill; intro X TT
    refine (show wpAny _ _ (exec (Stmt.If _ _ _ _) _) _ _ _ from ?_)
    k_steps
    unfold Stop
    have hl6 : ts0.length = 6 := by have h := congrArg List.length hts0; rw [List.length_map, List.length_map, hx6] at h; exact h
    have hlr : ∀ t ∈ ts0, t.2.2.length = 6 := fun t ht => by
      have h : t.2.2 ∈ ts0.map (fun t : TB => t.2.2) := List.mem_map_of_mem ht
      rw [hts0] at h
      obtain ⟨x, _, e⟩ := List.mem_map.mp h
      rw [← e, List.length_map, hx6]
    rename Fr _ _ _ _ => F8; rename News _ _ _ _ => N8
    refine str_rows rfl (units_ok hu) F8 N8 hW hT hl6 hlr fun h1 u1 tk1 F1 N1 => ?_
    clear F8 N8
    k_steps
    unfold Stop
    refine' eval_comp ?hclos ?hkind ?hnames ?_ ?hs
    case hclos => with_unfolding_all rfl
    case hkind => rfl
    case hnames => decide
    case hs => intro _; with_unfolding_all rfl
    k_steps
    unfold Stop
    rename Fr _ _ _ _ => F8; rename News _ _ _ _ => N8
    rename Heap => h8
    have hlD : h8.IsList P (strValues l).toArray := ⟨_, (N8 _ hP).1, rfl, _, rfl⟩
    refine wpAny_pyIter_list hlD ?_
    refine' comp_core (h₀ := h₀) (srcList rfl (lx := P) (strValues l).toArray) ?hsz (F8.push _) (N8.push F8 _) ?hap ?hst
      (fun C i ys led => ∃ ts oF dF, ys = rowsVal ts ∧ ts.map (fun t : TB => t.2.2) = (xs.take i).map (fun x => xs.map fun y => metB x y) ∧ oF.data = .cell dF ∧ led = (C + 1, oF) :: (rowsLed ts ++ R) ∧ (∀ p ∈ rowsLed ts ++ R, p.1 ≠ C + 1)) ?h0 ?hSh ?step ?hfin ?ht
    case hsz => rw [show (strValues l).toArray.size = xs.length by rw [← hl]; simp [strValues], hx6, sizeLine_eq]; decide
    case hap => intro p hp; exact Nat.ne_of_lt (Heap.lt_size (N8 p hp).1)
    case hst => exact ⟨rfl, rfl⟩
    case h0 =>
      intro C hC
      exact ⟨[], _, _, rfl, rfl, rfl, rfl, fun p hp => Nat.ne_of_lt (Nat.lt_succ_of_lt (hC p hp))⟩
    case hSh =>
      rintro i C g h' mC ys led G ⟨ts, oF, dF, rfl, _, _, rfl, _⟩ F' N'
      exact ⟨_, (N' _ (.tail _ (List.mem_append_right _ hP))).1, rfl, _, rfl⟩
    case ht => intros; rfl
    case step =>
      rintro i v ys nD led h mC tk E' g C D oI' G hi hv ⟨ts, oF, dF, rfl, hts, hdF, rfl, ha1⟩ hlen FC NC hap9 hDI
      clear F8 N8 hlD
      have X' := X.keeps G.stays
      have T' := TT.keeps G.stays
      clear X TT
      have hCI : h8.objs.size ≠ C + 1 := Ne.symm (hap9 (C + 1, oF) (.head _)).1
      have hCD : D ≠ C + 1 := Ne.symm (hap9 (C + 1, oF) (.head _)).2
      refine wpAny_assign_Name (wpAny_storeName_cell rfl rfl rfl ⟨oF, (NC _ (.tail _ (.tail _ (.head _)))).1, hdF⟩ fun h₃ hv₃ hs₃ => ?_)
      obtain ⟨oF', ho', hdF'⟩ := hv₃
      have hCC := (NC (C + 1, oF) (.tail _ (.tail _ (.head _)))).2
      have F9 : Fr g C h₃ mC := ⟨FC.ns.sameBut hs₃ (Ne.symm hCC.1), fun b ob e => (hs₃.2 b (fun q => by rw [q, hCC.2] at e; cases e)).trans (FC.keep b ob e), FC.above⟩
      have N9 : News g C h₃ ((D, lobj (rowsVal ts) nD) :: (h8.objs.size, oI') :: (C + 1, oF') :: (rowsLed ts ++ R)) := by
        intro p hp
        rcases List.mem_cons.mp hp with rfl | hp
        · exact ⟨(hs₃.2 _ hCD).trans (NC _ (.head _)).1, (NC _ (.head _)).2⟩
        · rcases List.mem_cons.mp hp with rfl | hp
          · exact ⟨(hs₃.2 _ hCI).trans (NC _ (.tail _ (.head _))).1, (NC _ (.tail _ (.head _))).2⟩
          · rcases List.mem_cons.mp hp with rfl | hp
            · exact ⟨ho', hCC⟩
            · exact ⟨(hs₃.2 _ (ha1 p hp)).trans (NC _ (.tail _ (.tail _ (.tail _ hp)))).1, (NC _ (.tail _ (.tail _ (.tail _ hp)))).2⟩
      clear hs₃ ho' hCC hdF
      refine ifs_nil ?_
      rw [if_pos rfl]
      obtain ⟨x, tx, rfl, hxi⟩ := strVal_get (by simpa using hv)
      have hPm : (P, lobj (strValues l) nP) ∈ rowsLed ts ++ R := List.mem_append_right _ hP
      have h4m : (L + 1 + 1 + 1 + 1, o4) ∈ rowsLed ts ++ R := List.mem_append_right _ hm4
      generalize hRB : rowsLed ts ++ R = RB at N9 hPm h4m
      have hap9' : ∀ p ∈ RB, p.1 ≠ h8.objs.size ∧ p.1 ≠ D := fun p hp => hap9 p (.tail _ (by rw [hRB]; exact hp))
      k_steps
      unfold Stop
      refine' eval_comp ?hclos ?hkind ?hnames ?_ ?hs
      case hclos => with_unfolding_all rfl
      case hkind => rfl
      case hnames => decide
      case hs => intro _; with_unfolding_all rfl
      k_steps
      unfold Stop
      rename Fr _ _ _ _ => F8; rename News _ _ _ _ => N8
      have hlP : h₃.IsList P (strValues l).toArray := ⟨_, (N8 _ (.tail _ (.tail _ (.tail _ hPm)))).1, rfl, _, rfl⟩
      refine wpAny_pyIter_list hlP ?_
      refine' comp_core (h₀ := g) (srcList rfl (lx := P) (strValues l).toArray) ?hsz_i (F8.push _) (N8.push F8 _) ?hap_i ?hst_i
        (fun _ j ys led2 => ys = ((xs.take j).map (fun y => metB x y)).map Value.bool ∧ led2 = (D, lobj (rowsVal ts) nD) :: (h8.objs.size, oI') :: (C + 1, oF') :: RB) ?h0_i ?hSh_i ?step_i ?hfin_i ?ht_i
      case hsz_i => rw [show (strValues l).toArray.size = xs.length by rw [← hl]; simp [strValues], hx6, sizeLine_eq]; decide
      case hap_i => intro p hp; exact Nat.ne_of_lt (Heap.lt_size (N8 p hp).1)
      case hst_i => exact ⟨rfl, rfl⟩
      case h0_i => intro C2 hC; exact ⟨rfl, rfl⟩
      case hSh_i =>
        rintro i C2 g2 h' mC2 ys led G2 ⟨rfl, rfl⟩ F' N'
        exact ⟨_, (N' _ (.tail _ (.tail _ (.tail _ hPm)))).1, rfl, _, rfl⟩
      case ht_i => intros; rfl
      case step_i =>
        rintro j v2 ys2 nD2 led2 hh mC2 tk2 E2 g2 C2 D2 oI2 G2 hj hv2 ⟨rfl, rfl⟩ hlen2 FC2 NC2 hap2 hDI2
        clear F8 N8 hlP FC NC
        obtain ⟨y, ty, rfl, hyj⟩ := strVal_get (by simpa using hv2)
        rw [hl] at hxi hyj
        have hx20 : x.length ≤ 20 := hx x (List.mem_of_getElem? hxi)
        have hy20 : y.length ≤ 20 := hx y (List.mem_of_getElem? hyj)
        have hx1k : x.length ≤ 1000 := Nat.le_trans hx20 (by decide)
        have hy1k : y.length ≤ 1000 := Nat.le_trans hy20 (by decide)
        have X2 := X'.keeps G2.stays
        have T2 := T'.keeps G2.stays
        clear X' T'
        refine wpAny_assign_Name (wpAny_storeName_local rfl FC2.ns (fun h₄ hn₄ hs₄ => ?_) rfl)
        have F9 := FC2.set hn₄ hs₄
        have N9 := NC2.set hs₄
        clear FC2 NC2 hn₄ hs₄
        refine ifs_nil ?_
        rw [if_pos rfl]
        k_steps
        rename Fr _ _ _ _ => F9; rename News _ _ _ _ => N9
        refine met_call rfl hroom (X2.keeps F9.keep) (T2.keeps F9.keep) hx1k hy1k fun h5 tk5 hk5 => ?_
        refine ⟨_, _, _, _, rfl, F9.keeps hk5, fun p hp => ⟨hk5 _ _ (N9 p hp).1, (N9 p hp).2⟩, hap2, ?_, rfl⟩
        rw [List.take_add_one, hyj, List.map_append, List.map_append]
        rfl
      case hfin_i =>
        rintro h' tk2 mC2 ys2 nD2 led2 g2 C2 D2 G2 FC2 NC2 hap2 hDL2 hCL2 hDC2 hlen2 ⟨rfl, rfl⟩
        refine fin_eval G2 FC2 NC2 fun h9 F9 N9 => ?_
        have eL : (strValues l).toArray.size = xs.length := by rw [← hl]; simp [strValues]
        rw [eL, List.take_length] at N9
        have hD2 : ∀ p ∈ RB, p.1 ≠ D2 := fun p hp => hap2 p (.tail _ (.tail _ (.tail _ hp)))
        have eM : ∀ p ∈ rowsLed (ts ++ [(D2, nD2, xs.map fun y => metB x y)]) ++ R, p = (D2, lobj ((xs.map fun y => metB x y).map Value.bool) nD2) ∨ p ∈ RB := fun p hp => by
          rw [← hRB]
          rcases List.mem_append.mp hp with hp | hp
          · rw [rowsLed_snoc] at hp
            rcases List.mem_append.mp hp with hp | hp
            · exact .inr (List.mem_append_left _ hp)
            · exact .inl (List.mem_singleton.mp hp)
          · exact .inr (List.mem_append_right _ hp)
        refine ⟨_, _, _, (C + 1, oF') :: (rowsLed (ts ++ [(D2, nD2, xs.map fun y => metB x y)]) ++ R), rfl, F9, fun p hp => ?_, fun p hp => ?_, ts ++ [(D2, nD2, xs.map fun y => metB x y)], oF', _, (rowsVal_snoc ts (D2, nD2, xs.map fun y => metB x y)).symm, ?_, hdF', rfl, fun p hp => ?_⟩
        · rcases List.mem_cons.mp hp with rfl | hp
          · exact N9 _ (.tail _ (.head _))
          · rcases List.mem_cons.mp hp with rfl | hp
            · exact N9 _ (.tail _ (.tail _ (.head _)))
            · rcases List.mem_cons.mp hp with rfl | hp
              · exact N9 _ (.tail _ (.tail _ (.tail _ (.head _))))
              · rcases eM p hp with rfl | hp
                · exact N9 _ (.head _)
                · exact N9 _ (.tail _ (.tail _ (.tail _ (.tail _ hp))))
        · rcases List.mem_cons.mp hp with rfl | hp
          · exact ⟨Ne.symm hCI, Ne.symm hCD⟩
          · rcases eM p hp with rfl | hp
            · exact ⟨Ne.symm (hap2 _ (.tail _ (.head _))), Ne.symm (hap2 _ (.head _))⟩
            · exact hap9' p hp
        · rw [hl] at hxi
          rw [List.map_append, hts, List.take_add_one, hxi, List.map_append]; rfl
        · rcases eM p hp with rfl | hp
          · exact Ne.symm (hap2 _ (.tail _ (.tail _ (.head _))))
          · exact ha1 p (by rw [hRB]; exact hp)
    case hfin =>
      rintro h' tk mC ys nD9 led g C D9 G FC NC hap9 hDL hCL hDC hlen ⟨ts, oF, dF, rfl, hts, hdF, rfl, ha1⟩
      refine fin_eval G FC NC fun h9 F9 N9 => ?_
      have eL : (strValues l).toArray.size = xs.length := by rw [← hl]; simp [strValues]
      rw [eL, List.take_length] at hts
      clear F8 N8 FC NC hlD
      have hl6' : ts.length = 6 := by have h := congrArg List.length hts; rw [List.length_map, List.length_map, hx6] at h; exact h
      have hlr' : ∀ t ∈ ts, t.2.2.length = 6 := fun t ht => by
        have h : t.2.2 ∈ ts.map (fun t : TB => t.2.2) := List.mem_map_of_mem ht
        rw [hts] at h
        obtain ⟨x, _, e⟩ := List.mem_map.mp h
        rw [← e, List.length_map, hx6]
      k_steps
      unfold Stop
      rename Fr _ _ _ _ => F8; rename News _ _ _ _ => N8
      refine str_rows rfl (units_ok hu) F8 N8 (.head _) (fun t ht => .tail _ (.tail _ (List.mem_append_left _ (List.mem_map_of_mem ht)))) hl6' hlr' fun h2 u2 tk2 F2 N2 => ?_
      clear F8 N8
      refine ne_same (by rw [hts0, hts]) ?_
      k_steps
      rename Fr _ _ _ _ => F8; rename News _ _ _ _ => N8
      exact hQ _ _ F8 (fun p hp => N8 p (.tail _ (.tail _ (List.mem_append_right _ hp))))
end

end
-- part L10
section
open PySem.Calls PySem.SeqAt PySem.Builtin PySem.Builtin.Str
def want2 (x : Str) : Str := Txt.slice x none (some ((x.length : Int).fdiv 2)) ++ Str.ofString "..." ++ Txt.slice x (some ((x.length : Int).fdiv 2)) none
def want3 (x : Str) : Str := Str.ofString "..." ++ Txt.slice x none (some 2) ++ Str.ofString "..." ++ Txt.slice x (some 2) (some 3) ++ Str.ofString "..." ++ Txt.slice x (some 3) none
def wantsOf (x : Str) : List Str := [x, want2 x, want3 x]
theorem wants_len {x : Str} (hx : x.length ≤ 20) : ∀ v ∈ wantsOf x, v.length ≤ 1000 := by
  have e3 : (Str.ofString "...").length = 3 := by decide
  have s1 := Txt.slice_le x none (some ((x.length : Int).fdiv 2))
  have s2 := Txt.slice_le x (some ((x.length : Int).fdiv 2)) none
  have s3 := Txt.slice_le x none (some 2)
  have s4 := Txt.slice_le x (some 2) (some 3)
  have s5 := Txt.slice_le x (some 3) none
  intro v hv
  unfold wantsOf at hv
  rcases List.mem_cons.mp hv with rfl | hv
  · omega
  · rcases List.mem_cons.mp hv with rfl | hv
    · unfold want2; rw [Str.length_append, Str.length_append]; omega
    · rcases List.mem_cons.mp hv with rfl | hv
      · unfold want3; rw [Str.length_append, Str.length_append, Str.length_append, Str.length_append, Str.length_append]; omega
      · cases hv
theorem units_ok4 {un : Nat} (h : un + 400 < cLine) : un + 64 < cLine := by omega
theorem units_ok2 {un : Nat} (h : un + 400 < cLine) : un + 200 < cLine := by omega
theorem drB_len (x y : Str) : (drB x y).length ≤ 20 := by unfold drB; simp
theorem news_fresh {h₀ h h' : Heap} {L D : Addr} {m : Str → Option Value} {news : List (Addr × Obj)} {o : Obj} (F : Fr h₀ L h m) (N : News h₀ L h news) (hk : ∀ b o, h.get? b = some o → h'.get? b = some o) (hn : h.get? D = none) (hg : h'.get? D = some o) : News h₀ L h' ((D, o) :: news) := by
  intro p hp
  rcases List.mem_cons.mp hp with rfl | hp
  · refine ⟨hg, ?_, ?_⟩
    · rintro rfl
      obtain ⟨oL, _, _, hL, _⟩ := id F.ns
      rw [hn] at hL; cases hL
    · cases e : h₀.get? D with
      | none => rfl
      | some ob => have := F.keep _ _ e; rw [hn] at this; cases this
  · exact ⟨hk _ _ (N p hp).1, (N p hp).2⟩
theorem wants_form {h₀ h : Heap} {L Wa : Addr} {R : List (Addr × Obj)} {x : Str} {t1 t2 t3 : Tok} (N : News h₀ L h ((Wa, lobj [.str x t1, .str (want2 x) t2, .str (want3 x) t3] 0) :: R)) :
    ∃ lw : List (Str × Tok), lw.map (fun p => p.1) = wantsOf x ∧ News h₀ L h ((Wa, lobj (strValues lw) 0) :: R) := ⟨[(x, t1), (want2 x, t2), (want3 x, t3)], rfl, N⟩

section
local macro_rules | `(tactic| walk_at "eval Name") => `(tactic| k_dflt walk_at "m name")
local macro_rules | `(tactic| walk_at "eval ListComp") => `(tactic| ((with_reducible show wpAny _ _ (eval _ _) _ _ _); refine stopHere ?_))
local macro_rules | `(tactic| walk_at "pyIter ref") => `(tactic| ((with_reducible show wpAny _ _ (pyIter _) _ _ _); refine stopHere ?_))
local macro_rules | `(tactic| walk_at "call type:str") => `(tactic| ((with_reducible show wpAny _ _ (call (Value.type "str") [Value.ref _]) _ _ _); refine stopHere ?_))
local macro_rules | `(tactic| walk_at "exec For Name Name cons nil") => `(tactic| ((with_reducible show wpAny _ _ (exec (Stmt.For _ _ _ [] _) _) _ _ _); refine stopHere ?_))

theorem law_for15 {w : World} {dp un : Nat} {fr : Option (List Env)} {s : Shared} {E : Value → Shared → Prop} {Q : Flow → Shared → Prop} {mean : ExcName → Option Value} {mg mb : Str → Option Value} {h₀ : Heap} {L fa P : Addr} {cd : Value} {m : Str → Option Value} {o4 o5 : Obj} {d5 : Option Value} {l : List (Str × Tok)} {xs : List Str} {nP : Nat} {R : List (Addr × Obj)}
  (X : (hd.heap_39 w.params).In h₀) (TT : Top hd.view_39 (looseW hd.view_39 []) mean mg mb h₀) (hu : un + 400 < cLine) (hroom : dp < recursionLimit)
  (F : Fr h₀ L s.heap m) (N : News h₀ L s.heap ((L + 1 + 1 + 1 + 1 + 1, o5) :: R)) (hd5 : o5.data = .cell d5) (hR5 : ∀ p ∈ R, p.1 ≠ L + 1 + 1 + 1 + 1 + 1) (hP : (P, lobj (strValues l) nP) ∈ R) (hm4 : (L + 1 + 1 + 1 + 1, o4) ∈ R) (hd4 : o4.data = .cell (some (.ref P))) (hl : l.map (fun p => p.1) = xs) (hx : ∀ x ∈ xs, x.length ≤ 20) (hx6 : xs.length = 6) (heq : ∀ x ∈ xs, ∀ y ∈ xs, (wantsOf x).map (fun v => em v y) = drB x y)
  (hQ : ∀ h' tk m' o5', Fr h₀ L h' m' → News h₀ L h' ((L + 1 + 1 + 1 + 1 + 1, o5') :: R) → Q .next { s with heap := h', toks := tk }) :
  wpAny (model PySem.Challenge.rw_wb0004_01.row.prog w) ({ handled := none, depth := dp, frames := fr, guards := some [], units := un } : Around) (exec (lawSt 15) (envOfC (Str.ofString "law") lawScope L fa cd)) Q E s := by
    revert X TT; w_top off; k_fill; intro X TT
    refine (show wpAny _ _ (exec (Stmt.For _ _ _ [] _) _) _ _ _ from ?_)
    refine for_list (h₀ := h₀) (items := (strValues l).toArray) (lx := P) rfl F N (fun Q' hq => wpAny_Name (wpAny_loadName_cell rfl rfl rfl (cell_of N (.tail _ hm4) hd4) hq) (by decide))
      (fun i m₁ news₁ => ∃ o5', (∃ d, o5'.data = .cell d) ∧ news₁ = (L + 1 + 1 + 1 + 1 + 1, o5') :: R) ⟨o5, ⟨_, hd5⟩, rfl⟩ ?_ ?_ ?_
    · rintro i m₁ news₁ h' ⟨o5', _, rfl⟩ F' N'
      exact ⟨_, (N' _ (.tail _ hP)).1, rfl, _, rfl⟩
    · rintro i v m₁ news₁ h₁ tk₁ E₁ I oI hv ⟨o5', ⟨d5', hd5'⟩, rfl⟩ F₁ N₁ hn₁
      clear F N
      obtain ⟨x, tx, rfl, hxi⟩ := strVal_get (by simpa using hv)
      rw [hl] at hxi
      have hx20 : x.length ≤ 20 := hx x (List.mem_of_getElem? hxi)
      refine wpAny_assign_Name (wpAny_storeName_local rfl F₁.ns (fun h₃ hn₃ hs₃ => ?_) rfl)
      have F9 := F₁.set hn₃ hs₃
      have N9 := N₁.set hs₃
      clear F₁ N₁ hn₃ hs₃
      k_steps
      unfold Stop
      rename Fr _ _ _ _ => F8; rename News _ _ _ _ => N8
      rename_i Wa hA hWl h8
      obtain ⟨lw, hlw, N8⟩ := wants_form N8
      have hWc : Wa ≠ L + 1 + 1 + 1 + 1 + 1 := Nat.ne_of_gt hWl.2.1
      have hIc : I ≠ L + 1 + 1 + 1 + 1 + 1 := Ne.symm (hn₁ _ (.head _))
      have hRI : ∀ p ∈ R, p.1 ≠ I := fun p hp => hn₁ p (.tail _ hp)
      have N8' : News h₀ L h8 ((L + 1 + 1 + 1 + 1 + 1, o5') :: (Wa, lobj (strValues lw) 0) :: (I, oI) :: R) := fun p hp => N8 p (by
        rcases List.mem_cons.mp hp with rfl | hp
        · exact .tail _ (.tail _ (.head _))
        · rcases List.mem_cons.mp hp with rfl | hp
          · exact .head _
          · rcases List.mem_cons.mp hp with rfl | hp
            · exact .tail _ (.head _)
            · exact .tail _ (.tail _ (.tail _ hp)))
      clear N8
      refine for_list (h₀ := h₀) (items := (strValues l).toArray) (lx := P) rfl F8 N8' (fun Q' hq => wpAny_Name (wpAny_loadName_cell rfl rfl rfl (cell_of N8' (.tail _ (.tail _ (.tail _ hm4))) hd4) hq) (by decide))
        (fun j m₂ news₂ => m₂ (Str.ofString "few") = some (.str x tx) ∧ m₂ (Str.ofString "wants") = some (.ref Wa) ∧ ∃ o5', (∃ d, o5'.data = .cell d) ∧ news₂ = (L + 1 + 1 + 1 + 1 + 1, o5') :: (Wa, lobj (strValues lw) 0) :: (I, oI) :: R) ⟨rfl, rfl, o5', ⟨_, hd5'⟩, rfl⟩ ?_ ?_ ?_
      · rintro j m₂ news₂ h' ⟨_, _, o5'', _, rfl⟩ F' N'
        exact ⟨_, (N' _ (.tail _ (.tail _ (.tail _ hP)))).1, rfl, _, rfl⟩
      · rintro j v₂ m₂ news₂ h₂ tk₂ E₂ I₂ oI₂ hv₂ ⟨hf, hw, o5'', ⟨d5'', hd5''⟩, rfl⟩ F₂ N₂ hn₂
        clear F8 N8'
        obtain ⟨y, ty, rfl, hyi⟩ := strVal_get (by simpa using hv₂)
        rw [hl] at hyi
        have hy20 : y.length ≤ 20 := hx y (List.mem_of_getElem? hyi)
        have hx1k : x.length ≤ 1000 := Nat.le_trans hx20 (by decide)
        have hy1k : y.length ≤ 1000 := Nat.le_trans hy20 (by decide)
        have hexy := heq x (List.mem_of_getElem? hxi) y (List.mem_of_getElem? hyi)
        have hI₂c : I₂ ≠ L + 1 + 1 + 1 + 1 + 1 := Ne.symm (hn₂ _ (.head _))
        refine wpAny_assign_Name (wpAny_storeName_cell rfl rfl rfl ⟨o5'', (N₂ _ (.tail _ (.head _))).1, hd5''⟩ fun h₃ hv₃ hs₃ => ?_)
        obtain ⟨oM, hoM, hdM⟩ := hv₃
        have hCC := (N₂ (L + 1 + 1 + 1 + 1 + 1, o5'') (.tail _ (.head _))).2
        have F9 : Fr h₀ L h₃ m₂ := ⟨F₂.ns.sameBut hs₃ (Ne.symm hCC.1), fun b ob e => (hs₃.2 b (fun q => by rw [q, hCC.2] at e; cases e)).trans (F₂.keep b ob e), F₂.above⟩
        have N9 : News h₀ L h₃ ((I₂, oI₂) :: (L + 1 + 1 + 1 + 1 + 1, oM) :: (Wa, lobj (strValues lw) 0) :: (I, oI) :: R) := by
          intro p hp
          rcases List.mem_cons.mp hp with rfl | hp
          · exact ⟨(hs₃.2 _ hI₂c).trans (N₂ _ (.head _)).1, (N₂ _ (.head _)).2⟩
          · rcases List.mem_cons.mp hp with rfl | hp
            · exact ⟨hoM, hCC⟩
            · refine ⟨(hs₃.2 _ ?_).trans (N₂ p (.tail _ (.tail _ hp))).1, (N₂ p (.tail _ (.tail _ hp))).2⟩
              rcases List.mem_cons.mp hp with rfl | hp
              · exact hWc
              · rcases List.mem_cons.mp hp with rfl | hp
                · exact hIc
                · exact hR5 p hp
        clear F₂ N₂ hs₃ hoM hCC
        have hn₂' : ∀ p ∈ (L + 1 + 1 + 1 + 1 + 1, oM) :: (Wa, lobj (strValues lw) 0) :: (I, oI) :: R, p.1 ≠ I₂ := fun p hp => by
          rcases List.mem_cons.mp hp with rfl | hp
          · exact Ne.symm hI₂c
          · exact hn₂ p (.tail _ hp)
        k_steps
        unfold Stop
        refine' eval_comp ?hclos ?hkind ?hnames ?_ ?hs
        case hclos => with_unfolding_all rfl
        case hkind => rfl
        case hnames => decide
        case hs => intro _; with_unfolding_all rfl
        k_steps
        unfold Stop
        rename Fr _ _ _ _ => F8; rename News _ _ _ _ => N8
        refine wpAny_pyIter_list (items := (strValues lw).toArray) ⟨_, (N8 (Wa, lobj (strValues lw) 0) (by walk_at "m mem")).1, rfl, _, rfl⟩ ?_
        have eLw : (strValues lw).toArray.size = (wantsOf x).length := by rw [← hlw]; simp [strValues]
        refine' comp_core (h₀ := h₀) (srcList rfl (lx := Wa) (strValues lw).toArray) ?hsz (F8.push _) (N8.push F8 _) ?hap ?hst
          (fun _ k ys led => ys = (((wantsOf x).take k).map (fun v => em v y)).map Value.bool ∧ led = (I₂, oI₂) :: (L + 1 + 1 + 1 + 1 + 1, oM) :: (Wa, lobj (strValues lw) 0) :: (I, oI) :: R) ?h0 ?hSh ?step ?hfin ?ht
        case hsz => rw [eLw, sizeLine_eq]; show 3 ≤ 16777216; decide
        case hap => intro p hp; exact Nat.ne_of_lt (Heap.lt_size (N8 p hp).1)
        case hst => exact ⟨rfl, rfl⟩
        case h0 => intro C hC; exact ⟨rfl, rfl⟩
        case hSh =>
          rintro k C g h' mC ys led G ⟨rfl, rfl⟩ F' N'
          exact ⟨_, (N' (Wa, lobj (strValues lw) 0) (by walk_at "m mem")).1, rfl, _, rfl⟩
        case ht => intros; rfl
        case step =>
          rintro k v3 ys3 nD3 led3 hh mC tk3 E3 g C D oI3 G hk hv3 ⟨rfl, rfl⟩ hlen FC NC hap3 hDI
          clear F8 N8
          obtain ⟨z, tz, rfl, hzi⟩ := strVal_get (by simpa using hv3)
          rw [hlw] at hzi
          have hz1k : z.length ≤ 1000 := wants_len hx20 z (List.mem_of_getElem? hzi)
          have X' := X.keeps G.stays
          have T' := TT.keeps G.stays
          clear X TT
          refine wpAny_assign_Name (wpAny_storeName_local rfl FC.ns (fun h₄ hn₄ hs₄ => ?_) rfl)
          have F9 := FC.set hn₄ hs₄
          have N9 := NC.set hs₄
          clear FC NC hn₄ hs₄
          refine ifs_nil ?_
          rw [if_pos rfl]
          k_steps
          rename Fr _ _ _ _ => F9; rename News _ _ _ _ => N9
          refine ell_call rfl hroom (X'.keeps F9.keep) (T'.keeps F9.keep) hz1k hy1k fun h5 tk5 hk5 => ?_
          refine ⟨_, _, _, _, rfl, F9.keeps hk5, fun p hp => ⟨hk5 _ _ (N9 p hp).1, (N9 p hp).2⟩, hap3, ?_, rfl⟩
          rw [List.take_add_one, hzi, List.map_append, List.map_append]; rfl
        case hfin =>
          rintro h' tk3 mC ys3 nD3 led3 g C D G FC NC hap3 hDL hCL hDC hlen ⟨rfl, rfl⟩
          refine fin_eval G FC NC fun h9 F9 N9 => ?_
          clear F8 N8 FC NC
          rw [eLw, List.take_length, hexy] at N9
          k_steps
          unfold Stop
          rename Fr _ _ _ _ => F8; rename News _ _ _ _ => N8
          refine str_bools rfl (units_ok4 hu) F8 N8 (.head _) rfl (drB_len x y) fun h2 u2 tk2 F2 N2 => ?_
          clear F8 N8
          k_steps
          rename Fr _ _ _ _ => F8; rename News _ _ _ _ => N8
          refine dr_call rfl hroom (units_ok2 hu) (X.keeps F8.keep) (TT.keeps F8.keep) hx1k hy1k fun h6 tk6 D6 n6 hk6 hn6 hg6 => ?_
          have F6 := F8.keeps hk6
          have N6 := news_fresh F8 N8 hk6 hn6 hg6
          clear F8 N8
          k_steps
          unfold Stop
          rename Fr _ _ _ _ => F8; rename News _ _ _ _ => N8
          refine str_bools rfl (units_ok4 hu) F8 N8 (.head _) rfl (drB_len x y) fun h7 u7 tk7 F7 N7 => ?_
          clear F8 N8
          refine ne_same rfl ?_
          k_steps
          rename Fr _ _ _ _ => F8; rename News _ _ _ _ => N8
          exact .inl ⟨rfl, _, _, _, _, rfl, F8, fun p hp => N8 p (.tail _ (.tail _ hp)), hn₂', hf, hw, oM, ⟨_, hdM⟩, rfl⟩
      · rintro h' tk m' news' F' N' ⟨_, _, o5'', ⟨d, hd'⟩, rfl⟩
        refine wpAny_execs_nil ?_
        refine .inl ⟨rfl, h', tk, m', _, rfl, F', fun p hp => N' p ?_, fun p hp => ?_, o5'', ⟨d, hd'⟩, rfl⟩
        · rcases List.mem_cons.mp hp with rfl | hp
          · exact .tail _ (.tail _ (.head _))
          · rcases List.mem_cons.mp hp with rfl | hp
            · exact .head _
            · exact .tail _ (.tail _ (.tail _ hp))
        · rcases List.mem_cons.mp hp with rfl | hp
          · exact Ne.symm hIc
          · exact hRI p hp
    · rintro h' tk m' news' F' N' ⟨o5', _, rfl⟩
      exact hQ _ _ _ _ F' N'
end

end
-- part P1
section
open PySem.Calls PySem.Builtin PySem.Builtin.Str
abbrev Lc (x : Str) : List Nat := x.cps.toList
theorem lc_len (x : Str) : (Lc x).length = x.length := by simp [Str.length]
theorem lc_ext {x y : Str} (h : Lc x = Lc y) : x = y := Str.ext' (Array.toList_inj.mp h)
theorem lc_mk (l : List Nat) : Lc ⟨l.toArray⟩ = l := rfl
theorem str_beq (x y : Str) : (x == y) = decide (Lc x = Lc y) := by
  by_cases h : x = y
  · subst h; simp
  · have h2 : ¬ Lc x = Lc y := fun e => h (lc_ext e)
    rw [decide_eq_false h2]
    simp [h]
theorem lc_app (x y : Str) : Lc (x ++ y) = Lc x ++ Lc y := by
  show (x ++ y).cps.toList = _
  rw [Str.cps_append, Array.toList_append]

def clipN (n : Nat) (i : Int) : Nat := (max 0 (min (if i < 0 then i + n else i) n)).toNat
theorem clipN_le (n : Nat) (i : Int) : clipN n i ≤ n := by unfold clipN; omega
theorem clipN_nat (n k : Nat) : clipN n (k : Int) = min k n := by unfold clipN; split <;> omega
theorem clip_slice (i j : Int) (n : Nat) : strSliceIndices (some i) (some j) 1 n = strSliceIndices (some ((clipN n i : Nat) : Int)) (some ((clipN n j : Nat) : Int)) 1 n := by
  have h1 : ¬ (((clipN n i : Nat) : Int) < 0) := by omega
  have h2 : ¬ (((clipN n j : Nat) : Int) < 0) := by omega
  have e1 : max (0 : Int) (min ((clipN n i : Nat) : Int) n) = max 0 (min (if i < 0 then i + n else i) n) := by
    have := clipN_le n i
    unfold clipN at *; omega
  have e2 : max (0 : Int) (min ((clipN n j : Nat) : Int) n) = max 0 (min (if j < 0 then j + n else j) n) := by
    have := clipN_le n j
    unfold clipN at *; omega
  simp only [strSliceIndices, h1, h2, if_false, e1, e2, show ((1 : Int) > 0) = True from by simp, if_true]
theorem slice_L (x : Str) (i j : Int) : Lc (Txt.slice x (some i) (some j)) = ((Lc x).drop (clipN x.length i)).take (clipN x.length j - clipN x.length i) := by
  have hx : Txt.slice x (some i) (some j) = StrLaws.sliceText x (some i) (some j) := rfl
  have hc : StrLaws.sliceText x (some i) (some j) = StrLaws.sliceText x (some ((clipN x.length i : Nat) : Int)) (some ((clipN x.length j : Nat) : Int)) := by
    unfold StrLaws.sliceText; rw [clip_slice]
  rw [hx, hc]
  have ha := clipN_le x.length i
  have hb := clipN_le x.length j
  generalize clipN x.length i = a at ha ⊢
  generalize clipN x.length j = b at hb ⊢
  by_cases hab : a ≤ b
  · rw [StrLaws.sliceText_nat x hab hb]
  · have e0 : strSliceIndices (some (a : Int)) (some (b : Int)) 1 x.length = [] := by
      have h1 : ¬ ((a : Int) < 0) := by omega
      have h2 : ¬ ((b : Int) < 0) := by omega
      have e1 : max (0 : Int) (min (a : Int) (x.length : Int)) = a := by omega
      have e2 : max (0 : Int) (min (b : Int) (x.length : Int)) = b := by omega
      have hn : ¬ ((a : Int) < b) := by omega
      simp only [strSliceIndices, sliceRange, h1, h2, if_false, e1, e2, show ((1 : Int) > 0) = True from by simp, if_true, hn]
      rfl
    unfold StrLaws.sliceText
    rw [e0]
    have hne : ¬ ((([] : List Nat).length == x.length) = true) := by simp; omega
    rw [if_neg (by simpa using hne)]
    have : b - a = 0 := by omega
    rw [this]; simp
theorem slice_to (x : Str) (j : Int) : Lc (Txt.slice x none (some j)) = (Lc x).take (clipN x.length j) := by
  have e : Txt.slice x none (some j) = Txt.slice x (some 0) (some j) := by unfold Txt.slice; rw [StrLaws.sliceIdx_none_lo]
  rw [e, slice_L]
  have : clipN x.length 0 = 0 := by unfold clipN; split <;> omega
  rw [this]; simp
theorem slice_from (x : Str) (i : Int) : Lc (Txt.slice x (some i) none) = (Lc x).drop (clipN x.length i) := by
  have e : Txt.slice x (some i) none = Txt.slice x (some i) (some (x.length : Int)) := by unfold Txt.slice; rw [StrLaws.sliceIdx_none_hi]
  rw [e, slice_L, clipN_nat, Nat.min_self]
  refine List.take_of_length_le ?_
  rw [List.length_drop, lc_len]; omega
theorem slice_nat (x : Str) {p q : Nat} (h : p ≤ q) : Lc (Txt.slice x (some (p : Int)) (some (q : Int))) = ((Lc x).drop p).take (q - p) := by
  rw [slice_L, clipN_nat, clipN_nat]
  have hl := lc_len x
  by_cases h1 : q ≤ x.length
  · rw [Nat.min_eq_left h1, Nat.min_eq_left (by omega)]
  · by_cases h2 : p ≤ x.length
    · rw [Nat.min_eq_left h2, Nat.min_eq_right (by omega)]
      rw [List.take_of_length_le (by rw [List.length_drop]; omega), List.take_of_length_le (by rw [List.length_drop]; omega)]
    · rw [Nat.min_eq_right (by omega), Nat.min_eq_right (by omega), List.drop_eq_nil_of_le (by omega), List.drop_eq_nil_of_le (by omega)]; simp
theorem slice_to_nat (x : Str) (q : Nat) : Lc (Txt.slice x none (some (q : Int))) = (Lc x).take q := by
  rw [slice_to, clipN_nat, ← lc_len]
  by_cases h : q ≤ (Lc x).length
  · rw [Nat.min_eq_left h]
  · rw [Nat.min_eq_right (by omega), List.take_length, List.take_of_length_le (by omega)]
theorem slice_from_nat (x : Str) (p : Nat) : Lc (Txt.slice x (some (p : Int)) none) = (Lc x).drop p := by
  rw [slice_from, clipN_nat, ← lc_len]
  by_cases h : p ≤ (Lc x).length
  · rw [Nat.min_eq_left h]
  · rw [Nat.min_eq_right (by omega), List.drop_length, List.drop_eq_nil_of_le (by omega)]

theorem at_iff (y w : Str) (e i : Nat) : StrLaws.At y w e i ↔ i + w.length ≤ e ∧ ((Lc y).drop i).take w.length = Lc w := by
  unfold StrLaws.At
  rw [StrLaws.subAt_eq]
  simp
theorem find4_spec (y w : Str) {a e : Nat} (he : e ≤ y.length) :
    (find4 y w a e = -1 ∧ ∀ i, a ≤ i → ¬ StrLaws.At y w e i) ∨ ∃ i : Nat, find4 y w a e = i ∧ a ≤ i ∧ StrLaws.At y w e i ∧ ∀ k, a ≤ k → k < i → ¬ StrLaws.At y w e k := by
  unfold find4
  have e1 : fromIndex y.length (a : Int) = a := by unfold fromIndex; split <;> omega
  have e2 : min (fromIndex y.length (e : Int)) y.length = e := by unfold fromIndex; split <;> omega
  rw [e1, e2, StrLaws.occ_eq]
  rcases StrLaws.occ_first y w e 1 (Nat.le_refl 1) (List.range' a (e + 1 - a)) a (fun i hi => by have := List.mem_range'_1.mp hi; omega) with ⟨h0, hn⟩ | ⟨pre, b, post, eq, h0, hb, hn⟩
  · refine .inl ⟨by rw [h0], fun i hlo hi => ?_⟩
    exact hn i (by have := hi.1; rw [List.mem_range'_1]; omega) hi
  · have hs := StrLaws.range'_split_from eq
    refine .inr ⟨b, ?_, hs.1, hb, fun k hk0 hk => hn k (hs.2 k hk0 hk)⟩
    generalize (forIn (List.range' a (e + 1 - a)) ((#[] : Array Nat), a) (StrLaws.occBody y w e 1)).run.fst = arr at h0
    have h1 : arr.toList[0]? = some b := by simpa using h0
    cases hL : arr.toList with
    | nil => rw [hL] at h1; cases h1
    | cons c t => rw [hL] at h1; simp at h1; rw [h1]
theorem find4_empty (y : Str) {a e : Nat} (he : e ≤ y.length) (ha : a ≤ e) : find4 y Str.empty a e = a := by
  have hA : StrLaws.At y Str.empty e a := (at_iff _ _ _ _).mpr ⟨ha, rfl⟩
  rcases find4_spec y Str.empty (a := a) he with ⟨_, hn⟩ | ⟨i, hi, h1, _, hn⟩
  · exact absurd hA (hn a (Nat.le_refl _))
  · rcases Nat.lt_or_ge a i with h | h
    · exact absurd hA (hn a (Nat.le_refl _) h)
    · rw [hi]; omega

theorem lc_dots : Lc dots = [46, 46, 46] := by decide +kernel
theorem dots_len : dots.length = 3 := by decide +kernel

def glueL : List (List Nat) → List Nat
  | [] => []
  | [p] => p
  | p :: q :: r => p ++ [46, 46, 46] ++ glueL (q :: r)

theorem at_dots {v : Str} {k : Nat} (h : StrLaws.At v dots v.length k) : (Lc v)[k]? = some 46 := by
  have h2 := ((at_iff _ _ _ _).mp h).2
  rw [dots_len, lc_dots] at h2
  have h3 := congrArg (fun l => l[0]?) h2
  simp only [List.getElem?_cons_zero] at h3
  rw [List.getElem?_take_of_lt (by omega), List.getElem?_drop] at h3
  simpa using h3
theorem split_chain (v : Str) : ∀ (ps : List (List Nat)) (a : Nat), ps ≠ [] → (∀ p ∈ ps, 46 ∉ p) → a ≤ v.length → (Lc v).drop a = glueL ps →
    ∀ cuts f, StrLaws.ChainG v dots v.length a cuts f → (∀ k, f ≤ k → ¬ StrLaws.At v dots v.length k) → StrLaws.partsFrom v dots.length a cuts = ps.map (fun p => (⟨p.toArray⟩ : Str)) ∧ cuts.length + 1 = ps.length
  | [], _, h, _, _, _, _, _, _, _ => absurd rfl h
  | [p], a, _, hp, ha, hd, cuts, f, hc, hn => by
    have hno : ∀ k, a ≤ k → ¬ StrLaws.At v dots v.length k := fun k hk hA => by
      have h := at_dots hA
      have h2 : ((Lc v).drop a)[k - a]? = some 46 := by rw [List.getElem?_drop]; rw [show a + (k - a) = k by omega]; exact h
      rw [hd] at h2
      exact hp p (.head _) (List.mem_of_getElem? h2)
    cases cuts with
    | cons c r => exact absurd hc.2.1 (hno c hc.1)
    | nil =>
      refine ⟨?_, rfl⟩
      show [strSub v a v.length] = [_]
      refine congrArg (fun z => [z]) (lc_ext ?_)
      show (strSub v a v.length).cps.toList = p
      rw [StrLaws.strSub_toList]
      rw [show v.cps.toList.drop a = p from hd]
      refine List.take_of_length_le ?_
      have := congrArg List.length hd
      rw [List.length_drop, lc_len] at this
      show p.length ≤ _
      simp only [glueL] at this
      omega
  | p :: q :: r, a, _, hp, ha, hd, cuts, f, hc, hn => by
    have hd' : (Lc v).drop a = p ++ ([46, 46, 46] ++ glueL (q :: r)) := by rw [hd, glueL, List.append_assoc]
    have hlen := congrArg List.length hd'
    rw [List.length_drop, lc_len, List.length_append, List.length_append] at hlen
    simp only [List.length_cons, List.length_nil] at hlen
    have hdp : (Lc v).drop (a + p.length) = [46, 46, 46] ++ glueL (q :: r) := by rw [← List.drop_drop, hd', List.drop_left]
    have hA : StrLaws.At v dots v.length (a + p.length) := (at_iff _ _ _ _).mpr ⟨by rw [dots_len]; omega, by rw [hdp, dots_len, lc_dots]; rfl⟩
    have hno : ∀ k, a ≤ k → k < a + p.length → ¬ StrLaws.At v dots v.length k := fun k hk hk2 hB => by
      have h := at_dots hB
      have h2 : ((Lc v).drop a)[k - a]? = some 46 := by rw [List.getElem?_drop]; rw [show a + (k - a) = k by omega]; exact h
      rw [hd', List.getElem?_append_left (by omega)] at h2
      exact hp p (.head _) (List.mem_of_getElem? h2)
    cases cuts with
    | nil =>
      have ef : f = a := hc
      exact absurd hA (hn _ (by omega))
    | cons c cs =>
      obtain ⟨h1, h2, h3, h4⟩ := hc
      have ec : c = a + p.length := by
        rcases Nat.lt_trichotomy c (a + p.length) with h | h | h
        · exact absurd h2 (hno c h1 h)
        · exact h
        · exact absurd hA (h3 _ (by omega) h)
      subst ec
      rw [dots_len] at h4
      have ih := split_chain v (q :: r) (a + p.length + 3) (by simp) (fun x hx => hp x (.tail _ hx)) (by omega) (by rw [← List.drop_drop, hdp]; rfl) cs f h4 hn
      refine ⟨?_, by rw [List.length_cons, List.length_cons, ih.2]⟩
      show strSub v a (a + p.length) :: StrLaws.partsFrom v dots.length (a + p.length + dots.length) cs = _
      rw [dots_len] at ih ⊢
      rw [ih.1, List.map_cons]
      refine congrArg (fun z => z :: _) (lc_ext ?_)
      show (strSub v a (a + p.length)).cps.toList = p
      rw [StrLaws.strSub_toList, show v.cps.toList.drop a = _ from hd', show a + p.length - a = p.length by omega, List.take_left]
theorem split_glue (v : Str) {ps : List (List Nat)} (h2 : 2 ≤ ps.length) (hp : ∀ p ∈ ps, 46 ∉ p) (hv : Lc v = glueL ps) :
    Txt.split v dots = ps.map (fun p => (⟨p.toArray⟩ : Str)) ∧ (occurrences v dots 0 v.length 1).isEmpty = false := by
  obtain ⟨f, hc, hn⟩ := StrLaws.occ_tight v dots (by rw [dots_len]; decide)
  have hne : ps ≠ [] := by rintro rfl; cases h2
  have hs := split_chain v ps 0 hne hp (Nat.zero_le _) (by simpa using hv) _ f hc hn
  have hcut : ∃ c r, occurrences v dots 0 v.length (v.length + 1) = c :: r := by
    cases hcs : occurrences v dots 0 v.length (v.length + 1) with
    | nil => rw [hcs] at hs; have := hs.2; simp at this; omega
    | cons c r => exact ⟨c, r, rfl⟩
  obtain ⟨c, r, hcr⟩ := hcut
  have hA : StrLaws.At v dots v.length c := by rw [hcr] at hc; exact hc.2.1
  have hl3 := hA.1
  rw [dots_len] at hl3
  constructor
  · unfold Txt.split
    have hk : Builtin.Str.strKind dots = 1 := by decide +kernel
    have h1 : (decide (v.length < dots.length) || decide (Builtin.Str.strKind v < Builtin.Str.strKind dots)) = false := by
      have := strKind_pos v
      rw [hk, dots_len]; simp; omega
    rw [h1]
    have h3 : (occurrences v dots 0 v.length (v.length + 1)).isEmpty = false := by rw [hcr]; rfl
    rw [h3, StrLaws.partsBetween_eq]
    exact hs.1
  · rcases StrLaws.occ_head v dots 1 (Nat.le_refl 1) with ⟨_, hno⟩ | ⟨i, r, e, _⟩
    · exact absurd hA (hno c)
    · rw [e]; rfl
theorem no_dots (v : Str) (h : 46 ∉ Lc v) : (occurrences v dots 0 v.length 1).isEmpty = true := by
  rcases StrLaws.occ_head v dots 1 (Nat.le_refl 1) with ⟨e, _⟩ | ⟨i, r, e, hA, _⟩
  · rw [e]; rfl
  · exact absurd (List.mem_of_getElem? (at_dots hA)) h

end
-- part P2
section
open PySem.Calls PySem.Builtin PySem.Builtin.Str
/-- x meets y sign by sign -/
def subL : List Nat → List Nat → Bool
  | [], _ => true
  | _ :: _, [] => false
  | c :: cs, d :: ds => if c = d then subL cs ds else subL (c :: cs) ds
theorem subL_none {c : Nat} {cs : List Nat} : ∀ {l : List Nat}, c ∉ l → subL (c :: cs) l = false
  | [], _ => by simp [subL]
  | d :: l, h => by
    have h1 : ¬ c = d := fun e => h (e ▸ .head _)
    rw [subL, if_neg h1]
    exact subL_none fun hm => h (.tail _ hm)
theorem subL_skip {c : Nat} {cs post : List Nat} : ∀ {pre : List Nat}, c ∉ pre → subL (c :: cs) (pre ++ c :: post) = subL cs post
  | [], _ => by simp [subL]
  | d :: l, h => by
    have h1 : ¬ c = d := fun e => h (e ▸ .head _)
    rw [List.cons_append, subL, if_neg h1]
    exact subL_skip fun hm => h (.tail _ hm)
theorem subL_nil (l : List Nat) : subL [] l = true := by cases l <;> rfl

theorem met_sub (x : Str) : ∀ (ys : List Nat) (k : Nat), k ≤ x.length → (metRun x ys (k : Int) == (x.length : Int)) = subL ((Lc x).drop k) ys
  | [], k, hk => by
    show ((k : Int) == (x.length : Int)) = _
    by_cases h : k = x.length
    · subst h
      rw [List.drop_eq_nil_of_le (by rw [lc_len]; exact Nat.le_refl _), subL_nil]; simp
    · have hd : (Lc x).drop k = (Lc x)[k]'(by rw [lc_len]; omega) :: (Lc x).drop (k + 1) := List.drop_eq_getElem_cons _
      rw [hd, subL]; simp; omega
  | c :: ys, k, hk => by
    show (metRun x ys (if (Txt.slice x (some (k : Int)) (some ((k : Int) + 1)) == ⟨#[c]⟩) = true then (k : Int) + 1 else k) == (x.length : Int)) = _
    have e1 : ((k : Int) + 1) = ((k + 1 : Nat) : Int) := by push_cast; rfl
    rw [e1, str_beq, slice_nat x (Nat.le_succ k)]
    have e2 : Lc (⟨#[c]⟩ : Str) = [c] := rfl
    rw [e2]
    by_cases h : k = x.length
    · subst h
      have hd : (Lc x).drop x.length = [] := List.drop_eq_nil_of_le (by rw [lc_len]; exact Nat.le_refl _)
      have ih := met_sub x ys x.length (Nat.le_refl _)
      rw [hd, subL_nil] at ih ⊢
      rw [if_neg (by simp)]
      exact ih
    · have hlt : k < x.length := by omega
      have hd : (Lc x).drop k = (Lc x)[k]'(by rw [lc_len]; omega) :: (Lc x).drop (k + 1) := List.drop_eq_getElem_cons _
      generalize (Lc x)[k]'(by rw [lc_len]; omega) = d at hd
      have ih1 := met_sub x ys (k + 1) (by omega)
      have ih0 := met_sub x ys k hk
      rw [hd, subL]
      have e3 : k + 1 - k = 1 := by omega
      rw [e3]
      by_cases hdc : d = c
      · rw [if_pos (by subst hdc; simp), if_pos hdc, ih1]
      · rw [if_neg (by simp [hdc]), if_neg hdc, ih0, hd]
theorem metB_sub (x y : Str) : metB x y = subL (Lc x) (Lc y) := by
  have h := met_sub x y.cps.toList 0 (Nat.zero_le _)
  rw [List.drop_zero] at h
  exact h

def sgl (cs : List Nat) : List Str := cs.map fun c => (⟨#[c]⟩ : Str)
theorem at_one (y : Str) (c e i : Nat) (he : e ≤ y.length) : StrLaws.At y ⟨#[c]⟩ e i ↔ i < e ∧ (Lc y)[i]? = some c := by
  rw [at_iff]
  have e1 : (⟨#[c]⟩ : Str).length = 1 := rfl
  have e2 : Lc (⟨#[c]⟩ : Str) = [c] := rfl
  rw [e1, e2]
  constructor
  · rintro ⟨h1, h2⟩
    exact ⟨by omega, StrLaws.take1_drop.mp (by rw [h2]; simp)⟩
  · rintro ⟨h1, h2⟩
    exact ⟨by omega, eq_of_beq (StrLaws.take1_drop.mpr h2)⟩
theorem find_sub (y : Str) : ∀ (cs : List Nat) (a : Nat), a ≤ y.length → findAll y (y.length : Int) (sgl cs ++ [Str.empty]) a = subL cs ((Lc y).drop a)
  | [], a, ha => by
    show (if find4 y Str.empty a y.length < 0 then false else findAll y y.length [] (find4 y Str.empty a y.length + (Str.empty.length : Int))) = _
    rw [find4_empty y (Nat.le_refl _) ha, if_neg (by omega), subL_nil]; rfl
  | c :: cs, a, ha => by
    show (if find4 y ⟨#[c]⟩ a y.length < 0 then false else findAll y y.length (sgl cs ++ [Str.empty]) (find4 y ⟨#[c]⟩ a y.length + ((⟨#[c]⟩ : Str).length : Int))) = _
    rcases find4_spec y ⟨#[c]⟩ (a := a) (Nat.le_refl y.length) with ⟨h1, hn⟩ | ⟨i, h1, hai, hA, hn⟩
    · rw [h1, if_pos (by decide)]
      refine (subL_none fun hm => ?_).symm
      obtain ⟨j, hj⟩ := List.getElem?_of_mem hm
      rw [List.getElem?_drop] at hj
      have hlt : a + j < y.length := by rw [← lc_len]; exact (List.getElem?_eq_some_iff.mp hj).1
      exact hn (a + j) (by omega) ((at_one y c _ _ (Nat.le_refl _)).mpr ⟨hlt, hj⟩)
    · obtain ⟨hi, hg⟩ := (at_one y c _ _ (Nat.le_refl _)).mp hA
      rw [h1, if_neg (by omega)]
      have e1 : ((i : Int) + ((⟨#[c]⟩ : Str).length : Int)) = ((i + 1 : Nat) : Int) := by push_cast; rfl
      rw [e1, find_sub y cs (i + 1) (by omega)]
      have hd : (Lc y).drop a = ((Lc y).drop a).take (i - a) ++ c :: (Lc y).drop (i + 1) := by
        have h2 : (Lc y).drop i = c :: (Lc y).drop (i + 1) := by
          obtain ⟨hlt, hgc⟩ := List.getElem?_eq_some_iff.mp hg
          rw [List.drop_eq_getElem_cons hlt, hgc]
        have h3 : ((Lc y).drop a).drop (i - a) = (Lc y).drop i := by rw [List.drop_drop]; congr 1; omega
        rw [← h2, ← h3, List.take_append_drop]
      rw [hd]
      refine (subL_skip fun hm => ?_).symm
      obtain ⟨j, hj⟩ := List.getElem?_of_mem hm
      have hjl : j < i - a := by
        have h4 := (List.getElem?_eq_some_iff.mp hj).1
        rw [List.length_take] at h4; omega
      rw [List.getElem?_take_of_lt hjl, List.getElem?_drop] at hj
      exact hn (a + j) (by omega) (by omega) ((at_one y c _ _ (Nat.le_refl _)).mpr ⟨by omega, hj⟩)

theorem lc_ellip : Lc (Str.ofString "...") = [46, 46, 46] := by decide +kernel
theorem lc_glued (sep : Str) : ∀ ts : List Str, Lc (Str.join sep ts) = match ts with | [] => [] | t :: r => Lc t ++ (r.map fun z => Lc sep ++ Lc z).flatten
  | [] => rfl
  | [t] => by show Lc t = _; simp
  | t :: u :: r => by
    show Lc (t ++ sep ++ Str.join sep (u :: r)) = _
    rw [lc_app, lc_app, lc_glued sep (u :: r)]
    simp
theorem glueL_cons (p : List Nat) : ∀ ps : List (List Nat), glueL (p :: ps) = p ++ (ps.map fun z => [46, 46, 46] ++ z).flatten
  | [] => by simp [glueL]
  | q :: r => by
    rw [glueL, glueL_cons q r]; simp
theorem want_glue (x : Str) (hx : Lc x ≠ []) : Lc (wantOf x) = glueL ([] :: (((Lc x).map fun c => [c]) ++ [[]])) := by
  unfold wantOf
  rw [lc_app, lc_app]
  show Lc (Str.ofString "...") ++ Lc (glued (Str.ofString "...") ((Lc x).map fun c => (⟨#[c]⟩ : Str))) ++ _ = _
  rw [StrLaws.glued_eq_join, lc_glued, lc_ellip, glueL_cons]
  cases h : Lc x with
  | nil => exact absurd h hx
  | cons c cs =>
    have e : ∀ l : List Nat, (List.map (fun z => [46, 46, 46] ++ Lc z) (List.map (fun c => (⟨#[c]⟩ : Str)) l)).flatten = (List.map (fun z => [46, 46, 46] ++ z) (List.map (fun c => [c]) l)).flatten := by
      intro l
      rw [List.map_map, List.map_map]
      rfl
    simp only [List.map_cons, List.cons_append, List.nil_append, List.map_append, List.flatten_append, List.flatten_cons, List.map_nil, List.flatten_nil, List.append_nil]
    have e2 := e cs
    simp only [List.cons_append, List.nil_append] at e2
    rw [e2]
    simp
    rfl
theorem em_want {x y : Str} (hx : Lc x ≠ []) (h46 : 46 ∉ Lc x) : em (wantOf x) y = metB x y := by
  have hps : ∀ p ∈ ([] : List Nat) :: (((Lc x).map fun c => [c]) ++ [[]]), 46 ∉ p := by
    intro p hp
    rcases List.mem_cons.mp hp with rfl | hp
    · simp
    · rcases List.mem_append.mp hp with hp | hp
      · obtain ⟨c, hc, rfl⟩ := List.mem_map.mp hp
        intro h
        rw [List.mem_singleton.mp h] at h46
        exact h46 hc
      · rw [List.mem_singleton.mp hp]; simp
  obtain ⟨h1, h2⟩ := split_glue (wantOf x) (by simp) hps (want_glue x hx)
  unfold em
  rw [h2, h1]
  have e1 : (([] : List Nat) :: (((Lc x).map fun c => [c]) ++ [[]])).map (fun p => (⟨p.toArray⟩ : Str)) = Str.empty :: (sgl (Lc x) ++ [Str.empty]) := by
    rw [List.map_cons, List.map_append, List.map_map]; rfl
  rw [e1, if_neg (by decide)]
  have hg0 : (Str.empty :: (sgl (Lc x) ++ [Str.empty])).getD 0 Str.empty = Str.empty := rfl
  have hgl : (Str.empty :: (sgl (Lc x) ++ [Str.empty])).getD ((Str.empty :: (sgl (Lc x) ++ [Str.empty])).length - 1) Str.empty = Str.empty := by
    rw [List.getD_eq_getElem?_getD]
    simp
  unfold emWs
  rw [hg0, if_neg (by decide)]
  unfold emBack
  rw [hgl, if_neg (by decide)]
  unfold emTail
  rw [if_neg (by omega)]
  show (if find4 y Str.empty (0 : Int) y.length < 0 then false else findAll y y.length (sgl (Lc x) ++ [Str.empty]) (find4 y Str.empty (0 : Int) y.length + (Str.empty.length : Int))) = _
  have h0 := find4_empty y (Nat.le_refl y.length) (Nat.zero_le _)
  have h0' : find4 y Str.empty (0 : Int) y.length = 0 := h0
  rw [h0', if_neg (by decide)]
  have e3 : (0 : Int) + (Str.empty.length : Int) = ((0 : Nat) : Int) := rfl
  rw [e3, find_sub y (Lc x) 0 (Nat.zero_le _), List.drop_zero, metB_sub]

end
-- part P3
section
open PySem.Calls PySem.Builtin PySem.Builtin.Str
theorem em_same {x y : Str} (h46 : 46 ∉ Lc x) : em x y = (x == y) := by
  unfold em; rw [no_dots x h46, if_pos rfl]
theorem sw_iff (y p : Str) : Txt.startswith y p = true ↔ (Lc y).take p.length = Lc p := by
  unfold Txt.startswith
  rw [StrLaws.subAt_eq, List.drop_zero, Bool.and_eq_true, decide_eq_true_eq]
  constructor
  · rintro ⟨_, h⟩; exact eq_of_beq h
  · intro h
    refine ⟨?_, by simpa using h⟩
    have := congrArg List.length h
    rw [List.length_take, lc_len, lc_len] at this
    omega
theorem ew_iff (y q : Str) : Txt.endswith y q = true ↔ q.length ≤ y.length ∧ (Lc y).drop (y.length - q.length) = Lc q := by
  unfold Txt.endswith
  rw [StrLaws.subAt_eq, Bool.and_eq_true, decide_eq_true_eq]
  have e : ∀ h : q.length ≤ y.length, ((Lc y).drop (y.length - q.length)).take q.length = (Lc y).drop (y.length - q.length) := fun h => List.take_of_length_le (by rw [List.length_drop, lc_len]; omega)
  constructor
  · rintro ⟨h1, h2⟩
    have h1' : q.length ≤ y.length := by omega
    refine ⟨h1', ?_⟩
    have h3 := eq_of_beq h2
    rw [← e h1']; exact h3
  · rintro ⟨h1, h2⟩
    refine ⟨by omega, ?_⟩
    have h3 := e h1
    rw [h2] at h3
    show (((Lc y).drop (y.length - q.length)).take q.length == Lc q) = true
    rw [h2, h3]; simp

theorem fdiv_two (n : Nat) : ((n : Int).fdiv 2) = ((n / 2 : Nat) : Int) := by
  rw [Int.fdiv_eq_ediv_of_nonneg _ (by decide)]; omega

theorem want2_glue (x : Str) : Lc (want2 x) = glueL [(Lc x).take (x.length / 2), (Lc x).drop (x.length / 2)] := by
  unfold want2
  rw [lc_app, lc_app, lc_ellip, fdiv_two, slice_to_nat, slice_from_nat]
  rfl
theorem em_want2 {x y : Str} (h46 : 46 ∉ Lc x) (h2 : 2 ≤ x.length) : em (want2 x) y = (x == drEnds x y) := by
  have hps : ∀ p ∈ [(Lc x).take (x.length / 2), (Lc x).drop (x.length / 2)], 46 ∉ p := by
    intro p hp
    rcases List.mem_cons.mp hp with rfl | hp
    · exact fun h => h46 (List.mem_of_mem_take h)
    · rw [List.mem_singleton.mp hp]; exact fun h => h46 (List.mem_of_mem_drop h)
  obtain ⟨s1, s2⟩ := split_glue (want2 x) (by simp) hps (want2_glue x)
  have hsum : (Lc x).take (x.length / 2) ++ (Lc x).drop (x.length / 2) = Lc x := List.take_append_drop _ _
  have hlp : ((Lc x).take (x.length / 2)).length = x.length / 2 := by rw [List.length_take, lc_len]; omega
  have hlq : ((Lc x).drop (x.length / 2)).length = x.length - x.length / 2 := by rw [List.length_drop, lc_len]
  generalize hP : (Lc x).take (x.length / 2) = p at *
  generalize hQ : (Lc x).drop (x.length / 2) = q at *
  have lp : (⟨p.toArray⟩ : Str).length = p.length := rfl
  have lq : (⟨q.toArray⟩ : Str).length = q.length := rfl
  unfold em
  rw [s2, s1, if_neg (by decide)]
  show emWs y [⟨p.toArray⟩, ⟨q.toArray⟩] = _
  unfold emWs
  have g0 : ([⟨p.toArray⟩, ⟨q.toArray⟩] : List Str).getD 0 Str.empty = ⟨p.toArray⟩ := rfl
  have g1 : ([⟨p.toArray⟩, ⟨q.toArray⟩] : List Str).eraseIdx 0 = [⟨q.toArray⟩] := rfl
  have hB : emBack y [⟨q.toArray⟩] (p.length : Int) = if Txt.endswith y ⟨q.toArray⟩ = true then (if (p.length : Int) > (y.length : Int) - (q.length : Int) then false else true) else false := by
    unfold emBack
    have g2 : ([⟨q.toArray⟩] : List Str).getD (([⟨q.toArray⟩] : List Str).length - 1) Str.empty = ⟨q.toArray⟩ := rfl
    have g3 : ([⟨q.toArray⟩] : List Str).eraseIdx (([⟨q.toArray⟩] : List Str).length - 1) = [] := rfl
    rw [g2, g3, lq, if_pos (by omega)]
    rfl
  rw [g0, g1, lp, if_pos (by omega), hB]
  rw [str_beq]
  rw [Bool.eq_iff_iff, decide_eq_true_eq]
  have hsw := sw_iff y ⟨p.toArray⟩
  have hew := ew_iff y ⟨q.toArray⟩
  rw [lp] at hsw
  rw [lq] at hew
  have ey := lc_len y
  unfold drEnds
  by_cases hn : (x.length : Int) ≤ (y.length : Int)
  · have hn' : x.length ≤ y.length := by omega
    have e1 : (y.length : Int) - (x.length : Int) + (x.length : Int).fdiv 2 = ((y.length - q.length : Nat) : Int) := by rw [fdiv_two]; omega
    rw [if_pos hn, lc_app, e1, fdiv_two, slice_to_nat, slice_from_nat, ← hsum]
    constructor
    · intro h
      cases a1 : Txt.startswith y ⟨p.toArray⟩ with
      | false => rw [a1] at h; simp at h
      | true =>
        rw [a1] at h
        cases a2 : Txt.endswith y ⟨q.toArray⟩ with
        | false => rw [a2] at h; simp at h
        | true =>
          have k1 := hsw.mp a1
          have k2 := (hew.mp a2).2
          rw [k2, ← hlp]
          exact congrArg (fun z => z ++ q) k1.symm
    · intro h
      have hj := List.append_inj h (by rw [hlp, List.length_take, ey]; omega)
      have a1 : Txt.startswith y ⟨p.toArray⟩ = true := hsw.mpr (by rw [hlp]; exact hj.1.symm)
      have a2 : Txt.endswith y ⟨q.toArray⟩ = true := hew.mpr ⟨by omega, hj.2.symm⟩
      rw [a1, a2]
      rw [if_pos rfl, if_pos rfl, if_neg (by omega)]
  · rw [if_neg hn]
    constructor
    · intro h
      cases a1 : Txt.startswith y ⟨p.toArray⟩ with
      | false => rw [a1] at h; simp at h
      | true =>
        rw [a1] at h
        cases a2 : Txt.endswith y ⟨q.toArray⟩ with
        | false => rw [a2] at h; simp at h
        | true =>
          have k2 := (hew.mp a2).1
          rw [a2, if_pos rfl, if_pos rfl, if_pos (by omega)] at h
          cases h
    · intro h
      have := congrArg List.length h
      rw [lc_len] at this
      have e0 : (Lc (Str.ofString "")).length = 0 := by decide
      omega

theorem want3_glue (x : Str) : Lc (want3 x) = glueL [[], (Lc x).take 2, ((Lc x).drop 2).take 1, (Lc x).drop 3] := by
  unfold want3
  rw [lc_app, lc_app, lc_app, lc_app, lc_app, lc_ellip]
  have e1 : Lc (Txt.slice x none (some 2)) = (Lc x).take 2 := slice_to_nat x 2
  have e2 : Lc (Txt.slice x (some 2) (some 3)) = ((Lc x).drop 2).take 1 := slice_nat x (p := 2) (q := 3) (by decide)
  have e3 : Lc (Txt.slice x (some 3) none) = (Lc x).drop 3 := slice_from_nat x 3
  rw [e1, e2, e3]
  simp [glueL]

section
variable {x y ahead : Str} {e : Nat}
theorem pair_iff (h2 : 2 ≤ x.length) (he : e ≤ y.length) (hA : Lc ahead = (Lc y).take e) (j : Nat) :
    pairAt ahead x j = true ↔ StrLaws.At y ⟨((Lc x).take 2).toArray⟩ e j ∧ ∃ k, j + 2 ≤ k ∧ StrLaws.At y ⟨(((Lc x).drop 2).take 1).toArray⟩ e k := by
  have ey := lc_len y
  have ex := lc_len x
  have l2 : (⟨((Lc x).take 2).toArray⟩ : Str).length = 2 := by show ((Lc x).take 2).length = 2; rw [List.length_take]; omega
  have la : ahead.length = e := by rw [← lc_len, hA, List.length_take]; omega
  have e1 : Lc (Txt.slice x none (some 2)) = (Lc x).take 2 := slice_to_nat x 2
  have e2 : Lc (Txt.slice x (some 2) (some 3)) = ((Lc x).drop 2).take 1 := slice_nat x (p := 2) (q := 3) (by decide)
  have e3 : Lc (Txt.slice ahead (some (j : Int)) (some ((j : Int) + 2))) = (((Lc y).take e).drop j).take 2 := by
    have := slice_nat ahead (p := j) (q := j + 2) (by omega)
    rw [hA, show j + 2 - j = 2 by omega] at this
    exact this
  have e4 : Lc (Txt.slice ahead (some ((j : Int) + 2)) none) = ((Lc y).take e).drop (j + 2) := by
    have := slice_from_nat ahead (j + 2)
    rw [hA] at this
    exact this
  have eC : Txt.slice x (some 2) (some 3) = ⟨(((Lc x).drop 2).take 1).toArray⟩ := lc_ext e2
  unfold pairAt Txt.contains
  rw [Bool.and_eq_true, StrLaws.found_iff, str_beq, decide_eq_true_eq, e1, e3, at_iff, l2, eC]
  generalize hw : (⟨(((Lc x).drop 2).take 1).toArray⟩ : Str) = C
  generalize hB : Txt.slice ahead (some ((j : Int) + 2)) none = B at e4
  have lB : B.length = e - (j + 2) := by rw [← lc_len, e4, List.length_drop, List.length_take]; omega
  have d1 : (((Lc y).take e).drop j).take 2 = ((Lc y).drop j).take (min 2 (e - j)) := by rw [List.drop_take, List.take_take]
  constructor
  · rintro ⟨h1, i, hi, hs⟩
    have hl := congrArg List.length h1
    rw [List.length_take, List.length_drop, List.length_take, List.length_take] at hl
    have hj : j + 2 ≤ e := by omega
    rw [d1, Nat.min_eq_left (by omega)] at h1
    refine ⟨⟨hj, h1⟩, j + 2 + i, by omega, (at_iff _ _ _ _).mpr ⟨by omega, ?_⟩⟩
    rw [StrLaws.subAt_eq] at hs
    have hs' : ((Lc B).drop i).take C.length = Lc C := eq_of_beq hs
    rw [e4, List.drop_drop, List.drop_take, List.take_take, Nat.min_eq_left (by omega)] at hs'
    exact hs'
  · rintro ⟨⟨hj, h1⟩, k, hk, hc⟩
    obtain ⟨c1, c2⟩ := (at_iff _ _ _ _).mp hc
    refine ⟨by rw [d1, Nat.min_eq_left (by omega)]; exact h1, k - (j + 2), by omega, ?_⟩
    rw [StrLaws.subAt_eq]
    show (((Lc B).drop (k - (j + 2))).take C.length == Lc C) = true
    rw [e4, List.drop_drop, show j + 2 + (k - (j + 2)) = k by omega, List.drop_take, List.take_take, Nat.min_eq_left (by omega), c2]
    simp

theorem find_pairs (h2 : 2 ≤ x.length) (he : e ≤ y.length) (hA : Lc ahead = (Lc y).take e) (tl : List Str) (htl : tl = [] ∨ tl = [Str.empty]) :
    findAll y (e : Int) (Str.empty :: ⟨((Lc x).take 2).toArray⟩ :: ⟨(((Lc x).drop 2).take 1).toArray⟩ :: tl) 0 = !decide (hits ahead x ahead.length = []) := by
  have ey := lc_len y
  have ex := lc_len x
  have hp := pair_iff h2 he hA
  have l2 : (⟨((Lc x).take 2).toArray⟩ : Str).length = 2 := by show ((Lc x).take 2).length = 2; rw [List.length_take]; omega
  have la : ahead.length = e := by rw [← lc_len, hA, List.length_take]; omega
  have hnil : (∀ j, pairAt ahead x j = false) → hits ahead x ahead.length = [] := fun h => by
    unfold hits
    rw [List.filter_eq_nil_iff.mpr (fun j _ => by rw [h j]; simp)]; rfl
  generalize (⟨((Lc x).take 2).toArray⟩ : Str) = X2 at hp l2 ⊢
  generalize (⟨(((Lc x).drop 2).take 1).toArray⟩ : Str) = C at hp ⊢
  show (if find4 y Str.empty (0 : Int) e < 0 then false else findAll y e (X2 :: C :: tl) (find4 y Str.empty (0 : Int) e + (Str.empty.length : Int))) = _
  have h0 : find4 y Str.empty (0 : Int) e = 0 := find4_empty y he (Nat.zero_le _)
  rw [h0, if_neg (by decide)]
  have e3 : (0 : Int) + (Str.empty.length : Int) = ((0 : Nat) : Int) := rfl
  rw [e3]
  show (if find4 y X2 ((0 : Nat) : Int) e < 0 then false else findAll y e (C :: tl) (find4 y X2 ((0 : Nat) : Int) e + (X2.length : Int))) = _
  rcases find4_spec y X2 (a := 0) he with ⟨f1, hn⟩ | ⟨i, f1, _, hAi, hn⟩
  · rw [f1, if_pos (by decide), hnil (fun j => by
      cases hj : pairAt ahead x j with
      | false => rfl
      | true => exact absurd ((hp j).mp hj).1 (hn j (Nat.zero_le _)))]
    rfl
  · rw [f1, if_neg (by omega), l2, show ((i : Int) + ((2 : Nat) : Int)) = ((i + 2 : Nat) : Int) by push_cast; rfl]
    show (if find4 y C ((i + 2 : Nat) : Int) e < 0 then false else findAll y e tl (find4 y C ((i + 2 : Nat) : Int) e + (C.length : Int))) = _
    rcases find4_spec y C (a := i + 2) he with ⟨f2, hn2⟩ | ⟨k, f2, hk, hCk, _⟩
    · rw [f2, if_pos (by decide), hnil (fun j => by
        cases hj : pairAt ahead x j with
        | false => rfl
        | true =>
          obtain ⟨q1, k, q2, q3⟩ := (hp j).mp hj
          have hij : i ≤ j := by
            rcases Nat.lt_or_ge j i with h | h
            · exact absurd q1 (hn j (Nat.zero_le _) h)
            · exact h
          exact absurd q3 (hn2 k (by omega)))]
      rfl
    · rw [f2, if_neg (by omega)]
      have hend : findAll y (e : Int) tl ((k : Int) + (C.length : Int)) = true := by
        rcases htl with rfl | rfl
        · rfl
        · have hk2 := hCk.1
          show (if find4 y Str.empty ((k : Int) + (C.length : Int)) e < 0 then false else findAll y e [] _) = _
          rw [show (k : Int) + (C.length : Int) = ((k + C.length : Nat) : Int) by push_cast; rfl, find4_empty y he hk2, if_neg (by omega)]
          rfl
      rw [hend]
      have hpi : pairAt ahead x i = true := (hp i).mpr ⟨hAi, k, hk, hCk⟩
      have hi : i < ahead.length := by have := hAi.1; rw [l2] at this; omega
      have hne : ¬ hits ahead x ahead.length = [] := fun hz => by
        have hm : (i : Int) ∈ hits ahead x ahead.length := by
          unfold hits
          exact List.mem_map.mpr ⟨i, List.mem_filter.mpr ⟨List.mem_range.mpr hi, hpi⟩, rfl⟩
        rw [hz] at hm; cases hm
      rw [decide_eq_false hne]; rfl
end

theorem em_want3 {x y : Str} (h46 : 46 ∉ Lc x) (h2 : 2 ≤ x.length) : em (want3 x) y = drThird x y (drAhead x y) := by
  have hps : ∀ p ∈ [[], (Lc x).take 2, ((Lc x).drop 2).take 1, (Lc x).drop 3], 46 ∉ p := by
    intro p hp
    simp only [List.mem_cons, List.not_mem_nil, or_false] at hp
    rcases hp with rfl | rfl | rfl | rfl
    · simp
    · exact fun h => h46 (List.mem_of_mem_take h)
    · exact fun h => h46 (List.mem_of_mem_drop (List.mem_of_mem_take h))
    · exact fun h => h46 (List.mem_of_mem_drop h)
  obtain ⟨s1, s2⟩ := split_glue (want3 x) (by simp) hps (want3_glue x)
  have ey := lc_len y
  have ex := lc_len x
  have er : Lc (Txt.slice x (some 3) none) = (Lc x).drop 3 := slice_from_nat x 3
  have eR : Txt.slice x (some 3) none = ⟨((Lc x).drop 3).toArray⟩ := lc_ext er
  unfold em
  rw [s2, s1, if_neg (by decide)]
  have fp := fun {ahead : Str} {e : Nat} (he : e ≤ y.length) (hA : Lc ahead = (Lc y).take e) tl htl => find_pairs h2 he hA tl htl
  unfold drThird drAhead
  rw [eR]
  have lR : (⟨((Lc x).drop 3).toArray⟩ : Str).length = x.length - 3 := by show ((Lc x).drop 3).length = _; rw [List.length_drop]; omega
  have cR : Lc (⟨((Lc x).drop 3).toArray⟩ : Str) = (Lc x).drop 3 := rfl
  generalize hR : (⟨((Lc x).drop 3).toArray⟩ : Str) = Rst at *
  show emWs y [Str.empty, ⟨((Lc x).take 2).toArray⟩, ⟨(((Lc x).drop 2).take 1).toArray⟩, ⟨((Lc x).drop 3).toArray⟩] = _
  rw [hR]
  generalize hX : (⟨((Lc x).take 2).toArray⟩ : Str) = X2 at *
  generalize hC : (⟨(((Lc x).drop 2).take 1).toArray⟩ : Str) = C at *
  unfold emWs
  have g0 : ([Str.empty, X2, C, Rst] : List Str).getD 0 Str.empty = Str.empty := rfl
  rw [g0, if_neg (by decide)]
  unfold emBack
  have g2 : ([Str.empty, X2, C, Rst] : List Str).getD (([Str.empty, X2, C, Rst] : List Str).length - 1) Str.empty = Rst := rfl
  have g3 : ([Str.empty, X2, C, Rst] : List Str).eraseIdx (([Str.empty, X2, C, Rst] : List Str).length - 1) = [Str.empty, X2, C] := rfl
  rw [g2, g3]
  have hew := ew_iff y Rst
  by_cases ht : Rst.length ≤ y.length
  · have ec : (y.length : Int) - (Rst.length : Int) = ((y.length - Rst.length : Nat) : Int) := by omega
    rw [ec]
    have hA : Lc (Txt.slice y none (some ((y.length - Rst.length : Nat) : Int))) = (Lc y).take (y.length - Rst.length) := slice_to_nat y _
    generalize Txt.slice y none (some ((y.length - Rst.length : Nat) : Int)) = ahead at hA ⊢
    have hglue : (ahead ++ Rst == y) = decide ((Lc y).drop (y.length - Rst.length) = Lc Rst) := by
      rw [str_beq, lc_app, hA]
      congr 1
      have hs : (Lc y).take (y.length - Rst.length) ++ (Lc y).drop (y.length - Rst.length) = Lc y := List.take_append_drop _ _
      refine propext ⟨fun h => ?_, fun h => by rw [← h]; exact hs⟩
      rw [← hs] at h
      have h' : List.take (y.length - Rst.length) (Lc y) ++ Lc Rst = List.take (y.length - Rst.length) (Lc y) ++ List.drop (y.length - Rst.length) (Lc y) := by
        rw [hs] at h; rw [hs]; exact h
      exact (List.append_cancel_left h').symm
    by_cases h0 : Rst.length ≠ 0
    · rw [if_pos h0]
      cases a : Txt.endswith y Rst with
      | false =>
        have hno : ¬ (Lc y).drop (y.length - Rst.length) = Lc Rst := fun h => by rw [hew.mpr ⟨ht, h⟩] at a; cases a
        rw [hglue, decide_eq_false hno]; rfl
      | true =>
        rw [hglue, decide_eq_true (hew.mp a).2, if_pos rfl]
        unfold emTail
        rw [if_neg (by omega), fp (Nat.sub_le _ _) hA [] (.inl rfl)]
        rfl
    · have h0' : Rst.length = 0 := by omega
      have hRe : Rst = Str.empty := lc_ext (List.eq_nil_of_length_eq_zero (by rw [lc_len, h0']))
      rw [if_neg h0]
      unfold emTail
      rw [if_neg (by omega)]
      have hd : (Lc y).drop (y.length - Rst.length) = Lc Rst := by
        rw [h0', Nat.sub_zero, ← ey, List.drop_length, hRe]; rfl
      rw [hglue, decide_eq_true hd]
      have hy : y.length - Rst.length = y.length := by omega
      rw [hy] at hA
      have := fp (Nat.le_refl _) hA [Rst] (.inr (by rw [hRe]))
      rw [this]; rfl
  · have h0 : Rst.length ≠ 0 := by omega
    rw [if_pos h0]
    have a : Txt.endswith y Rst = false := by
      cases a : Txt.endswith y Rst with
      | false => rfl
      | true => exact absurd (hew.mp a).1 ht
    rw [a]
    have hne : (Txt.slice y none (some ((y.length : Int) - (Rst.length : Int))) ++ Rst == y) = false := by
      rw [str_beq, decide_eq_false]
      intro h
      have := congrArg List.length h
      rw [lc_app, List.length_append, lc_len, lc_len, lc_len] at this
      omega
    rw [hne]; rfl

theorem dress_law {x y : Str} (h46 : 46 ∉ Lc x) (h2 : 2 ≤ x.length) : (wantsOf x).map (fun v => em v y) = drB x y := by
  unfold wantsOf drB
  rw [List.map_cons, List.map_cons, List.map_cons, List.map_nil, em_same h46, em_want2 h46 h2, em_want3 h46 h2]

end
-- part P4
section
open PySem.Calls PySem.Builtin PySem.Builtin.Str
abbrev menuT : Str := Str.ofString "ab*?+([^$|{\n -x~"
def signAt (i : Nat) : Nat := (Txt.charAt menuT (i : Int)).getD 0
theorem signs_differ : ∀ i : Fin 16, ∀ j : Fin 16, i ≠ j → signAt i ≠ signAt j := by decide +kernel
theorem signs_plain : ∀ i : Fin 16, signAt i ≠ 46 := by decide +kernel
theorem item_sign (k : Int) (h0 : 0 ≤ k) : Txt.item menuT k = ⟨#[signAt k.toNat]⟩ := by
  unfold Txt.item signAt
  rw [Int.toNat_of_nonneg h0]
theorem signs_ok (kd : Int) : ∃ p q : Nat, Txt.item menuT (kd.fmod 16) = ⟨#[p]⟩ ∧ Txt.item menuT ((kd + 1 + (kd.fdiv 16).fmod 15).fmod 16) = ⟨#[q]⟩ ∧ p ≠ q ∧ p ≠ 46 ∧ q ≠ 46 := by
  have e1 : kd.fmod 16 = kd % 16 := Int.fmod_eq_emod_of_nonneg _ (by decide)
  have e2 : (kd.fdiv 16).fmod 15 = (kd.fdiv 16) % 15 := Int.fmod_eq_emod_of_nonneg _ (by decide)
  have e3 : (kd + 1 + (kd.fdiv 16).fmod 15).fmod 16 = (kd + 1 + (kd.fdiv 16).fmod 15) % 16 := Int.fmod_eq_emod_of_nonneg _ (by decide)
  rw [e3, e2, e1]
  generalize kd.fdiv 16 = z
  have hi : kd % 16 < 16 := Int.emod_lt_of_pos _ (by decide)
  have hi0 : 0 ≤ kd % 16 := Int.emod_nonneg _ (by decide)
  have hj : (kd + 1 + z % 15) % 16 < 16 := Int.emod_lt_of_pos _ (by decide)
  have hj0 : 0 ≤ (kd + 1 + z % 15) % 16 := Int.emod_nonneg _ (by decide)
  have hne : kd % 16 ≠ (kd + 1 + z % 15) % 16 := by omega
  generalize kd % 16 = i at *
  generalize (kd + 1 + z % 15) % 16 = j at *
  refine ⟨_, _, item_sign i hi0, item_sign j hj0, ?_, ?_, ?_⟩
  · exact signs_differ ⟨i.toNat, by omega⟩ ⟨j.toNat, by omega⟩ (fun h => by have := congrArg Fin.val h; simp at this; omega)
  · exact signs_plain ⟨i.toNat, by omega⟩
  · exact signs_plain ⟨j.toNat, by omega⟩

def codeOf (p q : Nat) (e : Int) : Nat := if e.fmod 2 = 0 then p else q
theorem row_codes (p q : Nat) (es : List Int) : Lc (rowOf ⟨#[p]⟩ ⟨#[q]⟩ es) = es.map (codeOf p q) := by
  unfold rowOf
  show Lc (glued (Str.ofString "") (es.map (pick ⟨#[p]⟩ ⟨#[q]⟩))) = _
  have e0 : Lc (Str.ofString "") = [] := by decide
  have e1 : ∀ e, Lc (pick ⟨#[p]⟩ ⟨#[q]⟩ e) = [codeOf p q e] := fun e => by unfold pick codeOf; split <;> rfl
  rw [StrLaws.glued_eq_join, lc_glued, e0]
  cases es with
  | nil => rfl
  | cons e es =>
    show Lc (pick ⟨#[p]⟩ ⟨#[q]⟩ e) ++ ((es.map (pick ⟨#[p]⟩ ⟨#[q]⟩)).map fun z => [] ++ Lc z).flatten = _
    rw [e1, List.map_cons]
    have e2 : ((es.map (pick ⟨#[p]⟩ ⟨#[q]⟩)).map fun z => [] ++ Lc z).flatten = es.map (codeOf p q) := by
      rw [List.map_map]
      induction es with
      | nil => rfl
      | cons x r ih =>
        rw [List.map_cons, List.flatten_cons, ih, List.map_cons]
        show ([] ++ Lc (pick _ _ x)) ++ _ = _
        rw [e1]; rfl
    rw [e2]; rfl
theorem part_codes (r : Str) (k : Nat) : Lc (partAt r k) = ((Lc r).drop k).take (k + 2) := by
  unfold partAt
  have e1 : (1 : Int) + k * 1 - 1 = (k : Int) := by omega
  have e2 : 2 * ((1 : Int) + k * 1) = ((2 * (k + 1) : Nat) : Int) := by push_cast; omega
  rw [e1, e2, slice_nat r (by omega), show 2 * (k + 1) - k = k + 2 by omega]

def subB : List Bool → List Bool → Bool
  | [], _ => true
  | _ :: _, [] => false
  | c :: cs, d :: ds => if c = d then subB cs ds else subB (c :: cs) ds
theorem subL_map (f : Nat → Bool) : ∀ (ys xs : List Nat), (∀ c ∈ xs, ∀ d ∈ ys, f c = f d → c = d) → subL xs ys = subB (xs.map f) (ys.map f)
  | ys, [], _ => by rw [subL_nil]; cases ys.map f <;> rfl
  | [], c :: cs, _ => rfl
  | d :: ds, c :: cs, h => by
    rw [List.map_cons, List.map_cons, subL, subB]
    by_cases hc : c = d
    · subst hc
      rw [if_pos rfl, if_pos rfl]
      exact subL_map f ds cs fun x hx y hy => h x (.tail _ hx) y (.tail _ hy)
    · rw [if_neg hc, if_neg (fun e => hc (h c (.head _) d (.head _) e))]
      have := subL_map f ds (c :: cs) fun x hx y hy => h x hx y (.tail _ hy)
      rw [List.map_cons] at this
      exact this
def bitsAt (bl : List Bool) (k : Nat) : List Bool := (bl.drop k).take (k + 2)
def noHitB (bl : List Bool) (most : Nat) : Bool := (List.range most).all fun j => (List.range j).all fun i => !subB (bitsAt bl i) (bitsAt bl j)

theorem fr3 : ∀ b1 b2 b3 b4 b5 : Bool, noHitB [true, b1, b2, b3, b4, b5] 3 = (if b1 = true then sixA b2 b3 b4 b5 else sixC b2 b3 b4 b5) := by decide +kernel
theorem fr4 : ∀ b1 b2 b3 b4 b5 b6 b7 : Bool, noHitB [true, b1, b2, b3, b4, b5, b6, b7] 4 = eightB b1 b2 b4 b5 b6 b7 := by decide +kernel
theorem fr5 : ∀ b1 b2 b3 b4 b5 b6 b7 b8 b9 : Bool, noHitB [true, b1, b2, b3, b4, b5, b6, b7, b8, b9] 5 = tenB b1 b2 b3 b4 b5 b6 b7 b8 b9 := by decide +kernel
theorem fr6 : ∀ b1 b2 b3 b4 b5 b6 b7 b8 b9 b10 b11 : Bool, noHitB [true, b1, b2, b3, b4, b5, b6, b7, b8, b9, b10, b11] 6 = false := by decide +kernel

end
-- part P5
section
open PySem.Calls PySem.Builtin PySem.Builtin.Str
theorem noHit_bits {tt : List (List Bool)} {bl : List Bool} {most : Nat} (h : ∀ i j, i < 6 → j < 6 → hitAt tt i j = subB (bitsAt bl i) (bitsAt bl j)) (hm : most ≤ 6) : noHit tt most = noHitB bl most := by
  unfold noHit noHitB
  rw [Bool.eq_iff_iff, List.all_eq_true, List.all_eq_true]
  constructor
  · intro hh j hj
    have := hh j hj
    rw [List.all_eq_true] at this ⊢
    intro i hi
    have hj6 := List.mem_range.mp hj
    have hi6 := List.mem_range.mp hi
    rw [← h i j (by omega) (by omega)]
    exact this i hi
  · intro hh j hj
    have := hh j hj
    rw [List.all_eq_true] at this ⊢
    intro i hi
    have hj6 := List.mem_range.mp hj
    have hi6 := List.mem_range.mp hi
    rw [h i j (by omega) (by omega)]
    exact this i hi
theorem range_map_get {α : Type} (f : Nat → α) {n i : Nat} (hi : i < n) (d : α) : ((List.range n).map f).getD i d = f i := by
  rw [List.getD_eq_getElem?_getD, List.getElem?_map, List.getElem?_range hi]; rfl
theorem hit_parts (r : Str) (i j : Nat) (hi : i < 6) (hj : j < 6) : hitAt ((partsOf r 6).map fun x => (partsOf r 6).map fun y => metB x y) i j = metB (partAt r i) (partAt r j) := by
  unfold hitAt partsOf
  have e1 : (((List.range 6).map (partAt r)).map fun x => ((List.range 6).map (partAt r)).map fun y => metB x y).getD i [] = ((List.range 6).map (partAt r)).map fun y => metB (partAt r i) y := by
    rw [List.map_map]; exact range_map_get _ hi _
  rw [e1, List.map_map]
  exact range_map_get _ hj _

theorem plain_law {p q : Nat} {es : List Int} {r : Str} (hpq : p ≠ q) (hp : p ≠ 46) (hq : q ≠ 46) (hl : es.length = 12) (hr : r = rowOf ⟨#[p]⟩ ⟨#[q]⟩ es) :
    r.length = 12 ∧ (partsOf r 6).length = 6 ∧ (∀ x ∈ partsOf r 6, x.length ≤ 20) ∧ (∀ x ∈ partsOf r 6, ∀ y, em (wantOf x) y = metB x y) ∧ (∀ x ∈ partsOf r 6, ∀ y ∈ partsOf r 6, (wantsOf x).map (fun v => em v y) = drB x y) ∧
    ∃ b1 b2 b3 b4 b5 b6 b7 b8 b9 b10 b11 : Bool, (r.cps.toList.map fun c => (⟨#[c]⟩ : Str) == Txt.item r 0) = [true, b1, b2, b3, b4, b5, b6, b7, b8, b9, b10, b11] ∧
      (([3, 4, 5, 6] : List Nat).map fun k => noHit ((partsOf r 6).map fun x => (partsOf r 6).map fun y => metB x y) k) = [if b1 = true then sixA b2 b3 b4 b5 else sixC b2 b3 b4 b5, eightB b1 b2 b4 b5 b6 b7, tenB b1 b2 b3 b4 b5 b6 b7 b8 b9, false] := by
  have hc : Lc r = es.map (codeOf p q) := by rw [hr]; exact row_codes p q es
  have hlr : (Lc r).length = 12 := by rw [hc, List.length_map, hl]
  have hmem : ∀ c ∈ Lc r, c = p ∨ c = q := fun c h => by
    rw [hc] at h
    obtain ⟨e, _, rfl⟩ := List.mem_map.mp h
    unfold codeOf; split
    · exact .inl rfl
    · exact .inr rfl
  have hlen : r.length = 12 := by rw [← lc_len, hlr]
  have hpart : ∀ x ∈ partsOf r 6, ∃ k, k < 6 ∧ x = partAt r k := fun x h => by
    obtain ⟨k, hk, rfl⟩ := List.mem_map.mp h
    exact ⟨k, List.mem_range.mp hk, rfl⟩
  have hpl : ∀ k, k < 6 → (Lc (partAt r k)).length = k + 2 := fun k hk => by
    rw [part_codes, List.length_take, List.length_drop, hlr]; omega
  have hpm : ∀ k, ∀ c ∈ Lc (partAt r k), c = p ∨ c = q := fun k c h => by
    rw [part_codes] at h
    exact hmem c (List.mem_of_mem_drop (List.mem_of_mem_take h))
  have hp46 : ∀ k, 46 ∉ Lc (partAt r k) := fun k h => by
    rcases hpm k 46 h with e | e
    · exact hp e.symm
    · exact hq e.symm
  refine ⟨hlen, by simp [partsOf], fun x hx => ?_, fun x hx y => ?_, fun x hx y hy => ?_, ?_⟩
  · obtain ⟨k, hk, rfl⟩ := hpart x hx
    rw [← lc_len, hpl k hk]; omega
  · obtain ⟨k, hk, rfl⟩ := hpart x hx
    exact em_want (fun e => by have := hpl k hk; rw [e] at this; simp at this) (hp46 k)
  · obtain ⟨k, hk, rfl⟩ := hpart x hx
    exact dress_law (hp46 k) (by rw [← lc_len, hpl k hk]; omega)
  · match hL : Lc r, hlr with
    | [c0, c1, c2, c3, c4, c5, c6, c7, c8, c9, c10, c11], _ =>
      have h0 : Txt.item r 0 = ⟨#[c0]⟩ := by
        unfold Txt.item Txt.charAt
        have e1 : seqIndex? 0 r.length = some 0 := by
          have := StrLaws.seqIndex_nonneg (i := 0) (n := r.length) (by decide) (by rw [hlen]; decide)
          exact this
        rw [e1]
        have e2 : r.cps[0]? = some c0 := by
          have h1 : (Lc r)[0]? = some c0 := by rw [hL]; rfl
          rw [← h1]; simp
        show (⟨#[(r.cps[0]?).getD 0]⟩ : Str) = _
        rw [e2]; rfl
      have hbit : (r.cps.toList.map fun c => (⟨#[c]⟩ : Str) == Txt.item r 0) = (Lc r).map (fun c => c == c0) := by
        rw [h0]
        refine List.map_congr_left fun c _ => ?_
        rw [str_beq]
        show decide ([c] = [c0]) = _
        by_cases h : c = c0 <;> simp [h]
      have hc0 : c0 = p ∨ c0 = q := hmem c0 (by rw [hL]; exact .head _)
      have hinj : ∀ c d, (c = p ∨ c = q) → (d = p ∨ d = q) → (c == c0) = (d == c0) → c = d := by
        intro c d hc hd h
        by_cases h1 : c = c0
        · subst h1
          by_cases h2 : d = c
          · exact h2.symm
          · simp [h2] at h
        · by_cases h2 : d = c0
          · subst h2; simp [h1] at h
          · rcases hc with rfl | rfl <;> rcases hd with rfl | rfl <;> rcases hc0 with rfl | rfl <;> first | rfl | contradiction
      have hhit : ∀ i j, i < 6 → j < 6 → hitAt ((partsOf r 6).map fun x => (partsOf r 6).map fun y => metB x y) i j = subB (bitsAt ((Lc r).map (fun c => c == c0)) i) (bitsAt ((Lc r).map (fun c => c == c0)) j) := by
        intro i j hi hj
        rw [hit_parts r i j hi hj, metB_sub, subL_map (fun c => c == c0) _ _ fun c hc d hd h => hinj c d (hpm i c hc) (hpm j d hd) h]
        unfold bitsAt
        rw [part_codes, part_codes, ← List.map_drop, ← List.map_drop, ← List.map_take, ← List.map_take]
      refine ⟨c1 == c0, c2 == c0, c3 == c0, c4 == c0, c5 == c0, c6 == c0, c7 == c0, c8 == c0, c9 == c0, c10 == c0, c11 == c0, ?_, ?_⟩
      · rw [hbit, hL]; simp
      · rw [hL] at hhit
        have hb : [c0, c1, c2, c3, c4, c5, c6, c7, c8, c9, c10, c11].map (fun c => c == c0) = [true, c1 == c0, c2 == c0, c3 == c0, c4 == c0, c5 == c0, c6 == c0, c7 == c0, c8 == c0, c9 == c0, c10 == c0, c11 == c0] := by simp
        rw [hb] at hhit
        generalize (c1 == c0) = b1 at *
        generalize (c2 == c0) = b2 at *
        generalize (c3 == c0) = b3 at *
        generalize (c4 == c0) = b4 at *
        generalize (c5 == c0) = b5 at *
        generalize (c6 == c0) = b6 at *
        generalize (c7 == c0) = b7 at *
        generalize (c8 == c0) = b8 at *
        generalize (c9 == c0) = b9 at *
        generalize (c10 == c0) = b10 at *
        generalize (c11 == c0) = b11 at *
        simp only [List.map_cons, List.map_nil]
        rw [noHit_bits hhit (by decide), noHit_bits hhit (by decide), noHit_bits hhit (by decide), noHit_bits hhit (by decide)]
        have g3 : noHitB [true, b1, b2, b3, b4, b5, b6, b7, b8, b9, b10, b11] 3 = noHitB [true, b1, b2, b3, b4, b5] 3 := rfl
        have g4 : noHitB [true, b1, b2, b3, b4, b5, b6, b7, b8, b9, b10, b11] 4 = noHitB [true, b1, b2, b3, b4, b5, b6, b7] 4 := rfl
        have g5 : noHitB [true, b1, b2, b3, b4, b5, b6, b7, b8, b9, b10, b11] 5 = noHitB [true, b1, b2, b3, b4, b5, b6, b7, b8, b9] 5 := rfl
        rw [g3, g4, g5, fr3, fr4, fr5, fr6]

end
-- part Law
section
open PySem.Calls PySem.Builtin PySem.Builtin.Str
section
local macro_rules | `(tactic| walk_at "eval Name") => `(tactic| k_dflt walk_at "m name")
theorem law_ret {w : World} {dp un : Nat} {fr : Option (List Env)} {gd : Option (List Code)} {s : Shared} {E : Value → Shared → Prop} {Q : Flow → Shared → Prop} {mean : ExcName → Option Value} {mg mb : Str → Option Value} {h₀ : Heap} {L fa : Addr} {cd : Value} {m : Str → Option Value} {R : List (Addr × Obj)}
  (X : (hd.heap_39 w.params).In h₀) (TT : Top hd.view_39 (looseW hd.view_39 []) mean mg mb h₀)
  (F : Fr h₀ L s.heap m) (N : News h₀ L s.heap R)
  (hQ : ∀ h' tk, Fr h₀ L h' m → Q (.ret (.bool true)) { s with heap := h', toks := tk }) :
  wpAny (model PySem.Challenge.rw_wb0004_01.row.prog w) ({ handled := none, depth := dp, frames := fr, guards := gd, units := un } : Around) (exec (lawSt 16) (envOfC (Str.ofString "law") lawScope L fa cd)) Q E s := by
    revert X TT; w_top off; k_fill; intro X TT
    refine (show wpAny _ _ (exec (Stmt.Return _ _) _) _ _ _ from ?_)
    k_steps
    exact hQ s.heap s.toks F
end

theorem law_all {w : World} {dp un : Nat} {fr : Option (List Env)} {s : Shared} {E : Value → Shared → Prop} {Q : Flow → Shared → Prop} {mean : ExcName → Option Value} {mg mb : Str → Option Value} {h₀ : Heap} {L fa : Addr} {cd : Value} {m : Str → Option Value} {o1 o2 o3 o4 o5 o6 : Obj} {d2 d3 d4 d5 d6 : Option Value} {l : Addr} {vs : List Value} {ns : List Int}
  (X : (hd.heap_39 w.params).In h₀) (TT : Top hd.view_39 (looseW hd.view_39 []) mean mg mb h₀) (hu : un + 400 < cLine) (hroom : dp < recursionLimit) (hL : h₀.IsList l vs.toArray) (hI : IntsAre vs ns) (hn : ns.length ≤ 63)
  (F : Fr h₀ L s.heap m) (N : News h₀ L s.heap (cellLed L o6 o5 o4 o3 o2 o1)) (d1 : o1.data = .cell (some (.ref l))) (hd2 : o2.data = .cell d2) (hd3 : o3.data = .cell d3) (hd4 : o4.data = .cell d4) (hd5 : o5.data = .cell d5) (hd6 : o6.data = .cell d6)
  (hQ : ∀ h' tk m', Fr h₀ L h' m' → Q (.ret (.bool true)) { s with heap := h', toks := tk }) :
  wpAny (model PySem.Challenge.rw_wb0004_01.row.prog w) ({ handled := none, depth := dp, frames := fr, guards := some [], units := un } : Around) (execs lawBody (envOfC (Str.ofString "law") lawScope L fa cd)) Q E s := by
  with_reducible refine law_starts F N ?_
  intro h1 tk1 T tvs htv hTl F1 N1
  clear F N
  have q0 : (fun y => if y = Str.ofString "starts" then some (Value.ref T) else m y) (Str.ofString "starts") = some (.ref T) := if_pos rfl
  with_reducible refine law_drawn X TT hL hI hn htv F1 N1 d1 q0 ?_
  intro h2 tk2 D ys nD ds hds hdl hap2 F2 N2
  clear F1 N1 q0
  obtain ⟨zs, kd, td, es, rfl, hz, hes⟩ := intsAre_pop hds hdl
  generalize hm2 : (fun y => if y = Str.ofString "drawn" then some (Value.ref D) else if y = Str.ofString "starts" then some (Value.ref T) else m y) = m2 at F2
  have q2 : m2 (Str.ofString "drawn") = some (.ref D) := by rw [← hm2]; exact if_pos rfl
  rw [show lawBody.drop 2 = lawSt 2 :: lawBody.drop 3 from rfl]
  with_reducible refine wpAny_execs_cons ?_
  with_reducible refine law_menu X TT F2 N2 q2 hz hes hap2 ?_
  intro h3 tk3 tm nD' F3 N3
  dsimp only
  clear F2 N2
  generalize hm3 : (fun y => if y = Str.ofString "menu" then some (Value.str (Str.ofString "ab*?+([^$|{\n -x~") tm) else if y = Str.ofString "kind" then some (Value.int kd td) else m2 y) = fm3 at F3
  have q3 : fm3 (Str.ofString "menu") = some (.str (Str.ofString "ab*?+([^$|{\n -x~") tm) := by rw [← hm3]; exact if_pos rfl
  have q4 : fm3 (Str.ofString "kind") = some (.int kd td) := by rw [← hm3]; exact (if_neg (by decide)).trans (if_pos rfl)
  have q5 : fm3 (Str.ofString "drawn") = some (.ref D) := by rw [← hm3]; exact (if_neg (by decide)).trans ((if_neg (by decide)).trans q2)
  clear hm3
  rw [show lawBody.drop 3 = lawSt 3 :: lawBody.drop 4 from rfl]
  with_reducible refine wpAny_execs_cons ?_
  with_reducible refine law_signs (es := es) X TT F3 N3 q3 q4 hap2 hd2 ?_
  intro h4 tk4 S n t1 t2 o2' hd2' ha hb F4 N4 hapS hapD
  dsimp only
  clear F3 N3
  rw [show lawBody.drop 4 = lawSt 4 :: lawBody.drop 5 from rfl]
  with_reducible refine wpAny_execs_cons ?_
  with_reducible refine law_row X TT F4 N4 hd2' q5 hz hes ha hb hd3 ?_
  intro h5 tk5 tr o3' hd3' F5 N5
  dsimp only
  clear F4 N4
  obtain ⟨p, q, ep, eq, hpq, hp, hq⟩ := signs_ok kd
  rw [ep, eq] at hd3'
  generalize hr : rowOf ⟨#[p]⟩ ⟨#[q]⟩ es = r at hd3'
  obtain ⟨hrl, hx6, hx, hwant, hdress, b1, b2, b3, b4, b5, b6, b7, b8, b9, b10, b11, hbits, hfree⟩ := plain_law hpq hp hq hes hr.symm
  have r1 : r.length ≤ 1000 := by rw [hrl]; decide
  have r2 : r.length ≤ 20 := by rw [hrl]; decide
  have r3 : 1 ≤ r.length := by rw [hrl]; decide
  rw [show lawBody.drop 5 = lawSt 5 :: lawBody.drop 6 from rfl]
  with_reducible refine wpAny_execs_cons ?_
  with_reducible refine law_parts X TT F5 N5 hd3' r1 hd4 ?_
  intro h6 tk6 P lp nP o4' hd4' hlp F6 N6 hapP
  dsimp only
  clear F5 N5
  rw [show lawBody.drop 6 = lawSt 6 :: lawBody.drop 7 from rfl]
  with_reducible refine wpAny_execs_cons ?_
  with_reducible refine law_told X TT F6 N6 hd4' hlp hx hx6 hapP hroom hd6 ?_
  intro h7 tk7 W ts nW o6' hd6' hts F7 N7 hapP7
  dsimp only
  clear F6 N6
  have hts2 : ts.map (fun t : TB => t.2.2) = (partsOf r 6).map fun x => (partsOf r 6).map fun y => metB x y := by
    rw [hts]
    exact List.map_congr_left fun x hxm => List.map_congr_left fun y _ => hwant x hxm y
  have hl6 : ts.length = 6 := by have h := congrArg List.length hts; rw [List.length_map, List.length_map, hx6] at h; exact h
  have hlr : ∀ t ∈ ts, t.2.2.length = 6 := fun t ht => by
    have h : t.2.2 ∈ ts.map (fun t : TB => t.2.2) := List.mem_map_of_mem ht
    rw [hts] at h
    obtain ⟨x, _, e⟩ := List.mem_map.mp h
    rw [← e, List.length_map, hx6]
  have mW : (W, lobj (rowsVal ts) nW) ∈ (W, lobj (rowsVal ts) nW) :: (rowsLed ts ++ (P, lobj (strValues lp) nP) :: cellLed L o6' o5 o4' o3' o2' o1) := .head _
  have mT : ∀ t ∈ ts, (t.1, lobj (t.2.2.map Value.bool) t.2.1) ∈ (W, lobj (rowsVal ts) nW) :: (rowsLed ts ++ (P, lobj (strValues lp) nP) :: cellLed L o6' o5 o4' o3' o2' o1) := fun t ht => .tail _ (List.mem_append_left _ (List.mem_map_of_mem ht))
  have mP : (P, lobj (strValues lp) nP) ∈ (W, lobj (rowsVal ts) nW) :: (rowsLed ts ++ (P, lobj (strValues lp) nP) :: cellLed L o6' o5 o4' o3' o2' o1) := .tail _ (List.mem_append_right _ (.head _))
  have mC : ∀ c ∈ cellLed L o6' o5 o4' o3' o2' o1, c ∈ (W, lobj (rowsVal ts) nW) :: (rowsLed ts ++ (P, lobj (strValues lp) nP) :: cellLed L o6' o5 o4' o3' o2' o1) := fun c hc => .tail _ (List.mem_append_right _ (.tail _ hc))
  have m6 := mC (L + 1 + 1 + 1 + 1 + 1 + 1, o6') (by simp)
  have m5 := mC (L + 1 + 1 + 1 + 1 + 1, o5) (by simp)
  have m4 := mC (L + 1 + 1 + 1 + 1, o4') (by simp)
  have m3 := mC (L + 1 + 1 + 1, o3') (by simp)
  clear mC
  generalize (W, lobj (rowsVal ts) nW) :: (rowsLed ts ++ (P, lobj (strValues lp) nP) :: cellLed L o6' o5 o4' o3' o2' o1) = R at N7 mW mT mP m6 m5 m4 m3
  have N7' : News h₀ L _ ((L + 1 + 1 + 1, o3') :: R) := fun p hp => by
    rcases List.mem_cons.mp hp with rfl | hp
    · exact N7 _ m3
    · exact N7 p hp
  rw [show lawBody.drop 7 = lawSt 7 :: lawBody.drop 8 from rfl]
  with_reducible refine wpAny_execs_cons ?_
  with_reducible refine law_same (c3 := L) X TT F7 N7' hd3' r2 r3 ?_
  intro h8 tk8 S8 nS8 F8 N8 _
  dsimp only
  clear F7 N7 N7'
  rw [hbits] at N8
  have N8' : News h₀ L h8 ((S8, lobj [.bool true, .bool b1, .bool b2, .bool b3, .bool b4, .bool b5, .bool b6, .bool b7, .bool b8, .bool b9, .bool b10, .bool b11] nS8) :: R) := fun p hp => by
    rcases List.mem_cons.mp hp with rfl | hp
    · exact N8 _ (.head _)
    · exact N8 p (.tail _ (.tail _ hp))
  clear N8
  have hu2 : un + 200 < cLine := units_ok2 hu
  generalize hm8 : (fun y => if y = Str.ofString "same" then some (Value.ref S8) else fm3 y) = m8 at F8
  have p8 : m8 (Str.ofString "same") = some (.ref S8) := by rw [← hm8]; exact if_pos rfl
  rw [show lawBody.drop 8 = lawSt 8 :: lawBody.drop 9 from rfl]
  with_reducible refine wpAny_execs_cons ?_
  with_reducible refine law_ten X TT hu2 F8 N8' p8 ?_
  intro h9 tk9 v9 e9 F9 N9
  dsimp only
  clear F8 N8'
  generalize hm9 : (fun y => if y = Str.ofString "ten" then some (Value.bool v9) else m8 y) = m9 at F9
  have p9 : m9 (Str.ofString "same") = some (.ref S8) := by rw [← hm9]; exact (if_neg (by decide)).trans p8
  have t9 : m9 (Str.ofString "ten") = some (.bool v9) := by rw [← hm9]; exact if_pos rfl
  rw [show lawBody.drop 9 = lawSt 9 :: lawBody.drop 10 from rfl]
  with_reducible refine wpAny_execs_cons ?_
  with_reducible refine law_eight X TT hu2 F9 N9 p9 ?_
  intro h10 tk10 v10 e10 F10 N10
  dsimp only
  clear F9 N9
  generalize hm10 : (fun y => if y = Str.ofString "eight" then some (Value.bool v10) else m9 y) = m10 at F10
  have p10 : m10 (Str.ofString "same") = some (.ref S8) := by rw [← hm10]; exact (if_neg (by decide)).trans p9
  have t10 : m10 (Str.ofString "ten") = some (.bool v9) := by rw [← hm10]; exact (if_neg (by decide)).trans t9
  have g10 : m10 (Str.ofString "eight") = some (.bool v10) := by rw [← hm10]; exact if_pos rfl
  rw [show lawBody.drop 10 = lawSt 10 :: lawBody.drop 11 from rfl]
  with_reducible refine wpAny_execs_cons ?_
  with_reducible refine law_six X TT hu2 F10 N10 p10 ?_
  intro h11 tk11 v11 e11 F11 N11
  dsimp only
  clear F10 N10
  generalize hm11 : (fun y => if y = Str.ofString "six" then some (Value.bool v11) else m10 y) = m11 at F11
  have p11 : m11 (Str.ofString "same") = some (.ref S8) := by rw [← hm11]; exact (if_neg (by decide)).trans p10
  have t11 : m11 (Str.ofString "ten") = some (.bool v9) := by rw [← hm11]; exact (if_neg (by decide)).trans t10
  have g11 : m11 (Str.ofString "eight") = some (.bool v10) := by rw [← hm11]; exact (if_neg (by decide)).trans g10
  have s11 : m11 (Str.ofString "six") = some (.bool v11) := by rw [← hm11]; exact if_pos rfl
  rw [show lawBody.drop 11 = lawSt 11 :: lawBody.drop 12 from rfl]
  with_reducible refine wpAny_execs_cons ?_
  with_reducible refine law_six2 X TT hu2 F11 N11 p11 s11 ?_
  intro h12 tk12 m12 k12 n12 F12 N12
  dsimp only
  clear F11 N11
  have N12' : News h₀ L h12 R := fun p hp => N12 p (.tail _ hp)
  clear N12
  have k8 : m12 (Str.ofString "eight") = some (.bool v10) := (n12 _ (by decide)).trans g11
  have k10 : m12 (Str.ofString "ten") = some (.bool v9) := (n12 _ (by decide)).trans t11
  rw [show lawBody.drop 12 = lawSt 12 :: lawBody.drop 13 from rfl]
  with_reducible refine wpAny_execs_cons ?_
  with_reducible refine law_free X TT hu2 F12 N12' hd6' m6 mW mT hl6 hlr ?_
  intro h13 tk13 FL nF F13 N13 hapF
  dsimp only
  clear F12 N12'
  generalize hm13 : (fun y => if y = Str.ofString "free" then some (Value.ref FL) else m12 y) = m13 at F13
  have f13 : m13 (Str.ofString "free") = some (.ref FL) := by rw [← hm13]; exact if_pos rfl
  have s13 : m13 (Str.ofString "six") = some (.bool (if b1 = true then v11 else sixC b2 b3 b4 b5)) := by rw [← hm13]; exact (if_neg (by decide)).trans k12
  have g13 : m13 (Str.ofString "eight") = some (.bool v10) := by rw [← hm13]; exact (if_neg (by decide)).trans k8
  have t13 : m13 (Str.ofString "ten") = some (.bool v9) := by rw [← hm13]; exact (if_neg (by decide)).trans k10
  have hv13 : (([3, 4, 5, 6] : List Nat).map fun k => Value.bool (noHit (ts.map (·.2.2)) k)) = [.bool (if b1 = true then v11 else sixC b2 b3 b4 b5), .bool v10, .bool v9, .bool false] := by
    have h := congrArg (List.map Value.bool) hfree
    rw [hts2]
    subst e9 e10 e11
    exact h
  have hw13 : (([3, 4, 5, 6] : List Nat).map fun k => Value.bool (noHit (ts.map (·.2.2)) k)) = ((([3, 4, 5, 6] : List Nat).map fun k => Value.bool (noHit (ts.map (·.2.2)) k)).map toB).map Value.bool := rfl
  have mF := List.mem_cons_self (a := (FL, lobj (([3, 4, 5, 6] : List Nat).map fun k => Value.bool (noHit (ts.map (·.2.2)) k)) nF)) (l := R)
  rw [show lawBody.drop 13 = lawSt 13 :: lawBody.drop 14 from rfl]
  with_reducible refine wpAny_execs_cons ?_
  with_reducible refine law_if13 X TT hu2 F13 N13 mF f13 s13 g13 t13 hw13 hv13 ?_
  intro h14 tk14 F14 N14
  dsimp only
  clear F13 N13
  have N14' : News h₀ L h14 R := fun p hp => N14 p (.tail _ hp)
  clear N14
  rw [show lawBody.drop 14 = lawSt 14 :: lawBody.drop 15 from rfl]
  with_reducible refine wpAny_execs_cons ?_
  with_reducible refine law_if14 X TT hu2 hroom F14 N14' mP m4 hd4' m6 hd6' hlp hx hx6 mW mT hts2 ?_
  intro h15 tk15 F15 N15
  dsimp only
  clear F14 N14'
  have N15' : News h₀ L h15 ((L + 1 + 1 + 1 + 1 + 1, o5) :: [(P, lobj (strValues lp) nP), (L + 1 + 1 + 1 + 1, o4')]) := fun p hp => by
    simp only [List.mem_cons, List.not_mem_nil, or_false] at hp
    rcases hp with rfl | rfl | rfl
    · exact N15 _ m5
    · exact N15 _ mP
    · exact N15 _ m4
  have hR15 : ∀ p ∈ [(P, lobj (strValues lp) nP), (L + 1 + 1 + 1 + 1, o4')], p.1 ≠ L + 1 + 1 + 1 + 1 + 1 := fun p hp => by
    simp only [List.mem_cons, List.not_mem_nil, or_false] at hp
    rcases hp with rfl | rfl
    · exact Ne.symm (hapP7 (L + 1 + 1 + 1 + 1 + 1, o5) (by simp))
    · exact Nat.ne_of_lt (by omega)
  have mP15 := List.mem_cons_self (a := (P, lobj (strValues lp) nP)) (l := [(L + 1 + 1 + 1 + 1, o4')])
  have m415 := List.mem_cons_of_mem (P, lobj (strValues lp) nP) (List.mem_cons_self (a := (L + 1 + 1 + 1 + 1, o4')) (l := []))
  rw [show lawBody.drop 15 = lawSt 15 :: lawBody.drop 16 from rfl]
  with_reducible refine wpAny_execs_cons ?_
  with_reducible refine law_for15 X TT hu hroom F15 N15' hd5 hR15 mP15 m415 hd4' hlp hx hx6 hdress ?_
  intro h16 tk16 m16 o5' F16 N16
  dsimp only
  rw [show lawBody.drop 16 = lawSt 16 :: [] from rfl]
  with_reducible refine wpAny_execs_cons ?_
  with_reducible refine law_ret X TT F16 N16 ?_
  intro h17 tk17 F17
  dsimp only
  with_reducible exact hQ _ _ _ F17

end
-- part Fin
section
open PySem.Calls PySem.Builtin PySem.Builtin.Str
theorem six_cells {cm : Str → Option Value} {n₁ n₂ n₃ n₄ n₅ n₆ : Str} {c₁ c₂ c₃ c₄ c₅ c₆ : Addr} {o₁ o₂ o₃ o₄ o₅ o₆ : Obj} (x : CellsAre cm [(n₁, c₁), (n₂, c₂), (n₃, c₃), (n₄, c₄), (n₅, c₅), (n₆, c₆)] [(c₁, o₁), (c₂, o₂), (c₃, o₃), (c₄, o₄), (c₅, o₅), (c₆, o₆)]) :
    o₁.data = .cell (cm n₁) ∧ o₂.data = .cell (cm n₂) ∧ o₃.data = .cell (cm n₃) ∧ o₄.data = .cell (cm n₄) ∧ o₅.data = .cell (cm n₅) ∧ o₆.data = .cell (cm n₆) := by
  cases x with
  | cons h1 r => cases r with
    | cons h2 r => cases r with
      | cons h3 r => cases r with
        | cons h4 r => cases r with
          | cons h5 r => cases r with
            | cons h6 r => exact ⟨h1, h2, h3, h4, h5, h6⟩
theorem law_holds : PySem.Challenge.rw_wb0004_01.Holds := hd (by
  k_go0
  rename CellsAre _ _ _ => X0
  obtain ⟨d6, d5, d4, d3, d2, d1⟩ := six_cells X0
  clear X0
  rename News _ _ _ _ => N0
  rename Fr _ _ _ _ => F0
  rename Frag.In _ _ => KX
  rename Top _ _ _ _ _ _ => T
  rename Heap.IsList _ _ _ => hL
  rename IntsAre _ _ => hI
  rename ¬ _ => hcond
  change wpAny _ ({ handled := none, depth := 1 + claimMargin + 1, frames := _, guards := some [], units := 7 } : Around) (execs lawBody (envOfC (Str.ofString "law") lawScope _ _ _)) _ _ _
  with_reducible refine law_all KX T ?hu ?hroom hL hI ?hn F0 N0 ?d1 d2 d3 d4 d5 d6 ?_
  case hu => rw [cLine_is]; decide
  case hroom => decide
  case hn => omega
  case d1 => exact d1
  intro h' tk m' F'
  dsimp only
  kc_close)

end
end Mine

theorem PySem.Challenge.cw_wb0004_01_holds : PySem.Challenge.rw_wb0004_01.Holds :=
  Mine.law_holds
