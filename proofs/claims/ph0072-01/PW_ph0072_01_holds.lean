import PyProof.Rows.All
import Wide.All
import OpenK.AllK
import Wide.FinOn
import PySem.Challenge.RW_ph0072_01
open PySem PySem.W PyProof.Rows PySem.Calls
set_option Elab.async false
set_option maxRecDepth 100000
set_option maxHeartbeats 1000000
set_option exponentiation.threshold 5000
set_option linter.unusedVariables false
namespace Mine
open_top hd for PySem.Challenge.rw_ph0072_01
noncomputable abbrev prog : Program := PySem.Challenge.rw_ph0072_01.row.prog
noncomputable abbrev vw : Program := topProg
noncomputable abbrev lo : List Str := looseW Mine.hd.view_39 [Str.ofString "insort_right", Str.ofString "bisect_right", Str.ofString "insort_left", Str.ofString "bisect_left"] ++ List.map (fun x => x.name) (recsOf Mine.hd.view_39) ++ List.map (fun x => x.fst) (litsOf Mine.hd.view_39) ++ List.map (fun x => x.name) (clssOf Mine.hd.view_39 (looseW Mine.hd.view_39 [Str.ofString "insort_right", Str.ofString "bisect_right", Str.ofString "insort_left", Str.ofString "bisect_left"]))

/-- where a call may be made: a frame of a def stands on top -/
def Site (w : World) (d : Nat) (A : Around) (h : Heap) : Prop :=
  ∃ A₀ base outer h₀ env L m mean mg mb, Below A₀ base outer h₀ ∧ Fr h₀ L h m ∧ (hd.heap_39 w.params).In h₀ ∧ Top vw lo mean mg mb h₀ ∧
    A.frames = some (env :: outer) ∧ env.frame = some L ∧ env.scope.kind = .function ∧ A.depth + d < recursionLimit ∧ A.units + 8 * d < cLine ∧ A.handled = none

/-- the state of a def's frame on top -/
structure At (w : World) (A : Around) (base : Heap) (outer : List Env) (g : Heap) (mean : ExcName → Option Value) (mg mb : Str → Option Value) : Prop where
  B : Below A base outer g
  X : (hd.heap_39 w.params).In g
  T : Top vw lo mean mg mb g

theorem site_of {w : World} {d d' : Nat} {A A₀ : Around} {base : Heap} {outer : List Env} {h₀ h : Heap} {env : Env} {L : Addr} {m : Str → Option Value} {mean : ExcName → Option Value} {mg mb : Str → Option Value}
    (B : Below A₀ base outer h₀) (F : Fr h₀ L h m) (X : (hd.heap_39 w.params).In h₀) (T : Top vw lo mean mg mb h₀) (hA : A.frames = some (env :: outer)) (hf : env.frame = some L) (hk : env.scope.kind = .function)
    (hd : A.depth + d' < recursionLimit) (hu : A.units + 8 * d' < cLine) (hh : A.handled = none) (hle : d ≤ d') : Site w d A h := ⟨A₀, base, outer, h₀, env, L, m, mean, mg, mb, B, F, X, T, hA, hf, hk, by omega, by omega, hh⟩

theorem fr_keep {h₀ h h' : Heap} {L : Addr} {m : Str → Option Value} (F : Fr h₀ L h m) (k : h.StaysIn h') : Fr h₀ L h' m := by
  obtain ⟨⟨oL, a1, a2, hL, a3⟩, k1, k2⟩ := F
  exact ⟨⟨oL, a1, a2, k _ _ hL, a3⟩, fun b o e => k _ _ (k1 b o e), k2⟩
theorem news_keep {h₀ h h' : Heap} {L : Addr} {news : List (Addr × Obj)} (N : News h₀ L h news) (k : h.StaysIn h') : News h₀ L h' news :=
  fun p hp => ⟨k _ _ (N p hp).1, (N p hp).2⟩

/-- a def's end: what stood stands, and the caller goes on -/
def RetP (h₀ : Heap) (R : Result → Shared → Prop) (fl : Flow) (s' : Shared) : Prop :=
  h₀.StaysIn s'.heap ∧ (h₀.StaysIn s'.heap → R (.ok (.ret (match fl with | .ret v => v | _ => .none))) s')
theorem RetP.intro {h₀ : Heap} {R : Result → Shared → Prop} {v : Value} {s' : Shared} {L : Addr} {m : Str → Option Value} (F : Fr h₀ L s'.heap m) (h : h₀.StaysIn s'.heap → R (.ok (.ret v)) s') : RetP h₀ R (.ret v) s' := ⟨F.keep, h⟩

/-- a turn's end -/
def TurnEnd (h₀ : Heap) (L I : Addr) (own : List (Addr × Obj)) (s : Shared) (J : (Str → Option Value) → List (Addr × Obj) → Prop) (f : Flow) (s₂ : Shared) : Prop :=
  f = .next ∧ ∃ h' tk' m₂ news₂, s₂ = { s with heap := h', toks := tk' } ∧ Fr h₀ L h' m₂ ∧ News h₀ L h' (news₂ ++ own) ∧ (∀ p ∈ news₂, p.1 ≠ I) ∧ J m₂ news₂
theorem TurnEnd.intro {h₀ : Heap} {L I : Addr} {own : List (Addr × Obj)} {s : Shared} {J : (Str → Option Value) → List (Addr × Obj) → Prop} {h' : Heap} {tk' : Nat} {m₂ : Str → Option Value} (news₂ : List (Addr × Obj))
    (F : Fr h₀ L h' m₂) (N : News h₀ L h' (news₂ ++ own)) (off : ∀ p ∈ news₂, p.1 ≠ I) (hJ : J m₂ news₂) : TurnEnd h₀ L I own s J .next { s with heap := h', toks := tk' } := ⟨rfl, h', tk', m₂, news₂, rfl, F, N, off, hJ⟩

section
variable {w : World} {A : Around} {s : Shared} {d : Nat}
  {R : Result → Shared → Prop} {name qual : Str} {params : Arguments} {body : List Stmt} {scope : Scope} {dV kV doc pm cdv ct oc : Value} {an od : Option Addr} {osl : Array (Option Value)} {f : Addr} {args : Args} {binds : List (Str × Value)}

theorem enterP (S : Site w (d + 1) A s.heap)
    (ho : (hd.heap_39 w.params).lookup f = some ⟨oc, od, .func (fnOf name qual params body scope dV kV doc pm an cdv ct), osl⟩) (hcd : codeIn (hd.heap_39 w.params) cdv qual = true)
    (hbind : BindsTo s (fnOf name qual params body scope dV kV doc pm an cdv ct) args binds) (hloc : ∀ y ∈ binds, scope.names.lookup y.1 = some .local)
    (hcell : ∀ x ∈ scope.names, x.2 ≠ .cell) (hco : scope.isCoroutine = false) (hgen : scope.isGenerator = false) (hk : scope.kind = .function)
    (h : ∀ base outer L' h₁ mean mg mb, Fr s.heap L' h₁ (fun y => binds.reverse.lookup y) → News s.heap L' h₁ [] → Below A base outer s.heap → (hd.heap_39 w.params).In s.heap → Top vw lo mean mg mb s.heap →
      (A.deeper (envOf qual scope L' f cdv)).depth + d < recursionLimit → (A.deeper (envOf qual scope L' f cdv)).units + 8 * d < cLine →
      (A.deeper (envOf qual scope L' f cdv)).frames = some (envOf qual scope L' f cdv :: outer) → (A.deeper (envOf qual scope L' f cdv)).handled = none →
      wpAny (model prog w) (A.deeper (envOf qual scope L' f cdv)) (execs body (envOf qual scope L' f cdv))
        (RetP s.heap R)
        (fun _ _ => False)
        { s with heap := h₁, toks := s.toks + binds.length }) :
    codeAny (model prog w) A (.call (.ref f) args) R s := by
  obtain ⟨A₀, base, outer, h₀, env, L, m, mean, mg, mb, B, F, X, T, hA, hf, hke, hd, hu, hh⟩ := S
  have X' := X.keeps F.keep
  have BG : Below A base (env :: outer) s.heap := by
    have B₁ := pushX B F hf hke
    exact ⟨hA, fun b o e => F.keep b o (B.stays b o e), B₁.frames⟩
  have hdep : ∀ e : Env, (A.deeper e).depth = A.depth + 1 := fun e => depth_deeper A e
  refine codeAny_call_def (fd := fnOf name qual params body scope dV kV doc pm an cdv ct) (body := body) (binds := binds) (by omega) (X' _ _ ho) rfl (T.nolimit.keeps F.keep) (codeRec_of X' hcd) rfl hbind hcell hloc (fun h₁ hns hk₁ => ?_) hco hgen hk
  refine wpAny_mono (h base (env :: outer) s.heap.objs.size h₁ mean mg mb ⟨hns, hk₁, Nat.le_refl _⟩ News.nil BG X' (T.keeps F.keep) ?_ ?_ ?_ ?_) (fun fl s' hl => hl.2 hl.1) fun _ _ y => y.elim
  · rw [hdep]; omega
  · rw [units_deeper]; omega
  · exact Around.frames_deeper hA
  · exact hh

theorem enterC (S : Site w (d + 1) A s.heap)
    (ho : (hd.heap_39 w.params).lookup f = some ⟨oc, od, .func (fnOf name qual params body scope dV kV doc pm an cdv ct), osl⟩) (hcd : codeIn (hd.heap_39 w.params) cdv qual = true)
    (hbind : BindsTo s (fnOf name qual params body scope dV kV doc pm an cdv ct) args binds)
    (hkind : (binds.all fun y => scope.names.lookup y.1 == some .local || scope.names.lookup y.1 == some .cell) = true)
    (hnd : ((cellsFrom 0 scope.names []).map (·.1)).Nodup) (hco : scope.isCoroutine = false) (hgen : scope.isGenerator = false) (hk : scope.kind = .function)
    (h : ∀ base outer L' h₁ tk mean mg mb cells, Fr s.heap L' h₁ (bindL (envOfC qual scope L' f cdv).kindOf binds fun _ => none) → News s.heap L' h₁ cells →
      CellsAre (bindC (envOfC qual scope L' f cdv).kindOf binds fun _ => none) (cellsFrom (L' + 1) scope.names []) cells →
      Below A base outer s.heap → (hd.heap_39 w.params).In s.heap → Top vw lo mean mg mb s.heap →
      (A.deeper (envOfC qual scope L' f cdv)).depth + d < recursionLimit → (A.deeper (envOfC qual scope L' f cdv)).units + 8 * d < cLine →
      (A.deeper (envOfC qual scope L' f cdv)).frames = some (envOfC qual scope L' f cdv :: outer) → (A.deeper (envOfC qual scope L' f cdv)).handled = none →
      wpAny (model prog w) (A.deeper (envOfC qual scope L' f cdv)) (execs body (envOfC qual scope L' f cdv))
        (RetP s.heap R)
        (fun _ _ => False)
        { s with heap := h₁, toks := tk }) :
    codeAny (model prog w) A (.call (.ref f) args) R s := by
  obtain ⟨A₀, base, outer, h₀, env, L, m, mean, mg, mb, B, F, X, T, hA, hf, hke, hd, hu, hh⟩ := S
  have X' := X.keeps F.keep
  have BG : Below A base (env :: outer) s.heap := by
    have B₁ := pushX B F hf hke
    exact ⟨hA, fun b o e => F.keep b o (B.stays b o e), B₁.frames⟩
  have hdep : ∀ e : Env, (A.deeper e).depth = A.depth + 1 := fun e => depth_deeper A e
  have hlim := T.nolimit.keeps F.keep
  refine codeAny_call_function (by omega) (X' _ _ ho) rfl hco hgen rfl (codeRec_of X' hcd) (hbind _ _ _ _ ?_)
  refine wpAny_newFunctionEnv_cells hk (kindsX hkind _) fun env' he s' x => ?_
  subst he
  refine ⟨hlim.keeps x.toInCall.keep, codeAny_func ?_⟩
  obtain ⟨h₁, tk, rfl, _⟩ := x.done
  have hk₁ := x.toInCall.keep
  obtain ⟨cells, NC, Y⟩ := Cl.news (h₀ := s.heap) (Nat.le_refl _) fun n c hm => ⟨x.cell n c (lookup_of_mem_nodup (cellsFrom_names scope.names 0 (s.heap.objs.size + 1) [] [] rfl ▸ hnd) hm), x.above n c hm⟩
  refine wpAny_mono (h base (env :: outer) s.heap.objs.size h₁ tk mean mg mb cells ⟨x.toInCall.ns, hk₁, Nat.le_refl _⟩ NC Y BG X' (T.keeps F.keep) ?_ ?_ ?_ ?_) (fun fl s' hl => hl.2 hl.1) fun _ _ y => y.elim
  · rw [hdep]; omega
  · rw [units_deeper]; omega
  · exact Around.frames_deeper hA
  · exact hh
end


/-- what is known of a frame's names, written in front -/
def kn : List (Str × Value) → (Str → Option Value) → Str → Option Value
  | [], m => m
  | (x, v) :: r, m => fun y => if y = x then some v else kn r m y
def Kn (m : Str → Option Value) : List (Str × Value) → Prop
  | [] => True
  | (x, v) :: r => m x = some v ∧ Kn m r
theorem kn_eq {m : Str → Option Value} : ∀ {l : List (Str × Value)}, Kn m l → kn l m = m
  | [], _ => rfl
  | (x, v) :: r, h => by
    have ih := kn_eq (m := m) (l := r) h.2
    funext y
    show (if y = x then some v else kn r m y) = m y
    rw [ih]
    split
    · rename_i e; subst e; exact h.1.symm
    · rfl
theorem fr_knows {h₀ h : Heap} {L : Addr} {m : Str → Option Value} (F : Fr h₀ L h m) (l : List (Str × Value)) (hl : Kn m l) : Fr h₀ L h (kn l m) := by
  rw [kn_eq hl]; exact F
theorem fr_turn {h₀ h : Heap} {L : Addr} {m : Str → Option Value} {x : Str} {v : Value} (F : Fr h₀ L h (fun y => if y = x then some v else m y)) (l : List (Str × Value)) (hl : Kn m l) : Fr h₀ L h (kn ((x, v) :: l) m) := by
  show Fr h₀ L h (fun y => if y = x then some v else kn l m y)
  rw [kn_eq hl]; exact F

section
variable {prog : Program} {w : World} {A : Around} {E : Value → Shared → Prop} {s : Shared} {env : Env} {h₀ : Heap} {x : Str} {body : List Stmt} {Q : Flow → Shared → Prop}

/-- a loop by an invariant over the turn's number, the frame's names and the ledger -/
theorem loopI {I : Addr} {fp : List Addr} {n : Nat} {P : Nat → Value → Prop} {St : Nat → Heap → Prop} {m₀ : Str → Option Value} {news : List (Addr × Obj)}
    (W : Walks prog w A I fp [I] n P St) (hIo : ∀ i h, St i h → ∃ o, h.get? I = some o) (hLf : env.locals ∉ fp) (hI0 : h₀.get? I = none) (hst : St 0 s.heap)
    (F : Fr h₀ env.locals s.heap m₀) (N : News h₀ env.locals s.heap news) (hnI : ∀ p ∈ news, p.1 ≠ I)
    (J : Nat → (Str → Option Value) → List (Addr × Obj) → Prop) (hj : J 0 m₀ news)
    (turn : ∀ i v m₁ news₁ h tk own, i < n → P i v → J i m₁ news₁ → (∀ p ∈ news₁, p.1 ≠ I) → (∀ p ∈ own, p.1 ∈ fp) →
      Fr h₀ env.locals h (fun y => if y = x then some v else m₁ y) → News h₀ env.locals h (news₁ ++ own) →
      wpAny (model prog w) A (execs body env) (TurnEnd h₀ env.locals I own s (J (i + 1))) E { s with heap := h, toks := tk })
    (done : ∀ m₁ news₁ h tk, J n m₁ news₁ → (∀ p ∈ news₁, p.1 ≠ I) → Fr h₀ env.locals h m₁ → News h₀ env.locals h news₁ → Q .next { s with heap := h, toks := tk }) :
    LoopAtV prog w A h₀ env x body Q E (.ref I) s := by
  refine ⟨I, fp, [I], n, P, St, m₀, news, J, rfl, W, hLf, ?_, ?_, hst, F, N, hj, ?_, ?_⟩
  · intro b hb; rw [List.mem_singleton.mp hb]; exact hI0
  · intro p hp hb; exact hnI p hp (List.mem_singleton.mp hb)
  · rintro i v m₁ news₁ s₁ own ⟨h, tk, rfl⟩ hi hP hJ hoff hown _ _ _ F₁ N₁
    refine wpAny_mono (turn i v m₁ news₁ h tk own hi hP hJ (fun p hp e => hoff p hp (List.mem_singleton.mpr e)) hown F₁ (fun p hp => N₁ p ((List.mem_append.mp hp).elim (fun q => List.mem_append_right _ q) fun q => List.mem_append_left _ q))) (fun f s₂ hf => ?_) fun _ _ e => e
    obtain ⟨rfl, h', tk', m₂, news₂, rfl, F₂, N₂, off₂, hJ₂⟩ := hf
    exact .next ⟨rfl, h', tk', m₂, news₂, rfl, F₂, (fun p hp => N₂ p ((List.mem_append.mp hp).elim (fun q => List.mem_append_right _ q) fun q => List.mem_append_left _ q)), (fun p hp hb => off₂ p hp (List.mem_singleton.mp hb)), hJ₂⟩
  · intro h' tk m' news' F' N' off hJ
    exact done m' news' h' tk hJ (fun p hp e => off p hp (List.mem_singleton.mpr e)) F' N'

/-- a loop over a range -/
theorem loopR {r : Addr} {a b c : Int} {t u v : Tok} {n : Nat} {m₀ : Str → Option Value} {news : List (Addr × Obj)}
    (hh : A.handled = none) (hr : IsRange s.heap r a b c t u v) (hsm : Builtin.Range.small a b c = true) (hn : Builtin.Range.rangeSize a b c = ((n : Nat) : Int))
    (F : Fr h₀ env.locals s.heap m₀) (N : News h₀ env.locals s.heap news)
    (J : Nat → (Str → Option Value) → List (Addr × Obj) → Prop) (hj : J 0 m₀ news)
    (turn : ∀ i t m₁ news₁ h tk own I, i < n → J i m₁ news₁ → (∀ p ∈ news₁, p.1 ≠ I) → (∀ p ∈ own, p.1 = I) →
      Fr h₀ env.locals h (fun y => if y = x then some (.int (a + i * c) t) else m₁ y) → News h₀ env.locals h (news₁ ++ own) →
      wpAny (model prog w) A (execs body env) (TurnEnd h₀ env.locals I own s (J (i + 1))) E { s with heap := h, toks := tk })
    (done : ∀ m₁ news₁ h tk, J n m₁ news₁ → Fr h₀ env.locals h m₁ → News h₀ env.locals h news₁ → Q .next { s with heap := h, toks := tk }) :
    wpAny (model prog w) A (pyIter (.ref r)) (fun it s₂ => LoopAtV prog w A h₀ env x body Q E it s₂) E s := by
  refine wpAny_pyIter_range hr hsm ?_
  have hlt : ∀ b o, s.heap.get? b = some o → b ≠ s.heap.objs.size := fun b o e => Nat.ne_of_lt (Heap.lt_size e)
  refine loopI (Walks.range hh s.heap.objs.size a c n) (fun i h st => ⟨_, st⟩) ?_ (next_is_new F) (by show IsRangeIter _ _ _ _ _; rw [hn]; simpa using Heap.get?_push_size _ rfl) (F.push _)
    (fun p hp => ⟨Heap.get?_push_of_some _ (N p hp).1, (N p hp).2⟩) (fun p hp => hlt _ _ (N p hp).1) J hj ?_ ?_
  · intro hm; exact absurd F.ns.lt ((List.mem_singleton.mp hm) ▸ Nat.lt_irrefl _)
  · rintro i v m₁ news₁ h tk own hi ⟨t, rfl⟩ hJ off hown F₁ N₁
    exact turn i t m₁ news₁ h tk own _ hi hJ off (fun p hp => List.mem_singleton.mp (hown p hp)) F₁ N₁
  · intro m₁ news₁ h tk hJ _ F₁ N₁
    exact done m₁ news₁ h tk hJ F₁ N₁

/-- a loop over a list -/
theorem loopL {l : Addr} {its : Array Value} {m₀ : Str → Option Value} {news : List (Addr × Obj)}
    (hh : A.handled = none) (hl : s.heap.IsList l its) (hlL : l ≠ env.locals)
    (F : Fr h₀ env.locals s.heap m₀) (N : News h₀ env.locals s.heap news)
    (J : Nat → (Str → Option Value) → List (Addr × Obj) → Prop) (hj : J 0 m₀ news)
    (turn : ∀ i v m₁ news₁ h tk own I, its[i]? = some v → J i m₁ news₁ → (∀ p ∈ news₁, p.1 ≠ I) → (∀ p ∈ own, p.1 = I ∨ p.1 = l) →
      Fr h₀ env.locals h (fun y => if y = x then some v else m₁ y) → News h₀ env.locals h (news₁ ++ own) →
      wpAny (model prog w) A (execs body env) (TurnEnd h₀ env.locals I own s (J (i + 1))) E { s with heap := h, toks := tk })
    (done : ∀ m₁ news₁ h tk, J its.size m₁ news₁ → Fr h₀ env.locals h m₁ → News h₀ env.locals h news₁ → Q .next { s with heap := h, toks := tk }) :
    wpAny (model prog w) A (pyIter (.ref l)) (fun it s₂ => LoopAtV prog w A h₀ env x body Q E it s₂) E s := by
  refine wpAny_pyIter_list hl ?_
  have hlt : ∀ b o, s.heap.get? b = some o → b ≠ s.heap.objs.size := fun b o e => Nat.ne_of_lt (Heap.lt_size e)
  have hne : l ≠ s.heap.objs.size := by obtain ⟨o, e, _⟩ := hl; exact hlt _ _ e
  refine loopI (Walks.list hh s.heap.objs.size l hne its) (fun i h st => by obtain ⟨o, e, _⟩ := st.1; exact ⟨o, e⟩) ?_ (next_is_new F)
    ⟨⟨_, Heap.get?_push_size _ rfl, rfl, rfl⟩, hl.push _⟩ (F.push _)
    (fun p hp => ⟨Heap.get?_push_of_some _ (N p hp).1, (N p hp).2⟩) (fun p hp => hlt _ _ (N p hp).1) J hj ?_ ?_
  · intro hm
    rcases List.mem_cons.mp hm with e | hm
    · exact absurd F.ns.lt (e ▸ Nat.lt_irrefl _)
    · exact hlL (List.mem_singleton.mp hm).symm
  · intro i v m₁ news₁ h tk own hi hP hJ off hown F₁ N₁
    refine turn i v m₁ news₁ h tk own _ hP hJ off (fun p hp => ?_) F₁ N₁
    rcases List.mem_cons.mp (hown p hp) with e | hm
    · exact .inl e
    · exact .inr (List.mem_singleton.mp hm)
  · intro m₁ news₁ h tk hJ _ F₁ N₁
    exact done m₁ news₁ h tk hJ F₁ N₁
end
theorem xor_add_and (m : Nat) : ∀ n : Nat, (m ^^^ n) + (m &&& n) = m ||| n := by
  induction m using Nat.strongRecOn with
  | ind m ih =>
    intro n
    by_cases h : m = 0
    · subst h; simp
    · have i := ih (m / 2) (by omega) (n / 2)
      have h1 : (m ^^^ n) / 2 = m / 2 ^^^ n / 2 := Nat.xor_div_two
      have h2 : (m &&& n) / 2 = m / 2 &&& n / 2 := Nat.and_div_two
      have h3 : (m ||| n) / 2 = m / 2 ||| n / 2 := Nat.or_div_two
      have a1 := @Nat.and_mod_two_eq_one m n
      have a2 := @Nat.or_mod_two_eq_one m n
      have a3 := @Nat.xor_mod_two_eq_one m n
      rw [← h1, ← h2, ← h3] at i
      omega

theorem bitAnd_nat (m n : Nat) : Builtin.bitAnd (m : Int) (n : Int) = ((m &&& n : Nat) : Int) := by
  rw [bitAnd_pp (Int.natCast_nonneg _) (Int.natCast_nonneg _), Int.toNat_natCast, Int.toNat_natCast]
theorem bitOr_nat (m n : Nat) : Builtin.bitOr (m : Int) (n : Int) = ((m ||| n : Nat) : Int) := by
  unfold Builtin.bitOr
  rw [bitAnd_nn (by unfold Builtin.bitNot; omega) (by unfold Builtin.bitNot; omega)]
  have e : ∀ k : Nat, (Builtin.bitNot (Builtin.bitNot (k : Int))) = (k : Int) := fun k => by unfold Builtin.bitNot; omega
  rw [e, e, e, Int.toNat_natCast, Int.toNat_natCast]
theorem bitXor_nat (m n : Nat) : Builtin.bitXor (m : Int) (n : Int) = ((m ^^^ n : Nat) : Int) := by
  unfold Builtin.bitXor
  rw [bitOr_nat, bitAnd_nat]
  have := xor_add_and m n
  omega

section
variable {prog : Program} {w : World} {A : Around} {E : Value → Shared → Prop} {s : Shared} {a b : Int} {t u : Tok} {Q : Value → Shared → Prop}
theorem xorN (m n : Nat) (ha : a = (m : Int)) (hb : b = (n : Int)) (h : Q (.int ((m ^^^ n : Nat) : Int) s.toks) { s with toks := s.toks + 1 }) : wpAny (model prog w) A (binaryOp .BitXor (.int a t) (.int b u)) Q E s :=
  xor_int (by subst ha hb; rw [bitXor_nat]; exact h)
theorem andN (m n : Nat) (ha : a = (m : Int)) (hb : b = (n : Int)) (h : Q (.int ((m &&& n : Nat) : Int) s.toks) { s with toks := s.toks + 1 }) : wpAny (model prog w) A (binaryOp .BitAnd (.int a t) (.int b u)) Q E s :=
  and_int (by subst ha hb; rw [bitAnd_nat]; exact h)
theorem orN (m n : Nat) (ha : a = (m : Int)) (hb : b = (n : Int)) (h : Q (.int ((m ||| n : Nat) : Int) s.toks) { s with toks := s.toks + 1 }) : wpAny (model prog w) A (binaryOp .BitOr (.int a t) (.int b u)) Q E s :=
  or_int (by subst ha hb; rw [bitOr_nat]; exact h)
theorem shr_nat (m n : Nat) : ((m : Int)).fdiv (2 ^ ((n : Int)).toNat) = ((m >>> n : Nat) : Int) := by
  rw [Int.toNat_natCast, Nat.shiftRight_eq_div_pow, ← kbt_cast, Int.fdiv_eq_ediv_of_nonneg _ (Int.natCast_nonneg _), Int.natCast_ediv]
theorem shl_nat (m n : Nat) : ((m : Int)) * (2 ^ ((n : Int)).toNat) = ((m <<< n : Nat) : Int) := by
  rw [Int.toNat_natCast, Nat.shiftLeft_eq, ← kbt_cast, Int.natCast_mul]
theorem shrN (m n : Nat) (ha : a = (m : Int)) (hb : b = (n : Int)) (h : Q (.int ((m >>> n : Nat) : Int) s.toks) { s with toks := s.toks + 1 }) : wpAny (model prog w) A (binaryOp .RShift (.int a t) (.int b u)) Q E s :=
  rshift_int (by omega) (by subst ha hb; rw [shr_nat]; exact h)
theorem ishrN (m n : Nat) (ha : a = (m : Int)) (hb : b = (n : Int)) (h : Q (.int ((m >>> n : Nat) : Int) s.toks) { s with toks := s.toks + 1 }) : wpAny (model prog w) A (inplaceOp .RShift (.int a t) (.int b u)) Q E s :=
  irshift_int (by omega) (by subst ha hb; rw [shr_nat]; exact h)
theorem shlN (m n : Nat) (ha : a = (m : Int)) (hb : b = (n : Int)) (hm : m < 2 ^ 4096) (hn : n ≤ 4096) (h : Q (.int ((m <<< n : Nat) : Int) s.toks) { s with toks := s.toks + 1 }) : wpAny (model prog w) A (binaryOp .LShift (.int a t) (.int b u)) Q E s := by
  subst ha hb
  refine lshift_int (by omega) ?_ (by rw [shl_nat]; exact h)
  have : Builtin.Int.intBits (m : Int) ≤ 4096 := intBits_le_iff.mpr (by simpa using hm)
  have e : (2 : Int) ^ 27 = 134217728 := by decide
  rw [e]
  omega
theorem addN (m n : Nat) (ha : a = (m : Int)) (hb : b = (n : Int)) (h : Q (.int ((m + n : Nat) : Int) s.toks) { s with toks := s.toks + 1 }) : wpAny (model prog w) A (binaryOp .Add (.int a t) (.int b u)) Q E s :=
  PyProof.Rows.add_int (by subst ha hb; rw [← Int.natCast_add]; exact h)
theorem subN (m n : Nat) (ha : a = (m : Int)) (hb : b = (n : Int)) (hl : n ≤ m) (h : Q (.int ((m - n : Nat) : Int) s.toks) { s with toks := s.toks + 1 }) : wpAny (model prog w) A (binaryOp .Sub (.int a t) (.int b u)) Q E s :=
  PyProof.Rows.sub_int (by subst ha hb; rw [show ((m : Int) - n) = ((m - n : Nat) : Int) by omega]; exact h)
theorem divN (m n : Nat) (ha : a = (m : Int)) (hb : b = (n : Int)) (hn : n ≠ 0) (hn2 : n < 1073741824) (h : Q (.int ((m / n : Nat) : Int) s.toks) { s with toks := s.toks + 1 }) : wpAny (model prog w) A (binaryOp .FloorDiv (.int a t) (.int b u)) Q E s :=
  floordiv_int (by omega) (by subst ha hb; rw [Int.fdiv_eq_ediv_of_nonneg _ (Int.natCast_nonneg _), ← Int.natCast_ediv]; exact h) (Or.inl (PyProof.noPylong_small (by omega)))
theorem modN (m n : Nat) (ha : a = (m : Int)) (hb : b = (n : Int)) (hn : n ≠ 0) (h : Q (.int ((m % n : Nat) : Int) s.toks) { s with toks := s.toks + 1 }) : wpAny (model prog w) A (binaryOp .Mod (.int a t) (.int b u)) Q E s :=
  PyProof.Rows.mod_int (by omega) (by subst ha hb; rw [Int.fmod_eq_emod_of_nonneg _ (Int.natCast_nonneg _), ← Int.natCast_emod]; exact h)
theorem powN (n : Nat) (ha : a = 2) (hb : b = (n : Int)) (hn : n ≤ 4096) (h : Q (.int ((2 ^ n : Nat) : Int) s.toks) { s with toks := s.toks + 1 }) : wpAny (model prog w) A (binaryOp .Pow (.int a t) (.int b u)) Q E s := by
  subst ha hb
  refine pow_int_small (by omega) (by omega) (by decide) ?_
  rw [Int.toNat_natCast, ← kbt_cast]; exact h
end

def casts (ns : List Nat) : List Int := ns.map (fun n : Nat => (n : Int))
theorem casts_at {vs : List Value} {ns : List Nat} (h : IntsAre vs (casts ns)) {i : Nat} {v : Value} (hv : vs.toArray[i]? = some v) : ∃ k t, ns[i]? = some k ∧ v = .int ((k : Nat) : Int) t := by
  obtain ⟨n, t, rfl, hn⟩ := h.at i v (by simpa using hv)
  unfold casts at hn
  rw [List.getElem?_map] at hn
  cases hk : ns[i]? with
  | none => rw [hk] at hn; cases hn
  | some k => rw [hk] at hn; cases hn; exact ⟨k, t, rfl, rfl⟩
theorem casts_length {vs : List Value} {ns : List Nat} (h : IntsAre vs (casts ns)) : vs.length = ns.length := by
  have := h.length; unfold casts at this; simpa using this

theorem casts_getD (ns : List Nat) (i : Nat) : (casts ns).getD i 0 = ((ns.getD i 0 : Nat) : Int) := by
  unfold casts
  rw [List.getD_eq_getElem?_getD, List.getD_eq_getElem?_getD, List.getElem?_map]
  cases ns[i]? <;> rfl
theorem casts_len (ns : List Nat) : (casts ns).length = ns.length := by unfold casts; simp
section
variable {prog : Program} {w : World} {A : Around} {E : Value → Shared → Prop} {s : Shared} {a : Int} {u : Tok} {l : Addr} {vs : List Value} {ns : List Nat} {Q : Value → Shared → Prop} {value slice : PySem.Expr}
theorem subAt (hl : s.heap.IsList l vs.toArray) (hI : IntsAre vs (casts ns)) (k : Nat) (ha : a = (k : Int)) (h1 : k < ns.length) (h2 : ns.length ≤ 1000) (h : ∀ t, Q (.int ((ns.getD k 0 : Nat) : Int) t) s)
    (hs : subscripted slice false (.ref l) (.int a u) = operate [.ref l, .int a u] (getItem (.ref l) (.int a u)) := by with_unfolding_all rfl) :
    wpAny (model prog w) A (subscriptTail value slice (.ref l) (.int a u)) Q E s := by
  subst ha
  refine item_list_intsR hl hI (by omega) (by rw [casts_len]; omega) (by omega) (fun t => ?_) hs
  rw [Int.toNat_natCast, casts_getD]; exact h t
theorem subNeg (hl : s.heap.IsList l vs.toArray) (hI : IntsAre vs (casts ns)) (k : Nat) (ha : a = -(k : Int)) (h0 : 1 ≤ k) (h1 : k ≤ ns.length) (h2 : ns.length ≤ 1000) (h : ∀ t, Q (.int ((ns.getD (ns.length - k) 0 : Nat) : Int) t) s)
    (hs : subscripted slice false (.ref l) (.int a u) = operate [.ref l, .int a u] (getItem (.ref l) (.int a u)) := by with_unfolding_all rfl) :
    wpAny (model prog w) A (subscriptTail value slice (.ref l) (.int a u)) Q E s := by
  subst ha
  have hlen := casts_length hI
  obtain ⟨t, hx⟩ := hI.get (ns.length - k) (((ns.getD (ns.length - k) 0 : Nat) : Int)) (by
    unfold casts
    rw [List.getElem?_map, List.getD_eq_getElem?_getD, List.getElem?_eq_getElem (by omega)]; rfl)
  refine kde_neg hl (by omega) (by omega) (seqIndex_neg (by omega) (by omega)) ?_ (h t) hs
  rw [← hx]
  congr 1
  omega
end

theorem lenN {prog : Program} {w : World} {A : Around} {E : Value → Shared → Prop} {s : Shared} {l : Addr} {vs : List Value} {Q : Value → Shared → Prop} (k : Nat) (hl : s.heap.IsList l vs.toArray) (hk : vs.length = k) (h2 : k ≤ 1000)
    (h : Q (.int ((k : Nat) : Int) (s.toks + 1)) { s with toks := s.toks + 1 + 1 }) : wpAny (model prog w) A (call (.builtin "len") [.ref l]) Q E s :=
  len_list hl (by rw [List.size_toArray, hk]; omega) (by rw [List.size_toArray, hk]; exact h)
theorem filled : PySem.Challenge.rw_ph0072_01.prog = PySem.Challenge.rw_ph0072_01.prog ∧ Mine.hd.heap_39 = Mine.hd.heap_39 := by
  k_fill
  w_top off
  exact ⟨rfl, rfl⟩
local macro_rules | `(tactic| walk_at "binaryOp BitXor int int") => `(tactic| (k_dflt (refine xorN _ _ (by first | exact rfl | exact Int.natCast_ofNat.symm) (by first | exact rfl | exact Int.natCast_ofNat.symm) ?_); try dsimp only))
local macro_rules | `(tactic| walk_at "binaryOp BitAnd int int") => `(tactic| (k_dflt (refine andN _ _ (by first | exact rfl | exact Int.natCast_ofNat.symm) (by first | exact rfl | exact Int.natCast_ofNat.symm) ?_); try dsimp only))
local macro_rules | `(tactic| walk_at "binaryOp BitOr int int") => `(tactic| (k_dflt (refine orN _ _ (by first | exact rfl | exact Int.natCast_ofNat.symm) (by first | exact rfl | exact Int.natCast_ofNat.symm) ?_); try dsimp only))
local macro_rules | `(tactic| walk_at "binaryOp RShift int int") => `(tactic| (k_dflt (refine shrN _ _ (by first | exact rfl | exact Int.natCast_ofNat.symm) (by first | exact rfl | exact Int.natCast_ofNat.symm) ?_); try dsimp only))
local macro_rules | `(tactic| walk_at "inplaceOp RShift int int") => `(tactic| (k_dflt (refine ishrN _ _ (by first | exact rfl | exact Int.natCast_ofNat.symm) (by first | exact rfl | exact Int.natCast_ofNat.symm) ?_); try dsimp only))
local macro_rules | `(tactic| walk_at "binaryOp Add int int") => `(tactic| (k_dflt (refine addN _ _ (by first | exact rfl | exact Int.natCast_ofNat.symm) (by first | exact rfl | exact Int.natCast_ofNat.symm) ?_); try dsimp only))
local macro_rules | `(tactic| walk_at "binaryOp LShift int int") => `(tactic| (k_dflt (refine shlN _ _ (by first | exact rfl | exact Int.natCast_ofNat.symm) (by first | exact rfl | exact Int.natCast_ofNat.symm) (by first | assumption | decide) (by first | assumption | decide) ?_); try dsimp only))
local macro_rules | `(tactic| walk_at "binaryOp Sub int int") => `(tactic| (k_dflt (refine subN _ _ (by first | exact rfl | exact Int.natCast_ofNat.symm) (by first | exact rfl | exact Int.natCast_ofNat.symm) (by first | assumption | omega) ?_); try dsimp only))
local macro_rules | `(tactic| walk_at "eval Name") => `(tactic| ((with_reducible show wpAny _ _ (eval (Expr.Name _ _) (compEnvC _ _ _ _)) _ _ _); k_dflt (first
  | (refine' lcf_cell ?mqN ?mqc ?mqm ?mqd ?_ ?mqa ?mqb; (case mqa => exact rfl); (case mqb => exact rfl); (case mqN => k_asm); (case mqc => exact rfl); (case mqm => k_mem); (case mqd => k_asm); k_whole)
  | (refine' LCgL.ld_own ?mqN ?mqm ?mqC ?mqx ?_ ?mqa ?mqb; (case mqa => exact rfl); (case mqb => exact rfl); (case mqN => k_asm); (case mqm => k_mem); (case mqC => with_reducible assumption); (case mqx => with_reducible assumption); k_whole))))
local macro_rules | `(tactic| walk_at "binaryOp Pow int int") => `(tactic| (k_dflt (refine powN _ rfl (by first | exact rfl | exact Int.natCast_ofNat.symm) (by first | assumption | decide) ?_); try dsimp only))
local macro_rules | `(tactic| walk_at "binaryOp FloorDiv int int") => `(tactic| (k_dflt (refine divN _ _ (by first | exact rfl | exact Int.natCast_ofNat.symm) (by first | exact rfl | exact Int.natCast_ofNat.symm) (by decide) (by decide) ?_); try dsimp only))
local macro_rules | `(tactic| walk_at "binaryOp Mod int int") => `(tactic| (k_dflt (refine modN _ _ (by first | exact rfl | exact Int.natCast_ofNat.symm) (by first | exact rfl | exact Int.natCast_ofNat.symm) (by first | assumption | decide) ?_); try dsimp only))
def genStep (c : Nat) : Nat := if c % 2 = 1 then (c >>> 1) ^^^ 3988292384 else c >>> 1
def genN : Nat → Nat → Nat
  | 0, c => c
  | n + 1, c => genStep (genN n c)
def genCrc (c : Nat) : Nat := genN 8 c

theorem gen_crc {w : World} {A : Around} {s : Shared} {Q E : Value → Shared → Prop} (c : Nat) (t : Tok) (S : Site w 1 A s.heap)
    (hQ : ∀ t h' tk', s.heap.StaysIn h' → Q (.int (genCrc c : Nat) t) { s with heap := h', toks := tk' }) :
    wpAny (model prog w) A (call (.ref 57) [.int (c : Int) t]) Q E s := by
  refine wpAny_call ?_
  k_dflt (refine' enterP (d := 0) S ?k6 ?k7 ?k9 ?kB ?c5 ?c2 ?c3 ?c4 ?_; (case k6 => k_is); (case k7 => k_is); (case k9 => exact BindsTo.of_eq rfl); (case kB => exact locs rfl); (case c5 => decide); (case c2 => exact rfl); (case c3 => exact rfl); (case c4 => exact rfl))
  intro base outer L' h₁ mean mg mb F N B X T hd hu hA hh
  show wpAny _ _ _ _ _ _
  k_fold
  walk1
  walk1
  refine For_invV s.heap rfl rfl ?_
  iterate 6 walk1
  refine call_range_1 ?_
  dsimp only
  refine loopR (n := 8) hh (IsRange.new ..) (by decide) (by decide) (F.push _) News.nil (fun i m nw => nw = [] ∧ ∃ t, m (Str.ofString "crc") = some (.int (genN i c : Nat) t)) ⟨rfl, t, rfl⟩ ?_ ?_
  · rintro i t m₁ news₁ h tk own I hi ⟨rfl, t1, hm⟩ _ _ F₁ N₁
    replace F₁ := fr_turn F₁ [(Str.ofString "crc", .int (genN i c : Nat) t1)] ⟨hm, trivial⟩
    show wpAny _ _ _ _ _ _
    k_fold
    iterate 6 walk1
    refine andN (genN i c) 1 rfl rfl ?_
    rw [Nat.and_one_is_mod]
    rcases Nat.mod_two_eq_zero_or_one (genN i c) with e | e
    · rw [e]
      dsimp only
      repeat (first | (walk1; try dsimp only) | (k_unfold; try dsimp only))
      exact TurnEnd.intro [] (by assumption) (by assumption) (by simp) ⟨rfl, _, by show _ = some (Value.int (genStep (genN i c) : Nat) _); unfold genStep; rw [e]; rfl⟩
    · rw [e]
      dsimp only
      repeat (first | (walk1; try dsimp only) | (k_unfold; try dsimp only))
      exact TurnEnd.intro [] (by assumption) (by assumption) (by simp) ⟨rfl, _, by show _ = some (Value.int (genStep (genN i c) : Nat) _); unfold genStep; rw [e]; rfl⟩
  · rintro m₁ news₁ h tk ⟨rfl, t1, hm⟩ F₁ N₁
    replace F₁ := fr_knows F₁ [(Str.ofString "crc", .int (genN 8 c : Nat) t1)] ⟨hm, trivial⟩
    repeat (first | (walk1; try dsimp only) | (k_unfold; try dsimp only))
    exact RetP.intro (by assumption) fun k => by exact hQ _ _ _ k
def powers : List Nat := [0, 1, 2, 4, 5, 7, 8, 10, 11, 12, 16, 22, 23, 26, 32]
def timesL (l : List Nat) (n : Nat) : Nat := l.foldl (fun p k => p ^^^ (n <<< k)) 0
def times (n : Nat) : Nat := timesL powers n

theorem powers_le : ∀ k ∈ powers, k ≤ 32 := by decide
theorem timesL_succ {i k c : Nat} {l : List Nat} (h : l[i]? = some k) : timesL (l.take (i + 1)) c = timesL (l.take i) c ^^^ (c <<< k) := by
  unfold timesL
  rw [List.take_add_one, h]
  simp

theorem law_times {w : World} {A : Around} {s : Shared} {Q E : Value → Shared → Prop} (c : Nat) (t : Tok) (S : Site w 1 A s.heap) (hc : c < 2 ^ 4096)
    (hQ : ∀ t h' tk', s.heap.StaysIn h' → Q (.int (times c : Nat) t) { s with heap := h', toks := tk' }) :
    wpAny (model prog w) A (call (.ref 64) [.int (c : Int) t]) Q E s := by
  refine wpAny_call ?_
  k_dflt (refine' enterP (d := 0) S ?k6 ?k7 ?k9 ?kB ?c5 ?c2 ?c3 ?c4 ?_; (case k6 => k_is); (case k7 => k_is); (case k9 => exact BindsTo.of_eq rfl); (case kB => exact locs rfl); (case c5 => decide); (case c2 => exact rfl); (case c3 => exact rfl); (case c4 => exact rfl))
  intro base outer L' h₁ mean mg mb F N B X T hd hu hA hh
  show wpAny _ _ _ _ _ _
  k_fold
  iterate 5 walk1
  walk1
  with_reducible refine For_invV s.heap ?hx ?hp ?_ ?hs ?hE
  case hx => exact rfl
  case hp => exact rfl
  case hE => passes_own
  case hs => intro _; exact rfl
  with_reducible refine List_ ?_
  repeat (first | (walk1; try dsimp only))
  rename News _ _ _ _ => N2
  rename Fr _ _ _ _ => F2
  obtain ⟨its, hL2, hI⟩ : ∃ its : List Value, Heap.IsList _ _ its.toArray ∧ IntsAre its (casts powers) := ⟨_, News.isList N2 (List.Mem.head _), by
    unfold casts powers
    exact .cons _ _ (.cons _ _ (.cons _ _ (.cons _ _ (.cons _ _ (.cons _ _ (.cons _ _ (.cons _ _ (.cons _ _ (.cons _ _ (.cons _ _ (.cons _ _ (.cons _ _ (.cons _ _ (.cons _ _ .nil))))))))))))))⟩
  refine loopL hh hL2 (N2 _ (List.Mem.head _)).2.1 F2 News.nil (fun i m nw => nw = [] ∧ (∃ t, m (Str.ofString "product") = some (.int (timesL (powers.take i) c : Nat) t)) ∧ ∃ t, m (Str.ofString "number") = some (.int (c : Nat) t)) ⟨rfl, ⟨_, rfl⟩, _, rfl⟩ ?_ ?_
  · rintro i v m₁ news₁ h3 tk own I hv ⟨rfl, ⟨t1, hm⟩, t2, hm2⟩ _ _ F₁ N₁
    obtain ⟨k, tk9, hk, rfl⟩ := casts_at hI hv
    replace F₁ := fr_turn F₁ [(Str.ofString "product", _), (Str.ofString "number", _)] ⟨hm, hm2, trivial⟩
    have hk9 : k ≤ 4096 := Nat.le_trans (powers_le k (List.mem_of_getElem? hk)) (by decide)
    show wpAny _ _ _ _ _ _
    k_fold
    repeat (first | (walk1; try dsimp only) | (k_unfold; try dsimp only))
    exact TurnEnd.intro [] (by assumption) (by assumption) (by simp) ⟨rfl, ⟨_, by rw [timesL_succ hk]; exact rfl⟩, _, rfl⟩
  · rintro m₁ news₁ h3 tk ⟨rfl, ⟨t1, hm⟩, t2, hm2⟩ F₁ N₁
    replace F₁ := fr_knows F₁ [(Str.ofString "product", _)] ⟨hm, trivial⟩
    repeat (first | (walk1; try dsimp only) | (k_unfold; try dsimp only))
    have e : its.toArray.size = powers.length := by rw [List.size_toArray]; exact casts_length hI
    rw [e, List.take_length]
    exact RetP.intro (by assumption) fun k => by exact hQ _ _ _ k

def turnedL (n z : Nat) : List Nat := (List.range z).map fun k => (n >>> k &&& 1) <<< (z - 1 - k)
def turned (n z : Nat) : Nat := (turnedL n z).sum

def ElEnd (h₀ : Heap) (L : Addr) (m : Str → Option Value) (s : Shared) (led : List (Addr × Obj)) (R : Value → Prop) (y : Value) (s' : Shared) : Prop :=
  R y ∧ ∃ h' tk', s' = { s with heap := h', toks := tk' } ∧ Fr h₀ L h' m ∧ News h₀ L h' led
theorem ElEnd.intro {h₀ h' : Heap} {L : Addr} {m : Str → Option Value} {s : Shared} {led : List (Addr × Obj)} {R : Value → Prop} {y : Value} {tk' : Nat} (F : Fr h₀ L h' m) (N : News h₀ L h' led) (hR : R y) : ElEnd h₀ L m s led R y { s with heap := h', toks := tk' } :=
  ⟨hR, h', tk', rfl, F, N⟩
theorem ints_of : ∀ {ys : List Value} {ns : List Nat}, ys.length = ns.length → (∀ (i : Nat) (y : Value), ys[i]? = some y → ∃ k t, ns[i]? = some k ∧ y = Value.int ((k : Nat) : Int) t) → IntsAre ys (casts ns)
  | [], [], _, _ => .nil
  | [], _ :: _, h, _ => by simp at h
  | _ :: _, [], h, _ => by simp at h
  | y :: ys, n :: ns, h, hy => by
    obtain ⟨k, t, e, rfl⟩ := hy 0 y rfl
    simp at e
    subst e
    exact .cons _ _ (ints_of (by simpa using h) fun i z hz => by simpa using hy (i + 1) z (by simpa using hz))
theorem casts_sum (ns : List Nat) : (casts ns).sum = ((ns.sum : Nat) : Int) := by
  induction ns with
  | nil => rfl
  | cons n r ih => show (n : Int) + (casts r).sum = _; rw [ih, List.sum_cons]; omega

/-- a comprehension's turns, the elements told one by one; what is made is dropped -/
theorem comp_all {prog : Program} {w : World} {A : Around} {s : Shared} {h₀ : Heap} {L : Addr} {m : Str → Option Value} {env : Env} {elt : PySem.Expr} {x : Str} {scope : Scope} {cl : List (Str × Addr)} {S : List (Addr × Obj) → Prop} {P : Nat → Value → Prop}
    {Fin : List Value → List (Addr × Obj) → Prop} {news : List (Addr × Obj)} {n : Nat} (R : Nat → Value → Prop) (hS : S news)
    (el : ∀ i v I oI C oC D ys m₂ h tk (E' : Value → Shared → Prop), i < n → P i v → LCg.NsObj oC m₂ → m₂ x = some v → Fr h₀ L h m → News h₀ L h ((I, oI) :: (C, oC) :: (D, LCg.lst ys) :: news) →
      wpAny (model prog w) A (eval elt (compEnvC scope cl C env)) (ElEnd h₀ L m s ((I, oI) :: (C, oC) :: (D, LCg.lst ys) :: news) (R i)) E' { s with heap := h, toks := tk })
    (fin : ∀ ys : List Value, ys.length = n → (∀ i y, ys[i]? = some y → R i y) → Fin ys news) :
    LCg.CompRest prog w A h₀ L m env elt x scope cl s S P Fin n 0 [] news := by
  have key : ∀ k i (ys : List Value), k + i = n → ys.length = i → (∀ j y, ys[j]? = some y → R j y) → LCg.CompRest prog w A h₀ L m env elt x scope cl s S P Fin k i ys news := by
    intro k
    induction k with
    | zero => intro i ys hi hl hR; exact .zero (fin ys (by omega) hR)
    | succ k ih =>
      intro i ys hi hl hR
      refine .succ ?_
      intro v I oI C oC D m₂ h tk E' hP hC hx F N off ne
      refine wpAny_mono (el i v I oI C oC D ys m₂ h tk E' (by omega) hP hC hx F N) (fun y s' hy => ?_) fun _ _ e => e
      obtain ⟨hRy, h', tk', rfl, F', N'⟩ := hy
      refine ⟨h', tk', news, rfl, F', N', off, hS, ih (i + 1) (ys ++ [y]) (by omega) (by simp [hl]) ?_⟩
      intro j z hz
      by_cases hj : j < ys.length
      · rw [List.getElem?_append_left hj] at hz; exact hR j z hz
      · rw [List.getElem?_append_right (by omega)] at hz
        have : j - ys.length = 0 := by
          cases hq : j - ys.length with
          | zero => rfl
          | succ q => rw [hq] at hz; simp at hz
        rw [this] at hz
        simp at hz
        subst hz
        have : j = i := by omega
        rw [this]; exact hRy
  exact key n 0 [] (by omega) rfl (by intro j y hj; simp at hj)

theorem law_turned {w : World} {A : Around} {s : Shared} {Q E : Value → Shared → Prop} (c z : Nat) (t t2 : Tok) (S : Site w 1 A s.heap) (hz : z ≤ 32)
    (hQ : ∀ t h' tk', s.heap.StaysIn h' → Q (.int (turned c z : Nat) t) { s with heap := h', toks := tk' }) :
    wpAny (model prog w) A (call (.ref 69) [.int (c : Int) t, .int (z : Int) t2]) Q E s := by
  refine wpAny_call ?_
  k_dflt (refine' enterC (d := 0) S ?k6 ?k7 ?k9 ?kB ?c5 ?c2 ?c3 ?c4 ?_; (case k6 => k_is); (case k7 => k_is); (case k9 => exact BindsTo.of_eq rfl); (case kB => exact rfl); (case c5 => decide +kernel); (case c2 => exact rfl); (case c3 => exact rfl); (case c4 => exact rfl))
  intro base outer L' h₁ tk mean mg mb cells F N Y B X T hd hu hA hh
  k_cells Y
  rename_i o1 o2 d1 d2
  replace d1 : o1.data = .cell (some (.int (z : Int) t2)) := d1
  replace d2 : o2.data = .cell (some (.int (c : Int) t)) := d2
  show wpAny _ _ _ _ _ _
  k_fold
  repeat (first | (walk1; try dsimp only) | (k_unfold; try dsimp only))
  rename News _ _ _ _ => N2
  rename Fr _ _ _ _ => F2
  rename IsRange _ _ _ _ _ _ _ _ => R2
  have hsm : Builtin.Range.small 0 (z : Int) 1 = true := small_one (by decide) (by decide) (by omega) (by omega)
  have hrs : Builtin.Range.rangeSize 0 (z : Int) 1 = ((z : Nat) : Int) := by rw [rangeSize_one]; split <;> omega
  refine LCg.CompSrc.range hh F2 N2 R2 hsm hrs (by size_fits) ?_
  intro g
  refine comp_all (fun i y => ∃ t, y = .int (((c >>> i &&& 1) <<< (z - 1 - i) : Nat) : Int) t) trivial ?_ ?_
  · rintro i v I oI C oC D ys m₂ h3 tk3 E' hi ⟨t3, rfl⟩ hC hx F3 N3
    have e0 : (0 : Int) + (i : Int) = ((i : Nat) : Int) := by omega
    rw [e0] at hx
    have b1 : c >>> i &&& 1 < 2 ^ 4096 := Nat.lt_of_le_of_lt Nat.and_le_right (by decide)
    have b2 : z - 1 - i ≤ 4096 := by omega
    have b3 : 1 ≤ z := by omega
    have b4 : i ≤ z - 1 := by omega
    show wpAny _ _ _ _ _ _
    k_fold
    repeat (first | (walk1; try dsimp only) | (k_unfold; try dsimp only))
    exact ElEnd.intro (by assumption) (by assumption) ⟨_, rfl⟩
  · intro ys hl hy
    have hI : IntsAre ys (casts (turnedL c z)) := ints_of (by unfold turnedL; simp [hl]) (fun i y hiy => by
      obtain ⟨t9, rfl⟩ := hy i y hiy
      refine ⟨_, t9, ?_, rfl⟩
      have hi9 : i < z := by rw [← hl]; exact (List.getElem?_eq_some_iff.mp hiy).1
      unfold turnedL
      rw [List.getElem?_map, List.getElem?_range hi9]; rfl)
    unfold LCg.FinE
    intro D h4 tk4 F4 N4 off4
    walk1
    try dsimp only
    with_reducible refine LSm.sum_ints F4 N4 hh (News.isList N4 (List.Mem.head _)) hI ?_
    intro h5 tk5 t5 F5 N5
    rw [casts_sum]
    repeat (first | (walk1; try dsimp only) | (k_unfold; try dsimp only))
    exact RetP.intro (by assumption) fun k => by exact hQ _ _ _ k

theorem law_turnedI {w : World} {A : Around} {s : Shared} {Q E : Value → Shared → Prop} {a b : Int} (c z : Nat) {t t2 : Tok} (ha : a = (c : Int)) (hb : b = (z : Int)) (S : Site w 1 A s.heap) (hz : z ≤ 32)
    (hQ : ∀ t h' tk', s.heap.StaysIn h' → Q (.int (turned c z : Nat) t) { s with heap := h', toks := tk' }) :
    wpAny (model prog w) A (call (.ref 69) [.int a t, .int b t2]) Q E s := by
  subst ha hb
  exact law_turned c z t t2 S hz hQ

def regsFrom : Nat → List Nat → List Nat
  | r, [] => [r]
  | r, o :: os => r :: regsFrom (genCrc (r ^^^ o)) os
def regs (os : List Nat) : List Nat := regsFrom (2 ^ 32 - 1) os

def regsTo (os : List Nat) (i : Nat) : List Nat := regs (os.take i)

theorem regsFrom_length (os : List Nat) : ∀ r, (regsFrom r os).length = os.length + 1 := by
  induction os with
  | nil => intro r; rfl
  | cons o os ih => intro r; show (regsFrom _ os).length + 1 = _; rw [ih]; rfl
theorem regsTo_length (os : List Nat) (i : Nat) (h : i ≤ os.length) : (regsTo os i).length = i + 1 := by
  unfold regsTo regs; rw [regsFrom_length, List.length_take]; omega
theorem regsFrom_snoc (os : List Nat) (o : Nat) : ∀ r, regsFrom r (os ++ [o]) = regsFrom r os ++ [genCrc ((regsFrom r os).getD os.length 0 ^^^ o)] := by
  induction os with
  | nil => intro r; rfl
  | cons a os ih =>
    intro r
    show r :: regsFrom _ (os ++ [o]) = r :: (regsFrom _ os ++ _)
    rw [ih]; rfl
theorem regsTo_succ (os : List Nat) (i k : Nat) (h : os[i]? = some k) : regsTo os (i + 1) = regsTo os i ++ [genCrc ((regsTo os i).getD i 0 ^^^ k)] := by
  have hi : i < os.length := (List.getElem?_eq_some_iff.mp h).1
  unfold regsTo regs
  rw [List.take_add_one, h]
  show regsFrom _ (os.take i ++ [k]) = _
  rw [regsFrom_snoc, List.length_take, Nat.min_eq_left (Nat.le_of_lt hi)]

theorem law_registers {w : World} {A : Around} {s : Shared} {Q E : Value → Shared → Prop} {l : Addr} {vs : List Value} {os : List Nat} (S : Site w 2 A s.heap) (hl : s.heap.IsList l vs.toArray) (hI : IntsAre vs (casts os)) (hlen : os.length ≤ 16)
    (hQ : ∀ l' vs' n' h' tk', s.heap.StaysIn h' → s.heap.get? l' = none → h'.get? l' = some (listOf (vs'.toArray) n') → IntsAre vs' (casts (regs os)) → Q (.ref l') { s with heap := h', toks := tk' }) :
    wpAny (model prog w) A (call (.ref 76) [.ref l]) Q E s := by
  refine wpAny_call ?_
  k_dflt (refine' enterP (d := 1) S ?k6 ?k7 ?k9 ?kB ?c5 ?c2 ?c3 ?c4 ?_; (case k6 => k_is); (case k7 => k_is); (case k9 => exact BindsTo.of_eq rfl); (case kB => exact locs rfl); (case c5 => decide); (case c2 => exact rfl); (case c3 => exact rfl); (case c4 => exact rfl))
  intro base outer L' h₁ mean mg mb F N B X T hd hu hA hh
  replace F := fr_knows F [(Str.ofString "octets", .ref l)] ⟨rfl, trivial⟩
  show wpAny _ _ _ _ _ _
  k_fold
  repeat (first | (k_unfold; try dsimp only) | ((with_reducible refine ite_pos (by decide) ?_); try dsimp only) | ((with_reducible refine ite_neg (by decide) ?_); try dsimp only) | ((fail_if_success (with_reducible show wpAny _ _ (subscriptTail _ _ _ _) _ _ _)); (fail_if_success (with_reducible show wpAny _ _ (call (Value.ref _) _ _) _ _ _)); (fail_if_success (with_reducible show wpAny _ _ (exec (Stmt.For _ _ _ _ _) _) _ _ _)); (fail_if_success (with_reducible show wpAny _ _ (exec (Stmt.While _ _ _ _) _) _ _ _)); (fail_if_success (with_reducible show wpAny _ _ (pyIter _) _ _ _)); (fail_if_success (with_reducible show wpAny _ _ (eval (PySem.Expr.Lambda _ _ _ _) _) _ _ _)); (fail_if_success (with_reducible show wpAny _ _ (call (Value.type _) _ _) _ _ _)); (fail_if_success (with_reducible show wpAny _ _ (exec (Stmt.Assign _ (PySem.Expr.ListComp _ _ _ _) _) _) _ _ _)); (fail_if_success (with_reducible refine ite_pos ?_ ?_)); walk1; try dsimp only))
  (with_reducible refine For_invV s.heap ?fhx ?fhp ?_ ?fhs ?fhE); (case fhx => exact rfl); (case fhp => exact rfl); (case fhs => intro _; exact rfl); (case fhE => passes_own)
  walk1
  rename News _ _ _ _ => N2
  rename Fr _ _ _ _ => F2
  refine loopL hh (hl.at fun o e => F2.keep _ _ e) ?_ F2 N2 (fun i m nw => ∃ r vs' n', nw = [(r, listOf (List.toArray vs') n')] ∧ IntsAre vs' (casts (regsTo os i)) ∧ m (Str.ofString "registers") = some (.ref r)) ⟨_, _, _, rfl, .cons _ _ .nil, rfl⟩ ?_ ?_
  · obtain ⟨o, e, _⟩ := hl
    exact Nat.ne_of_lt (Nat.lt_of_lt_of_le (Heap.lt_size e) F2.above)
  · rintro i v m₁ news₁ h3 tk own I hv ⟨r, vs', n', rfl, hI', hm⟩ hoff hown F₁ N₁
    obtain ⟨k, tk9, hk, rfl⟩ := casts_at hI hv
    have hi9 : i < os.length := (List.getElem?_eq_some_iff.mp hk).1
    simp only [List.cons_append, List.nil_append] at N₁
    have hrI : r ≠ I := hoff _ (List.Mem.head _)
    have hne : ∀ p ∈ own, p.1 ≠ r := fun p hp => by
      rcases hown p hp with e | e
      · rw [e]; exact fun q => hoff _ (List.Mem.head _) q.symm
      · rw [e]; rintro rfl
        obtain ⟨o, e', _⟩ := hl
        have := (N₁ _ (List.Mem.head _)).2.2
        rw [e'] at this; cases this
    replace F₁ := fr_turn F₁ [(Str.ofString "registers", _)] ⟨hm, trivial⟩
    show wpAny _ _ _ _ _ _
    k_fold
    repeat (first | (k_unfold; try dsimp only) | ((with_reducible refine ite_pos (by decide) ?_); try dsimp only) | ((with_reducible refine ite_neg (by decide) ?_); try dsimp only) | ((fail_if_success (with_reducible show wpAny _ _ (subscriptTail _ _ _ _) _ _ _)); (fail_if_success (with_reducible show wpAny _ _ (call (Value.ref _) _ _) _ _ _)); (fail_if_success (with_reducible show wpAny _ _ (exec (Stmt.For _ _ _ _ _) _) _ _ _)); (fail_if_success (with_reducible show wpAny _ _ (exec (Stmt.While _ _ _ _) _) _ _ _)); (fail_if_success (with_reducible show wpAny _ _ (pyIter _) _ _ _)); (fail_if_success (with_reducible show wpAny _ _ (eval (PySem.Expr.Lambda _ _ _ _) _) _ _ _)); (fail_if_success (with_reducible show wpAny _ _ (call (Value.type _) _ _) _ _ _)); (fail_if_success (with_reducible show wpAny _ _ (exec (Stmt.Assign _ (PySem.Expr.ListComp _ _ _ _) _) _) _ _ _)); (fail_if_success (with_reducible refine ite_pos ?_ ?_)); walk1; try dsimp only))
    have hrl := regsTo_length os i (Nat.le_of_lt hi9)
    refine subNeg (News.isList N₁ (List.Mem.head _)) hI' 1 rfl (by omega) (by omega) (by omega) (fun t5 => ?_)
    repeat (first | (k_unfold; try dsimp only) | ((with_reducible refine ite_pos (by decide) ?_); try dsimp only) | ((with_reducible refine ite_neg (by decide) ?_); try dsimp only) | ((fail_if_success (with_reducible show wpAny _ _ (subscriptTail _ _ _ _) _ _ _)); (fail_if_success (with_reducible show wpAny _ _ (call (Value.ref _) _ _) _ _ _)); (fail_if_success (with_reducible show wpAny _ _ (exec (Stmt.For _ _ _ _ _) _) _ _ _)); (fail_if_success (with_reducible show wpAny _ _ (exec (Stmt.While _ _ _ _) _) _ _ _)); (fail_if_success (with_reducible show wpAny _ _ (pyIter _) _ _ _)); (fail_if_success (with_reducible show wpAny _ _ (eval (PySem.Expr.Lambda _ _ _ _) _) _ _ _)); (fail_if_success (with_reducible show wpAny _ _ (call (Value.type _) _ _) _ _ _)); (fail_if_success (with_reducible show wpAny _ _ (exec (Stmt.Assign _ (PySem.Expr.ListComp _ _ _ _) _) _) _ _ _)); (fail_if_success (with_reducible refine ite_pos ?_ ?_)); walk1; try dsimp only))
    (with_reducible refine gen_crc _ _ ?csite ?_)
    (case csite => exact (site_of B (by assumption) X T hA rfl rfl hd hu hh (by omega)))
    intro t9 h9 tk9 k9; (rename Fr _ _ _ _ => Fx); (rename News _ _ _ _ => Nx); (have F9 := fr_keep Fx k9); (have N9 := news_keep Nx k9); clear Fx Nx; try dsimp only
    walk1
    try dsimp only
    refine append_K F9 N9 (Upd.head hne) ?_ (by simp [casts_length hI', hrl, sizeLine_eq]; omega)
    intro h5 F5 N5
    repeat (first | (k_unfold; try dsimp only) | ((with_reducible refine ite_pos (by decide) ?_); try dsimp only) | ((with_reducible refine ite_neg (by decide) ?_); try dsimp only) | ((fail_if_success (with_reducible show wpAny _ _ (subscriptTail _ _ _ _) _ _ _)); (fail_if_success (with_reducible show wpAny _ _ (call (Value.ref _) _ _) _ _ _)); (fail_if_success (with_reducible show wpAny _ _ (exec (Stmt.For _ _ _ _ _) _) _ _ _)); (fail_if_success (with_reducible show wpAny _ _ (exec (Stmt.While _ _ _ _) _) _ _ _)); (fail_if_success (with_reducible show wpAny _ _ (pyIter _) _ _ _)); (fail_if_success (with_reducible show wpAny _ _ (eval (PySem.Expr.Lambda _ _ _ _) _) _ _ _)); (fail_if_success (with_reducible show wpAny _ _ (call (Value.type _) _ _) _ _ _)); (fail_if_success (with_reducible show wpAny _ _ (exec (Stmt.Assign _ (PySem.Expr.ListComp _ _ _ _) _) _) _ _ _)); (fail_if_success (with_reducible refine ite_pos ?_ ?_)); walk1; try dsimp only))
    rw [List.push_toArray] at N5
    refine TurnEnd.intro [(r, _)] F5 N5 (fun p hp => by rw [List.mem_singleton.mp hp]; exact hrI) ⟨r, _, _, rfl, ?_, rfl⟩
    rw [regsTo_succ os i k hk, hrl, Nat.add_sub_cancel]
    unfold casts
    rw [List.map_append]
    exact IntsAre.append hI' (.cons _ _ .nil)
  · rintro m₁ news₁ h3 tk ⟨r, vs', n', rfl, hI', hm⟩ F₁ N₁
    replace F₁ := fr_knows F₁ [(Str.ofString "registers", _)] ⟨hm, trivial⟩
    repeat (first | (k_unfold; try dsimp only) | ((with_reducible refine ite_pos (by decide) ?_); try dsimp only) | ((with_reducible refine ite_neg (by decide) ?_); try dsimp only) | ((fail_if_success (with_reducible show wpAny _ _ (subscriptTail _ _ _ _) _ _ _)); (fail_if_success (with_reducible show wpAny _ _ (call (Value.ref _) _ _) _ _ _)); (fail_if_success (with_reducible show wpAny _ _ (exec (Stmt.For _ _ _ _ _) _) _ _ _)); (fail_if_success (with_reducible show wpAny _ _ (exec (Stmt.While _ _ _ _) _) _ _ _)); (fail_if_success (with_reducible show wpAny _ _ (pyIter _) _ _ _)); (fail_if_success (with_reducible show wpAny _ _ (eval (PySem.Expr.Lambda _ _ _ _) _) _ _ _)); (fail_if_success (with_reducible show wpAny _ _ (call (Value.type _) _ _) _ _ _)); (fail_if_success (with_reducible show wpAny _ _ (exec (Stmt.Assign _ (PySem.Expr.ListComp _ _ _ _) _) _) _ _ _)); (fail_if_success (with_reducible refine ite_pos ?_ ?_)); walk1; try dsimp only))
    rw [show vs.toArray.size = os.length by rw [List.size_toArray]; exact casts_length hI] at hI'
    unfold regsTo at hI'
    rw [List.take_length] at hI'
    exact RetP.intro (by assumption) fun k => by exact hQ r vs' n' _ _ k (N₁ _ (List.Mem.head _)).2.2 (N₁ _ (List.Mem.head _)).1 hI'

theorem turned_zero (n : Nat) : turned n 0 = 0 := rfl
theorem sum_map_range_succ (f : Nat → Nat) (z : Nat) : ((List.range (z + 1)).map f).sum = f 0 + ((List.range z).map fun k => f (k + 1)).sum := by
  rw [List.range_succ_eq_map, List.map_cons, List.map_map, List.sum_cons]; rfl
theorem turned_succ (n z : Nat) : turned n (z + 1) = 2 ^ z * (n % 2) + turned (n >>> 1) z := by
  unfold turned turnedL
  rw [sum_map_range_succ]
  congr 1
  · show (n >>> 0 &&& 1) <<< (z + 1 - 1 - 0) = _
    rw [Nat.and_one_is_mod, Nat.shiftLeft_eq, Nat.shiftRight_zero, Nat.mul_comm]; simp
  · congr 1
    apply List.map_congr_left
    intro k hk
    have hk' := List.mem_range.mp hk
    rw [Nat.add_comm k 1, Nat.shiftRight_add]
    congr 1
    omega
theorem turned_lt (z : Nat) : ∀ n, turned n z < 2 ^ z := by
  induction z with
  | zero => intro n; rw [turned_zero]; decide
  | succ z ih =>
    intro n
    rw [turned_succ, Nat.pow_succ]
    have h1 := ih (n >>> 1)
    have h2 : n % 2 = 0 ∨ n % 2 = 1 := by omega
    rcases h2 with h2 | h2 <;> rw [h2] <;> omega
theorem turned_testBit (z : Nat) : ∀ n j, (turned n z).testBit j = (decide (j < z) && n.testBit (z - 1 - j)) := by
  induction z with
  | zero => intro n j; rw [turned_zero]; simp
  | succ z ih =>
    intro n j
    rw [turned_succ, Nat.testBit_two_pow_mul_add _ (turned_lt z _)]
    by_cases h : j < z
    · rw [if_pos h, ih, Nat.testBit_shiftRight]
      have e : z + 1 - 1 - j = 1 + (z - 1 - j) := by omega
      rw [e]
      simp [h, Nat.lt_succ_of_lt h]
    · rw [if_neg h]
      by_cases hj : j = z
      · subst hj
        have e : j + 1 - 1 - j = 0 := by omega
        rw [e, Nat.sub_self]
        simp [Nat.testBit_zero]
      · have e1 : ¬ j < z + 1 := by omega
        simp [e1]
        have : (n % 2) < 2 ^ (j - z) := by
          have h1 : n % 2 < 2 := Nat.mod_lt _ (by decide)
          have h2 : 2 ^ 1 ≤ 2 ^ (j - z) := Nat.pow_le_pow_right (by decide) (by omega)
          omega
        exact Nat.testBit_lt_two_pow this
theorem turned_xor (a b z : Nat) : turned (a ^^^ b) z = turned a z ^^^ turned b z := by
  apply Nat.eq_of_testBit_eq
  intro j
  rw [Nat.testBit_xor, turned_testBit, turned_testBit, turned_testBit, Nat.testBit_xor]
  cases decide (j < z) <;> simp

def divStep (n o : Nat) : Nat := (n <<< 8) ^^^ (turned o 8 <<< 32)
def dividend (os : List Nat) : Nat := os.foldl divStep (2 ^ 32 - 1)
theorem divStep_lt {n o k : Nat} (h : n < 2 ^ (32 + k)) : divStep n o < 2 ^ (32 + (k + 8)) := by
  unfold divStep
  apply Nat.xor_lt_two_pow
  · rw [Nat.shiftLeft_eq, show 32 + (k + 8) = (32 + k) + 8 by omega, Nat.pow_add]
    exact Nat.mul_lt_mul_of_pos_right h (by decide)
  · rw [Nat.shiftLeft_eq]
    have h1 := turned_lt 8 o
    have h2 : 2 ^ 40 ≤ 2 ^ (32 + (k + 8)) := Nat.pow_le_pow_right (by decide) (by omega)
    have h3 : turned o 8 * 2 ^ 32 < 2 ^ 8 * 2 ^ 32 := Nat.mul_lt_mul_of_pos_right h1 (by decide)
    exact Nat.lt_of_lt_of_le h3 h2
theorem divTo_lt (os : List Nat) : ∀ i, i ≤ os.length → (os.take i).foldl divStep (2 ^ 32 - 1) < 2 ^ (32 + 8 * i) := by
  intro i
  induction i with
  | zero => intro _; show 2 ^ 32 - 1 < 2 ^ 32; decide
  | succ i ih =>
    intro hi
    rw [List.take_add_one, List.getElem?_eq_getElem (show i < os.length by omega), List.foldl_append]
    exact divStep_lt (k := 8 * i) (ih (by omega))

theorem law_dividend {w : World} {A : Around} {s : Shared} {Q E : Value → Shared → Prop} {l : Addr} {vs : List Value} {os : List Nat} (S : Site w 2 A s.heap) (hl : s.heap.IsList l vs.toArray) (hI : IntsAre vs (casts os)) (hlen : os.length ≤ 16)
    (hQ : ∀ t h' tk', s.heap.StaysIn h' → Q (.int (dividend os : Nat) t) { s with heap := h', toks := tk' }) :
    wpAny (model prog w) A (call (.ref 95) [.ref l]) Q E s := by
  refine wpAny_call ?_
  k_dflt (refine' enterP (d := 1) S ?k6 ?k7 ?k9 ?kB ?c5 ?c2 ?c3 ?c4 ?_; (case k6 => k_is); (case k7 => k_is); (case k9 => exact BindsTo.of_eq rfl); (case kB => exact locs rfl); (case c5 => decide); (case c2 => exact rfl); (case c3 => exact rfl); (case c4 => exact rfl))
  intro base outer L' h₁ mean mg mb F N B X T hd hu hA hh
  replace F := fr_knows F [(Str.ofString "octets", .ref l)] ⟨rfl, trivial⟩
  show wpAny _ _ _ _ _ _
  k_fold
  repeat (first | (k_unfold; try dsimp only) | ((with_reducible refine ite_pos (by decide) ?_); try dsimp only) | ((with_reducible refine ite_neg (by decide) ?_); try dsimp only) | ((fail_if_success (with_reducible show wpAny _ _ (subscriptTail _ _ _ _) _ _ _)); (fail_if_success (with_reducible show wpAny _ _ (call (Value.ref _) _ _) _ _ _)); (fail_if_success (with_reducible show wpAny _ _ (exec (Stmt.For _ _ _ _ _) _) _ _ _)); (fail_if_success (with_reducible show wpAny _ _ (exec (Stmt.While _ _ _ _) _) _ _ _)); (fail_if_success (with_reducible show wpAny _ _ (pyIter _) _ _ _)); (fail_if_success (with_reducible show wpAny _ _ (eval (PySem.Expr.Lambda _ _ _ _) _) _ _ _)); (fail_if_success (with_reducible show wpAny _ _ (call (Value.type _) _ _) _ _ _)); (fail_if_success (with_reducible show wpAny _ _ (exec (Stmt.Assign _ (PySem.Expr.ListComp _ _ _ _) _) _) _ _ _)); (fail_if_success (with_reducible refine ite_pos ?_ ?_)); walk1; try dsimp only))
  (with_reducible refine For_invV s.heap ?fhx ?fhp ?_ ?fhs ?fhE); (case fhx => exact rfl); (case fhp => exact rfl); (case fhs => intro _; exact rfl); (case fhE => passes_own)
  walk1
  rename News _ _ _ _ => N2
  rename Fr _ _ _ _ => F2
  refine loopL hh (hl.at fun o e => F2.keep _ _ e) ?_ F2 N2 (fun i m nw => nw = [] ∧ ∃ t, m (Str.ofString "number") = some (.int ((os.take i).foldl divStep (2 ^ 32 - 1) : Nat) t)) ⟨rfl, _, rfl⟩ ?_ ?_
  · obtain ⟨o, e, _⟩ := hl
    exact Nat.ne_of_lt (Nat.lt_of_lt_of_le (Heap.lt_size e) F2.above)
  · rintro i v m₁ news₁ h3 tk own I hv ⟨rfl, t1, hm⟩ hoff hown F₁ N₁
    obtain ⟨k, tk9, hk, rfl⟩ := casts_at hI hv
    have hi9 : i < os.length := (List.getElem?_eq_some_iff.mp hk).1
    simp only [List.nil_append] at N₁
    replace F₁ := fr_turn F₁ [(Str.ofString "number", _)] ⟨hm, trivial⟩
    have hb := divTo_lt os i (by omega)
    have hst : (os.take (i + 1)).foldl divStep (2 ^ 32 - 1) = divStep ((os.take i).foldl divStep (2 ^ 32 - 1)) k := by
      rw [List.take_add_one, hk, List.foldl_append]; rfl
    rw [hst]
    generalize (os.take i).foldl divStep (2 ^ 32 - 1) = n9 at *
    have hb2 : n9 < 2 ^ 4096 := Nat.lt_of_lt_of_le hb (Nat.pow_le_pow_right (by decide) (by omega))
    have hb3 : turned k 8 < 2 ^ 4096 := Nat.lt_of_lt_of_le (turned_lt 8 k) (by decide)
    show wpAny _ _ _ _ _ _
    k_fold
    repeat (first | (k_unfold; try dsimp only) | ((with_reducible refine ite_pos (by decide) ?_); try dsimp only) | ((with_reducible refine ite_neg (by decide) ?_); try dsimp only) | ((fail_if_success (with_reducible show wpAny _ _ (subscriptTail _ _ _ _) _ _ _)); (fail_if_success (with_reducible show wpAny _ _ (call (Value.ref _) _ _) _ _ _)); (fail_if_success (with_reducible show wpAny _ _ (exec (Stmt.For _ _ _ _ _) _) _ _ _)); (fail_if_success (with_reducible show wpAny _ _ (exec (Stmt.While _ _ _ _) _) _ _ _)); (fail_if_success (with_reducible show wpAny _ _ (pyIter _) _ _ _)); (fail_if_success (with_reducible show wpAny _ _ (eval (PySem.Expr.Lambda _ _ _ _) _) _ _ _)); (fail_if_success (with_reducible show wpAny _ _ (call (Value.type _) _ _) _ _ _)); (fail_if_success (with_reducible show wpAny _ _ (exec (Stmt.Assign _ (PySem.Expr.ListComp _ _ _ _) _) _) _ _ _)); (fail_if_success (with_reducible refine ite_pos ?_ ?_)); walk1; try dsimp only))
    (with_reducible refine law_turnedI k 8 rfl ?chb ?csite (by decide) ?_)
    (case chb => exact rfl)
    (case csite => exact (site_of B (by assumption) X T hA rfl rfl hd hu hh (by omega)))
    intro t9 h9 tk9 k9; (rename Fr _ _ _ _ => Fx); (rename News _ _ _ _ => Nx); (have F9 := fr_keep Fx k9); (have N9 := news_keep Nx k9); clear Fx Nx; try dsimp only
    repeat (first | (k_unfold; try dsimp only) | ((with_reducible refine ite_pos (by decide) ?_); try dsimp only) | ((with_reducible refine ite_neg (by decide) ?_); try dsimp only) | ((fail_if_success (with_reducible show wpAny _ _ (subscriptTail _ _ _ _) _ _ _)); (fail_if_success (with_reducible show wpAny _ _ (call (Value.ref _) _ _) _ _ _)); (fail_if_success (with_reducible show wpAny _ _ (exec (Stmt.For _ _ _ _ _) _) _ _ _)); (fail_if_success (with_reducible show wpAny _ _ (exec (Stmt.While _ _ _ _) _) _ _ _)); (fail_if_success (with_reducible show wpAny _ _ (pyIter _) _ _ _)); (fail_if_success (with_reducible show wpAny _ _ (eval (PySem.Expr.Lambda _ _ _ _) _) _ _ _)); (fail_if_success (with_reducible show wpAny _ _ (call (Value.type _) _ _) _ _ _)); (fail_if_success (with_reducible show wpAny _ _ (exec (Stmt.Assign _ (PySem.Expr.ListComp _ _ _ _) _) _) _ _ _)); (fail_if_success (with_reducible refine ite_pos ?_ ?_)); walk1; try dsimp only))
    exact TurnEnd.intro [] (by assumption) (by assumption) (by simp) ⟨rfl, _, rfl⟩
  · rintro m₁ news₁ h3 tk ⟨rfl, t1, hm⟩ F₁ N₁
    replace F₁ := fr_knows F₁ [(Str.ofString "number", _)] ⟨hm, trivial⟩
    repeat (first | (k_unfold; try dsimp only) | ((with_reducible refine ite_pos (by decide) ?_); try dsimp only) | ((with_reducible refine ite_neg (by decide) ?_); try dsimp only) | ((fail_if_success (with_reducible show wpAny _ _ (subscriptTail _ _ _ _) _ _ _)); (fail_if_success (with_reducible show wpAny _ _ (call (Value.ref _) _ _) _ _ _)); (fail_if_success (with_reducible show wpAny _ _ (exec (Stmt.For _ _ _ _ _) _) _ _ _)); (fail_if_success (with_reducible show wpAny _ _ (exec (Stmt.While _ _ _ _) _) _ _ _)); (fail_if_success (with_reducible show wpAny _ _ (pyIter _) _ _ _)); (fail_if_success (with_reducible show wpAny _ _ (eval (PySem.Expr.Lambda _ _ _ _) _) _ _ _)); (fail_if_success (with_reducible show wpAny _ _ (call (Value.type _) _ _) _ _ _)); (fail_if_success (with_reducible show wpAny _ _ (exec (Stmt.Assign _ (PySem.Expr.ListComp _ _ _ _) _) _) _ _ _)); (fail_if_success (with_reducible refine ite_pos ?_ ?_)); walk1; try dsimp only))
    rw [show vs.toArray.size = os.length by rw [List.size_toArray]; exact casts_length hI, List.take_length]
    exact RetP.intro (by assumption) fun k => by exact hQ _ _ _ k

def Sorted (ns : List Nat) : Prop := ∀ i j, i ≤ j → j < ns.length → ns.getD i 0 ≤ ns.getD j 0
/-- what bisect_left answers -/
def BL (ns : List Nat) (x lo : Nat) (hi : Int) (r : Nat) : Prop :=
  (hi < (lo : Int) → r = lo) ∧ ((lo : Int) ≤ hi → lo ≤ r ∧ (r : Int) ≤ hi ∧ (∀ i, lo ≤ i → i < r → ns.getD i 0 < x) ∧ (∀ i : Nat, r ≤ i → (i : Int) < hi → x ≤ ns.getD i 0))
/-- between the turns -/
def BLinv (ns : List Nat) (x lo : Nat) (hi : Int) (l : Nat) (h : Int) : Prop :=
  (hi < (lo : Int) → l = lo ∧ h = hi) ∧ ((lo : Int) ≤ hi → lo ≤ l ∧ (l : Int) ≤ h ∧ h ≤ hi ∧ (∀ i, lo ≤ i → i < l → ns.getD i 0 < x) ∧ (∀ i : Nat, h ≤ (i : Int) → (i : Int) < hi → x ≤ ns.getD i 0))
theorem BLinv.start (ns : List Nat) (x lo : Nat) (hi : Int) : BLinv ns x lo hi lo hi :=
  ⟨fun _ => ⟨rfl, rfl⟩, fun h => ⟨Nat.le_refl _, h, Int.le_refl _, fun i a b => absurd a (by omega), fun i a b => absurd a (by omega)⟩⟩
theorem BLinv.stop {ns : List Nat} {x lo : Nat} {hi : Int} {l : Nat} {h : Int} (I : BLinv ns x lo hi l h) (e : ¬ (l : Int) < h) : BL ns x lo hi l := by
  refine ⟨fun q => (I.1 q).1, fun q => ?_⟩
  obtain ⟨a, b, c, d, f⟩ := I.2 q
  exact ⟨a, by omega, d, fun i hi' hh => f i (by omega) hh⟩
theorem BLinv.up {ns : List Nat} {x lo : Nat} {hi : Int} {l h : Nat} (I : BLinv ns x lo hi l h) (so : Sorted ns) (hlen : hi ≤ (ns.length : Int)) (e : l < h) (c : ns.getD ((l + h) / 2) 0 < x) : BLinv ns x lo hi ((l + h) / 2 + 1) h := by
  by_cases q : (lo : Int) ≤ hi
  · refine ⟨fun q' => by omega, fun _ => ?_⟩
    obtain ⟨a, b, c', d, f⟩ := I.2 q
    refine ⟨by omega, by omega, c', fun i h1 h2 => ?_, f⟩
    exact Nat.lt_of_le_of_lt (so i ((l + h) / 2) (by omega) (by omega)) c
  · have := (I.1 (by omega)); omega
theorem BLinv.down {ns : List Nat} {x lo : Nat} {hi : Int} {l h : Nat} (I : BLinv ns x lo hi l h) (so : Sorted ns) (hlen : hi ≤ (ns.length : Int)) (e : l < h) (c : ¬ ns.getD ((l + h) / 2) 0 < x) : BLinv ns x lo hi l (((l + h) / 2 : Nat) : Int) := by
  by_cases q : (lo : Int) ≤ hi
  · refine ⟨fun q' => by omega, fun _ => ?_⟩
    obtain ⟨a, b, c', d, f⟩ := I.2 q
    refine ⟨a, by omega, by omega, d, fun i h1 h2 => ?_⟩
    exact Nat.le_trans (Nat.le_of_not_lt c) (so ((l + h) / 2) i (by omega) (by omega))
  · have := (I.1 (by omega)); omega

/-- a state between two statements -/
def MidF (h₀ : Heap) (L : Addr) (s : Shared) (nw : List (Addr × Obj)) (P : (Str → Option Value) → Prop) (f : Flow) (s' : Shared) : Prop :=
  f = .next ∧ ∃ h' tk' m', s' = { s with heap := h', toks := tk' } ∧ Fr h₀ L h' m' ∧ News h₀ L h' nw ∧ P m'
theorem MidF.intro {h₀ h' : Heap} {L : Addr} {s : Shared} {nw : List (Addr × Obj)} {P : (Str → Option Value) → Prop} {m' : Str → Option Value} {tk' : Nat} (F : Fr h₀ L h' m') (N : News h₀ L h' nw) (hP : P m') : MidF h₀ L s nw P .next { s with heap := h', toks := tk' } :=
  ⟨rfl, h', tk', m', rfl, F, N, hP⟩

theorem bl_gen {w : World} {A : Around} {s : Shared} {Q E : Value → Shared → Prop} {pos : List Value} {kw : List (Str × Value)} {l : Addr} {vs : List Value} {ns : List Nat} {x lo : Nat} {hi : Int} {hv : Value} {tx tl : Tok}
    (S : Site w 1 A s.heap)
    (hb : ∀ oc od osl fd, (hd.heap_39 w.params).lookup 50 = some ⟨oc, od, .func fd, osl⟩ → (hd.heap_39 w.params).In s.heap →
      BindsTo s fd ⟨pos, kw⟩ [(Str.ofString "a", .ref l), (Str.ofString "x", .int (x : Int) tx), (Str.ofString "lo", .int (lo : Int) tl), (Str.ofString "hi", hv), (Str.ofString "key", .none)])
    (hl : s.heap.IsList l vs.toArray) (hI : IntsAre vs (casts ns)) (hlen : ns.length ≤ 1000) (so : Sorted ns)
    (hhv : (hv = .none ∧ hi = (ns.length : Int)) ∨ ∃ t, hv = .int hi t) (hhi : hi ≤ (ns.length : Int))
    (hQ : ∀ (r : Nat) t h' tk', s.heap.StaysIn h' → BL ns x lo hi r → Q (.int (r : Int) t) { s with heap := h', toks := tk' }) :
    wpAny (model prog w) A (call (.ref 50) pos kw) Q E s := by
  refine wpAny_call ?_
  have X0 : (hd.heap_39 w.params).In s.heap := by
    obtain ⟨A₀, base, outer, h₀, env, L, m, mean, mg, mb, B, F, X, T, r⟩ := S
    exact X.keeps F.keep
  k_dflt (refine' enterP (d := 0) S ?k6 ?k7 ?k9 ?kB ?c5 ?c2 ?c3 ?c4 ?_; (case k6 => k_is); (case k7 => k_is); (case k9 => exact hb _ _ _ _ (by k_is) X0); (case kB => exact locs rfl); (case c5 => decide); (case c2 => exact rfl); (case c3 => exact rfl); (case c4 => exact rfl))
  intro base outer L' h₁ mean mg mb F N B X T hd hu hA hh
  replace F := fr_knows F [(Str.ofString "a", .ref l), (Str.ofString "x", .int (x : Int) tx), (Str.ofString "lo", .int (lo : Int) tl), (Str.ofString "hi", hv), (Str.ofString "key", .none)] ⟨rfl, rfl, rfl, rfl, rfl, trivial⟩
  show wpAny _ _ _ _ _ _
  k_fold
  repeat (first | (k_unfold; try dsimp only) | ((with_reducible refine ite_pos (by decide) ?_); try dsimp only) | ((with_reducible refine ite_neg (by decide) ?_); try dsimp only) | ((fail_if_success (with_reducible show wpAny _ _ (subscriptTail _ _ _ _) _ _ _)); (fail_if_success (with_reducible show wpAny _ _ (call (Value.ref _) _ _) _ _ _)); (fail_if_success (with_reducible show wpAny _ _ (exec (Stmt.For _ _ _ _ _) _) _ _ _)); (fail_if_success (with_reducible show wpAny _ _ (exec (Stmt.While _ _ _ _) _) _ _ _)); (fail_if_success (with_reducible show wpAny _ _ (pyIter _) _ _ _)); (fail_if_success (with_reducible show wpAny _ _ (eval (PySem.Expr.Lambda _ _ _ _) _) _ _ _)); (fail_if_success (with_reducible show wpAny _ _ (call (Value.type _) _ _) _ _ _)); (fail_if_success (with_reducible show wpAny _ _ (exec (Stmt.Assign _ (PySem.Expr.ListComp _ _ _ _) _) _) _ _ _)); (fail_if_success (with_reducible refine ite_pos ?_ ?_)); walk1; try dsimp only))
  refine ite_neg (by simp) ?_
  iterate 3 (walk1; try dsimp only)
  refine wpAny_mono (Q := MidF s.heap L' s [] fun m => ∃ t, Kn m [(Str.ofString "a", .ref l), (Str.ofString "x", .int (x : Int) tx), (Str.ofString "lo", .int (lo : Int) tl), (Str.ofString "hi", .int hi t), (Str.ofString "key", .none)]) ?_ ?_ fun _ _ e => e
  · rcases hhv with ⟨rfl, rfl⟩ | ⟨t0, rfl⟩
    · show wpAny _ _ _ _ _ _
      k_fold
      repeat (first | (k_unfold; try dsimp only) | ((with_reducible refine ite_pos (by decide) ?_); try dsimp only) | ((with_reducible refine ite_neg (by decide) ?_); try dsimp only) | ((fail_if_success (with_reducible show wpAny _ _ (subscriptTail _ _ _ _) _ _ _)); (fail_if_success (with_reducible show wpAny _ _ (call (Value.ref _) _ _) _ _ _)); (fail_if_success (with_reducible show wpAny _ _ (exec (Stmt.For _ _ _ _ _) _) _ _ _)); (fail_if_success (with_reducible show wpAny _ _ (exec (Stmt.While _ _ _ _) _) _ _ _)); (fail_if_success (with_reducible show wpAny _ _ (pyIter _) _ _ _)); (fail_if_success (with_reducible show wpAny _ _ (eval (PySem.Expr.Lambda _ _ _ _) _) _ _ _)); (fail_if_success (with_reducible show wpAny _ _ (call (Value.type _) _ _) _ _ _)); (fail_if_success (with_reducible show wpAny _ _ (exec (Stmt.Assign _ (PySem.Expr.ListComp _ _ _ _) _) _) _ _ _)); (fail_if_success (with_reducible refine ite_pos ?_ ?_)); walk1; try dsimp only))
      (with_reducible refine lenN (vs := vs) ns.length ?lnl ?lnk ?lnb ?_)
      (case lnl => exact hl.at fun o e => F.keep _ _ e)
      (case lnk => exact casts_length hI)
      (case lnb => exact hlen)
      dsimp only
      repeat (first | (k_unfold; try dsimp only) | ((with_reducible refine ite_pos (by decide) ?_); try dsimp only) | ((with_reducible refine ite_neg (by decide) ?_); try dsimp only) | ((fail_if_success (with_reducible show wpAny _ _ (subscriptTail _ _ _ _) _ _ _)); (fail_if_success (with_reducible show wpAny _ _ (call (Value.ref _) _ _) _ _ _)); (fail_if_success (with_reducible show wpAny _ _ (exec (Stmt.For _ _ _ _ _) _) _ _ _)); (fail_if_success (with_reducible show wpAny _ _ (exec (Stmt.While _ _ _ _) _) _ _ _)); (fail_if_success (with_reducible show wpAny _ _ (pyIter _) _ _ _)); (fail_if_success (with_reducible show wpAny _ _ (eval (PySem.Expr.Lambda _ _ _ _) _) _ _ _)); (fail_if_success (with_reducible show wpAny _ _ (call (Value.type _) _ _) _ _ _)); (fail_if_success (with_reducible show wpAny _ _ (exec (Stmt.Assign _ (PySem.Expr.ListComp _ _ _ _) _) _) _ _ _)); (fail_if_success (with_reducible refine ite_pos ?_ ?_)); walk1; try dsimp only))
      exact MidF.intro (by assumption) (by assumption) ⟨_, rfl, rfl, rfl, rfl, rfl, trivial⟩
    · show wpAny _ _ _ _ _ _
      k_fold
      repeat (first | (k_unfold; try dsimp only) | ((with_reducible refine ite_pos (by decide) ?_); try dsimp only) | ((with_reducible refine ite_neg (by decide) ?_); try dsimp only) | ((fail_if_success (with_reducible show wpAny _ _ (subscriptTail _ _ _ _) _ _ _)); (fail_if_success (with_reducible show wpAny _ _ (call (Value.ref _) _ _) _ _ _)); (fail_if_success (with_reducible show wpAny _ _ (exec (Stmt.For _ _ _ _ _) _) _ _ _)); (fail_if_success (with_reducible show wpAny _ _ (exec (Stmt.While _ _ _ _) _) _ _ _)); (fail_if_success (with_reducible show wpAny _ _ (pyIter _) _ _ _)); (fail_if_success (with_reducible show wpAny _ _ (eval (PySem.Expr.Lambda _ _ _ _) _) _ _ _)); (fail_if_success (with_reducible show wpAny _ _ (call (Value.type _) _ _) _ _ _)); (fail_if_success (with_reducible show wpAny _ _ (exec (Stmt.Assign _ (PySem.Expr.ListComp _ _ _ _) _) _) _ _ _)); (fail_if_success (with_reducible refine ite_pos ?_ ?_)); walk1; try dsimp only))
      exact MidF.intro (by assumption) (by assumption) ⟨_, rfl, rfl, rfl, rfl, rfl, trivial⟩
  · rintro f s2 ⟨rfl, h2, tk2, m2, rfl, F2, N2, t2, K2⟩
    replace F2 := fr_knows F2 _ K2
    dsimp only
    repeat (first | (k_unfold; try dsimp only) | ((with_reducible refine ite_pos (by decide) ?_); try dsimp only) | ((with_reducible refine ite_neg (by decide) ?_); try dsimp only) | ((fail_if_success (with_reducible show wpAny _ _ (subscriptTail _ _ _ _) _ _ _)); (fail_if_success (with_reducible show wpAny _ _ (call (Value.ref _) _ _) _ _ _)); (fail_if_success (with_reducible show wpAny _ _ (exec (Stmt.For _ _ _ _ _) _) _ _ _)); (fail_if_success (with_reducible show wpAny _ _ (exec (Stmt.While _ _ _ _) _) _ _ _)); (fail_if_success (with_reducible show wpAny _ _ (pyIter _) _ _ _)); (fail_if_success (with_reducible show wpAny _ _ (eval (PySem.Expr.Lambda _ _ _ _) _) _ _ _)); (fail_if_success (with_reducible show wpAny _ _ (call (Value.type _) _ _) _ _ _)); (fail_if_success (with_reducible show wpAny _ _ (exec (Stmt.Assign _ (PySem.Expr.ListComp _ _ _ _) _) _) _ _ _)); (fail_if_success (with_reducible refine ite_pos ?_ ?_)); walk1; try dsimp only))
    refine While_inv (n₀ := (hi - lo).toNat) (fun n m nw => nw = [] ∧ ∃ (l' : Nat) (h' : Int) (t t' : Tok), n = (h' - l').toNat ∧ BLinv ns x lo hi l' h' ∧
      Kn m [(Str.ofString "a", .ref l), (Str.ofString "x", .int (x : Int) tx), (Str.ofString "lo", .int (l' : Int) t), (Str.ofString "hi", .int h' t')]) F2 N2 ⟨rfl, lo, hi, tl, t2, rfl, BLinv.start .., rfl, rfl, rfl, rfl, trivial⟩ ?_ ?_
    · rintro n m₁ news₁ h3 tk3 F3 N3 ⟨rfl, l', h', t3, t4, rfl, inv, K3⟩
      replace F3 := fr_knows F3 _ K3
      by_cases c : (l' : Int) < h'
      · obtain ⟨h'', rfl⟩ : ∃ k : Nat, h' = (k : Int) := ⟨h'.toNat, by omega⟩
        have hmid : (l' + h'') / 2 < ns.length := by
          have q : (lo : Int) ≤ hi := by
            by_cases q : (lo : Int) ≤ hi
            · exact q
            · have := inv.1 (by omega); omega
          have := (inv.2 q).2.2.1
          omega
        show wpAny _ _ _ _ _ _
        k_fold
        repeat (first | (k_unfold; try dsimp only) | ((with_reducible refine ite_pos (by decide) ?_); try dsimp only) | ((with_reducible refine ite_neg (by decide) ?_); try dsimp only) | ((fail_if_success (with_reducible show wpAny _ _ (subscriptTail _ _ _ _) _ _ _)); (fail_if_success (with_reducible show wpAny _ _ (call (Value.ref _) _ _) _ _ _)); (fail_if_success (with_reducible show wpAny _ _ (exec (Stmt.For _ _ _ _ _) _) _ _ _)); (fail_if_success (with_reducible show wpAny _ _ (exec (Stmt.While _ _ _ _) _) _ _ _)); (fail_if_success (with_reducible show wpAny _ _ (pyIter _) _ _ _)); (fail_if_success (with_reducible show wpAny _ _ (eval (PySem.Expr.Lambda _ _ _ _) _) _ _ _)); (fail_if_success (with_reducible show wpAny _ _ (call (Value.type _) _ _) _ _ _)); (fail_if_success (with_reducible show wpAny _ _ (exec (Stmt.Assign _ (PySem.Expr.ListComp _ _ _ _) _) _) _ _ _)); (fail_if_success (with_reducible refine ite_pos ?_ ?_)); walk1; try dsimp only))
        refine ite_pos (by simpa using c) ?_
        repeat (first | (k_unfold; try dsimp only) | ((with_reducible refine ite_pos (by decide) ?_); try dsimp only) | ((with_reducible refine ite_neg (by decide) ?_); try dsimp only) | ((fail_if_success (with_reducible show wpAny _ _ (subscriptTail _ _ _ _) _ _ _)); (fail_if_success (with_reducible show wpAny _ _ (call (Value.ref _) _ _) _ _ _)); (fail_if_success (with_reducible show wpAny _ _ (exec (Stmt.For _ _ _ _ _) _) _ _ _)); (fail_if_success (with_reducible show wpAny _ _ (exec (Stmt.While _ _ _ _) _) _ _ _)); (fail_if_success (with_reducible show wpAny _ _ (pyIter _) _ _ _)); (fail_if_success (with_reducible show wpAny _ _ (eval (PySem.Expr.Lambda _ _ _ _) _) _ _ _)); (fail_if_success (with_reducible show wpAny _ _ (call (Value.type _) _ _) _ _ _)); (fail_if_success (with_reducible show wpAny _ _ (exec (Stmt.Assign _ (PySem.Expr.ListComp _ _ _ _) _) _) _ _ _)); (fail_if_success (with_reducible refine ite_pos ?_ ?_)); walk1; try dsimp only))
        refine subAt (hl.at fun o e => Fr.keep (by assumption) _ _ e) hI _ rfl hmid hlen (fun t5 => ?_)
        repeat (first | (k_unfold; try dsimp only) | ((with_reducible refine ite_pos (by decide) ?_); try dsimp only) | ((with_reducible refine ite_neg (by decide) ?_); try dsimp only) | ((fail_if_success (with_reducible show wpAny _ _ (subscriptTail _ _ _ _) _ _ _)); (fail_if_success (with_reducible show wpAny _ _ (call (Value.ref _) _ _) _ _ _)); (fail_if_success (with_reducible show wpAny _ _ (exec (Stmt.For _ _ _ _ _) _) _ _ _)); (fail_if_success (with_reducible show wpAny _ _ (exec (Stmt.While _ _ _ _) _) _ _ _)); (fail_if_success (with_reducible show wpAny _ _ (pyIter _) _ _ _)); (fail_if_success (with_reducible show wpAny _ _ (eval (PySem.Expr.Lambda _ _ _ _) _) _ _ _)); (fail_if_success (with_reducible show wpAny _ _ (call (Value.type _) _ _) _ _ _)); (fail_if_success (with_reducible show wpAny _ _ (exec (Stmt.Assign _ (PySem.Expr.ListComp _ _ _ _) _) _) _ _ _)); (fail_if_success (with_reducible refine ite_pos ?_ ?_)); walk1; try dsimp only))
        by_cases c2 : ns.getD ((l' + h'') / 2) 0 < x
        · refine ite_pos (decide_eq_true (Int.ofNat_lt.mpr c2)) ?_
          repeat (first | (k_unfold; try dsimp only) | ((with_reducible refine ite_pos (by decide) ?_); try dsimp only) | ((with_reducible refine ite_neg (by decide) ?_); try dsimp only) | ((fail_if_success (with_reducible show wpAny _ _ (subscriptTail _ _ _ _) _ _ _)); (fail_if_success (with_reducible show wpAny _ _ (call (Value.ref _) _ _) _ _ _)); (fail_if_success (with_reducible show wpAny _ _ (exec (Stmt.For _ _ _ _ _) _) _ _ _)); (fail_if_success (with_reducible show wpAny _ _ (exec (Stmt.While _ _ _ _) _) _ _ _)); (fail_if_success (with_reducible show wpAny _ _ (pyIter _) _ _ _)); (fail_if_success (with_reducible show wpAny _ _ (eval (PySem.Expr.Lambda _ _ _ _) _) _ _ _)); (fail_if_success (with_reducible show wpAny _ _ (call (Value.type _) _ _) _ _ _)); (fail_if_success (with_reducible show wpAny _ _ (exec (Stmt.Assign _ (PySem.Expr.ListComp _ _ _ _) _) _) _ _ _)); (fail_if_success (with_reducible refine ite_pos ?_ ?_)); walk1; try dsimp only))
          exact WhileStep.intro (n' := ((h'' : Int) - (((l' + h'') / 2 + 1 : Nat) : Int)).toNat) (by assumption) (by assumption) (by omega) ⟨rfl, (l' + h'') / 2 + 1, h'', _, t4, rfl, inv.up so hhi (by omega) c2, rfl, rfl, rfl, rfl, trivial⟩
        · refine ite_neg (by rw [decide_eq_true_eq]; exact fun q => c2 (Int.ofNat_lt.mp q)) ?_
          repeat (first | (k_unfold; try dsimp only) | ((with_reducible refine ite_pos (by decide) ?_); try dsimp only) | ((with_reducible refine ite_neg (by decide) ?_); try dsimp only) | ((fail_if_success (with_reducible show wpAny _ _ (subscriptTail _ _ _ _) _ _ _)); (fail_if_success (with_reducible show wpAny _ _ (call (Value.ref _) _ _) _ _ _)); (fail_if_success (with_reducible show wpAny _ _ (exec (Stmt.For _ _ _ _ _) _) _ _ _)); (fail_if_success (with_reducible show wpAny _ _ (exec (Stmt.While _ _ _ _) _) _ _ _)); (fail_if_success (with_reducible show wpAny _ _ (pyIter _) _ _ _)); (fail_if_success (with_reducible show wpAny _ _ (eval (PySem.Expr.Lambda _ _ _ _) _) _ _ _)); (fail_if_success (with_reducible show wpAny _ _ (call (Value.type _) _ _) _ _ _)); (fail_if_success (with_reducible show wpAny _ _ (exec (Stmt.Assign _ (PySem.Expr.ListComp _ _ _ _) _) _) _ _ _)); (fail_if_success (with_reducible refine ite_pos ?_ ?_)); walk1; try dsimp only))
          exact WhileStep.intro (n' := ((((l' + h'') / 2 : Nat) : Int) - (l' : Int)).toNat) (by assumption) (by assumption) (by omega) ⟨rfl, l', (((l' + h'') / 2 : Nat) : Int), t3, _, rfl, inv.down so hhi (by omega) c2, rfl, rfl, rfl, rfl, trivial⟩
      · show wpAny _ _ _ _ _ _
        k_fold
        repeat (first | (k_unfold; try dsimp only) | ((with_reducible refine ite_pos (by decide) ?_); try dsimp only) | ((with_reducible refine ite_neg (by decide) ?_); try dsimp only) | ((fail_if_success (with_reducible show wpAny _ _ (subscriptTail _ _ _ _) _ _ _)); (fail_if_success (with_reducible show wpAny _ _ (call (Value.ref _) _ _) _ _ _)); (fail_if_success (with_reducible show wpAny _ _ (exec (Stmt.For _ _ _ _ _) _) _ _ _)); (fail_if_success (with_reducible show wpAny _ _ (exec (Stmt.While _ _ _ _) _) _ _ _)); (fail_if_success (with_reducible show wpAny _ _ (pyIter _) _ _ _)); (fail_if_success (with_reducible show wpAny _ _ (eval (PySem.Expr.Lambda _ _ _ _) _) _ _ _)); (fail_if_success (with_reducible show wpAny _ _ (call (Value.type _) _ _) _ _ _)); (fail_if_success (with_reducible show wpAny _ _ (exec (Stmt.Assign _ (PySem.Expr.ListComp _ _ _ _) _) _) _ _ _)); (fail_if_success (with_reducible refine ite_pos ?_ ?_)); walk1; try dsimp only))
        refine ite_neg (by simpa using c) ?_
        repeat (first | (k_unfold; try dsimp only) | ((with_reducible refine ite_pos (by decide) ?_); try dsimp only) | ((with_reducible refine ite_neg (by decide) ?_); try dsimp only) | ((fail_if_success (with_reducible show wpAny _ _ (subscriptTail _ _ _ _) _ _ _)); (fail_if_success (with_reducible show wpAny _ _ (call (Value.ref _) _ _) _ _ _)); (fail_if_success (with_reducible show wpAny _ _ (exec (Stmt.For _ _ _ _ _) _) _ _ _)); (fail_if_success (with_reducible show wpAny _ _ (exec (Stmt.While _ _ _ _) _) _ _ _)); (fail_if_success (with_reducible show wpAny _ _ (pyIter _) _ _ _)); (fail_if_success (with_reducible show wpAny _ _ (eval (PySem.Expr.Lambda _ _ _ _) _) _ _ _)); (fail_if_success (with_reducible show wpAny _ _ (call (Value.type _) _ _) _ _ _)); (fail_if_success (with_reducible show wpAny _ _ (exec (Stmt.Assign _ (PySem.Expr.ListComp _ _ _ _) _) _) _ _ _)); (fail_if_success (with_reducible refine ite_pos ?_ ?_)); walk1; try dsimp only))
        exact RetP.intro (by assumption) fun k => by exact hQ _ _ _ _ k (inv.stop c)
    · passes_own

theorem lk_elim {K : Frag} {a : Addr} {oc oc' : Value} {od od' : Option Addr} {osl osl' : Array (Option Value)} {fd fd' : FuncData} {P : FuncData → Prop} (k : K.lookup a = some ⟨oc', od', .func fd', osl'⟩) (h : K.lookup a = some ⟨oc, od, .func fd, osl⟩) (g : P fd') : P fd := by
  rw [k] at h; cases h; exact g

theorem bl2 {w : World} {A : Around} {s : Shared} {Q E : Value → Shared → Prop} {l : Addr} {vs : List Value} {ns : List Nat} (x : Nat) {tx : Tok}
    (S : Site w 1 A s.heap) (hl : s.heap.IsList l vs.toArray) (hI : IntsAre vs (casts ns)) (hlen : ns.length ≤ 1000) (so : Sorted ns)
    (hQ : ∀ (r : Nat) t h' tk', s.heap.StaysIn h' → BL ns x 0 (ns.length : Int) r → Q (.int (r : Int) t) { s with heap := h', toks := tk' }) :
    wpAny (model prog w) A (call (.ref 50) [.ref l, .int (x : Int) tx]) Q E s := by
  refine bl_gen (tx := tx) (tl := 229) (lo := 0) (hi := (ns.length : Int)) S ?_ hl hI hlen so (.inl ⟨rfl, rfl⟩) (Int.le_refl _) hQ
  intro oc od osl fd h X
  k_dflt (refine' lk_elim (P := fun fd => BindsTo s fd _ _) ?k h ?g; (case k => k_is); (case g => exact kp_binds X (fun _ => rfl)))

theorem bl4N {w : World} {A : Around} {s : Shared} {Q E : Value → Shared → Prop} {l : Addr} {vs : List Value} {ns : List Nat} (x lo : Nat) {tx tl : Tok}
    (S : Site w 1 A s.heap) (hl : s.heap.IsList l vs.toArray) (hI : IntsAre vs (casts ns)) (hlen : ns.length ≤ 1000) (so : Sorted ns)
    (hQ : ∀ (r : Nat) t h' tk', s.heap.StaysIn h' → BL ns x lo (ns.length : Int) r → Q (.int (r : Int) t) { s with heap := h', toks := tk' }) :
    wpAny (model prog w) A (call (.ref 50) [.ref l, .int (x : Int) tx, .int (lo : Int) tl, .none]) Q E s := by
  refine bl_gen (tx := tx) (tl := tl) (lo := lo) (hi := (ns.length : Int)) S ?_ hl hI hlen so (.inl ⟨rfl, rfl⟩) (Int.le_refl _) hQ
  intro oc od osl fd h X
  k_dflt (refine' lk_elim (P := fun fd => BindsTo s fd _ _) ?k h ?g; (case k => k_is); (case g => exact kp_binds X (fun _ => rfl)))

theorem bl4 {w : World} {A : Around} {s : Shared} {Q E : Value → Shared → Prop} {l : Addr} {vs : List Value} {ns : List Nat} {a : Int} (x lo : Nat) (hi : Int) {tx tl th : Tok}
    (S : Site w 1 A s.heap) (hl : s.heap.IsList l vs.toArray) (hI : IntsAre vs (casts ns)) (hlen : ns.length ≤ 1000) (so : Sorted ns) (ha : a = (lo : Int)) (hhi : hi ≤ (ns.length : Int))
    (hQ : ∀ (r : Nat) t h' tk', s.heap.StaysIn h' → BL ns x lo hi r → Q (.int (r : Int) t) { s with heap := h', toks := tk' }) :
    wpAny (model prog w) A (call (.ref 50) [.ref l, .int (x : Int) tx, .int a tl, .int hi th]) Q E s := by
  subst ha
  refine bl_gen (tx := tx) (tl := tl) (lo := lo) (hi := hi) S ?_ hl hI hlen so (.inr ⟨th, rfl⟩) hhi hQ
  intro oc od osl fd h X
  k_dflt (refine' lk_elim (P := fun fd => BindsTo s fd _ _) ?k h ?g; (case k => k_is); (case g => exact kp_binds X (fun _ => rfl)))
/-- what bisect_right answers -/
def BR (ns : List Nat) (x lo : Nat) (hi : Int) (r : Nat) : Prop :=
  (hi < (lo : Int) → r = lo) ∧ ((lo : Int) ≤ hi → lo ≤ r ∧ (r : Int) ≤ hi ∧ (∀ i, lo ≤ i → i < r → ns.getD i 0 ≤ x) ∧ (∀ i : Nat, r ≤ i → (i : Int) < hi → x < ns.getD i 0))
/-- between the turns -/
def BRinv (ns : List Nat) (x lo : Nat) (hi : Int) (l : Nat) (h : Int) : Prop :=
  (hi < (lo : Int) → l = lo ∧ h = hi) ∧ ((lo : Int) ≤ hi → lo ≤ l ∧ (l : Int) ≤ h ∧ h ≤ hi ∧ (∀ i, lo ≤ i → i < l → ns.getD i 0 ≤ x) ∧ (∀ i : Nat, h ≤ (i : Int) → (i : Int) < hi → x < ns.getD i 0))
theorem BRinv.start (ns : List Nat) (x lo : Nat) (hi : Int) : BRinv ns x lo hi lo hi :=
  ⟨fun _ => ⟨rfl, rfl⟩, fun h => ⟨Nat.le_refl _, h, Int.le_refl _, fun i a b => absurd a (by omega), fun i a b => absurd a (by omega)⟩⟩
theorem BRinv.stop {ns : List Nat} {x lo : Nat} {hi : Int} {l : Nat} {h : Int} (I : BRinv ns x lo hi l h) (e : ¬ (l : Int) < h) : BR ns x lo hi l := by
  refine ⟨fun q => (I.1 q).1, fun q => ?_⟩
  obtain ⟨a, b, c, d, f⟩ := I.2 q
  exact ⟨a, by omega, d, fun i hi' hh => f i (by omega) hh⟩
theorem BRinv.up {ns : List Nat} {x lo : Nat} {hi : Int} {l h : Nat} (I : BRinv ns x lo hi l h) (so : Sorted ns) (hlen : hi ≤ (ns.length : Int)) (e : l < h) (c : ¬ x < ns.getD ((l + h) / 2) 0) : BRinv ns x lo hi ((l + h) / 2 + 1) h := by
  by_cases q : (lo : Int) ≤ hi
  · refine ⟨fun q' => by omega, fun _ => ?_⟩
    obtain ⟨a, b, c', d, f⟩ := I.2 q
    refine ⟨by omega, by omega, c', fun i h1 h2 => ?_, f⟩
    exact Nat.le_trans (so i ((l + h) / 2) (by omega) (by omega)) (Nat.le_of_not_lt c)
  · have := (I.1 (by omega)); omega
theorem BRinv.down {ns : List Nat} {x lo : Nat} {hi : Int} {l h : Nat} (I : BRinv ns x lo hi l h) (so : Sorted ns) (hlen : hi ≤ (ns.length : Int)) (e : l < h) (c : x < ns.getD ((l + h) / 2) 0) : BRinv ns x lo hi l (((l + h) / 2 : Nat) : Int) := by
  by_cases q : (lo : Int) ≤ hi
  · refine ⟨fun q' => by omega, fun _ => ?_⟩
    obtain ⟨a, b, c', d, f⟩ := I.2 q
    refine ⟨a, by omega, by omega, d, fun i h1 h2 => ?_⟩
    exact Nat.lt_of_lt_of_le c (so ((l + h) / 2) i (by omega) (by omega))
  · have := (I.1 (by omega)); omega

theorem br_gen {w : World} {A : Around} {s : Shared} {Q E : Value → Shared → Prop} {pos : List Value} {kw : List (Str × Value)} {l : Addr} {vs : List Value} {ns : List Nat} {x lo : Nat} {hi : Int} {hv : Value} {tx tl : Tok}
    (S : Site w 1 A s.heap)
    (hb : ∀ oc od osl fd, (hd.heap_39 w.params).lookup 32 = some ⟨oc, od, .func fd, osl⟩ → (hd.heap_39 w.params).In s.heap →
      BindsTo s fd ⟨pos, kw⟩ [(Str.ofString "a", .ref l), (Str.ofString "x", .int (x : Int) tx), (Str.ofString "lo", .int (lo : Int) tl), (Str.ofString "hi", hv), (Str.ofString "key", .none)])
    (hl : s.heap.IsList l vs.toArray) (hI : IntsAre vs (casts ns)) (hlen : ns.length ≤ 1000) (so : Sorted ns)
    (hhv : (hv = .none ∧ hi = (ns.length : Int)) ∨ ∃ t, hv = .int hi t) (hhi : hi ≤ (ns.length : Int))
    (hQ : ∀ (r : Nat) t h' tk', s.heap.StaysIn h' → BR ns x lo hi r → Q (.int (r : Int) t) { s with heap := h', toks := tk' }) :
    wpAny (model prog w) A (call (.ref 32) pos kw) Q E s := by
  refine wpAny_call ?_
  have X0 : (hd.heap_39 w.params).In s.heap := by
    obtain ⟨A₀, base, outer, h₀, env, L, m, mean, mg, mb, B, F, X, T, r⟩ := S
    exact X.keeps F.keep
  k_dflt (refine' enterP (d := 0) S ?k6 ?k7 ?k9 ?kB ?c5 ?c2 ?c3 ?c4 ?_; (case k6 => k_is); (case k7 => k_is); (case k9 => exact hb _ _ _ _ (by k_is) X0); (case kB => exact locs rfl); (case c5 => decide); (case c2 => exact rfl); (case c3 => exact rfl); (case c4 => exact rfl))
  intro base outer L' h₁ mean mg mb F N B X T hd hu hA hh
  replace F := fr_knows F [(Str.ofString "a", .ref l), (Str.ofString "x", .int (x : Int) tx), (Str.ofString "lo", .int (lo : Int) tl), (Str.ofString "hi", hv), (Str.ofString "key", .none)] ⟨rfl, rfl, rfl, rfl, rfl, trivial⟩
  show wpAny _ _ _ _ _ _
  k_fold
  repeat (first | (k_unfold; try dsimp only) | ((with_reducible refine ite_pos (by decide) ?_); try dsimp only) | ((with_reducible refine ite_neg (by decide) ?_); try dsimp only) | ((fail_if_success (with_reducible show wpAny _ _ (subscriptTail _ _ _ _) _ _ _)); (fail_if_success (with_reducible show wpAny _ _ (call (Value.ref _) _ _) _ _ _)); (fail_if_success (with_reducible show wpAny _ _ (exec (Stmt.For _ _ _ _ _) _) _ _ _)); (fail_if_success (with_reducible show wpAny _ _ (exec (Stmt.While _ _ _ _) _) _ _ _)); (fail_if_success (with_reducible show wpAny _ _ (pyIter _) _ _ _)); (fail_if_success (with_reducible show wpAny _ _ (eval (PySem.Expr.Lambda _ _ _ _) _) _ _ _)); (fail_if_success (with_reducible show wpAny _ _ (call (Value.type _) _ _) _ _ _)); (fail_if_success (with_reducible show wpAny _ _ (exec (Stmt.Assign _ (PySem.Expr.ListComp _ _ _ _) _) _) _ _ _)); (fail_if_success (with_reducible refine ite_pos ?_ ?_)); walk1; try dsimp only))
  refine ite_neg (by simp) ?_
  iterate 3 (walk1; try dsimp only)
  refine wpAny_mono (Q := MidF s.heap L' s [] fun m => ∃ t, Kn m [(Str.ofString "a", .ref l), (Str.ofString "x", .int (x : Int) tx), (Str.ofString "lo", .int (lo : Int) tl), (Str.ofString "hi", .int hi t), (Str.ofString "key", .none)]) ?_ ?_ fun _ _ e => e
  · rcases hhv with ⟨rfl, rfl⟩ | ⟨t0, rfl⟩
    · show wpAny _ _ _ _ _ _
      k_fold
      repeat (first | (k_unfold; try dsimp only) | ((with_reducible refine ite_pos (by decide) ?_); try dsimp only) | ((with_reducible refine ite_neg (by decide) ?_); try dsimp only) | ((fail_if_success (with_reducible show wpAny _ _ (subscriptTail _ _ _ _) _ _ _)); (fail_if_success (with_reducible show wpAny _ _ (call (Value.ref _) _ _) _ _ _)); (fail_if_success (with_reducible show wpAny _ _ (exec (Stmt.For _ _ _ _ _) _) _ _ _)); (fail_if_success (with_reducible show wpAny _ _ (exec (Stmt.While _ _ _ _) _) _ _ _)); (fail_if_success (with_reducible show wpAny _ _ (pyIter _) _ _ _)); (fail_if_success (with_reducible show wpAny _ _ (eval (PySem.Expr.Lambda _ _ _ _) _) _ _ _)); (fail_if_success (with_reducible show wpAny _ _ (call (Value.type _) _ _) _ _ _)); (fail_if_success (with_reducible show wpAny _ _ (exec (Stmt.Assign _ (PySem.Expr.ListComp _ _ _ _) _) _) _ _ _)); (fail_if_success (with_reducible refine ite_pos ?_ ?_)); walk1; try dsimp only))
      (with_reducible refine lenN (vs := vs) ns.length ?lnl ?lnk ?lnb ?_)
      (case lnl => exact hl.at fun o e => F.keep _ _ e)
      (case lnk => exact casts_length hI)
      (case lnb => exact hlen)
      dsimp only
      repeat (first | (k_unfold; try dsimp only) | ((with_reducible refine ite_pos (by decide) ?_); try dsimp only) | ((with_reducible refine ite_neg (by decide) ?_); try dsimp only) | ((fail_if_success (with_reducible show wpAny _ _ (subscriptTail _ _ _ _) _ _ _)); (fail_if_success (with_reducible show wpAny _ _ (call (Value.ref _) _ _) _ _ _)); (fail_if_success (with_reducible show wpAny _ _ (exec (Stmt.For _ _ _ _ _) _) _ _ _)); (fail_if_success (with_reducible show wpAny _ _ (exec (Stmt.While _ _ _ _) _) _ _ _)); (fail_if_success (with_reducible show wpAny _ _ (pyIter _) _ _ _)); (fail_if_success (with_reducible show wpAny _ _ (eval (PySem.Expr.Lambda _ _ _ _) _) _ _ _)); (fail_if_success (with_reducible show wpAny _ _ (call (Value.type _) _ _) _ _ _)); (fail_if_success (with_reducible show wpAny _ _ (exec (Stmt.Assign _ (PySem.Expr.ListComp _ _ _ _) _) _) _ _ _)); (fail_if_success (with_reducible refine ite_pos ?_ ?_)); walk1; try dsimp only))
      exact MidF.intro (by assumption) (by assumption) ⟨_, rfl, rfl, rfl, rfl, rfl, trivial⟩
    · show wpAny _ _ _ _ _ _
      k_fold
      repeat (first | (k_unfold; try dsimp only) | ((with_reducible refine ite_pos (by decide) ?_); try dsimp only) | ((with_reducible refine ite_neg (by decide) ?_); try dsimp only) | ((fail_if_success (with_reducible show wpAny _ _ (subscriptTail _ _ _ _) _ _ _)); (fail_if_success (with_reducible show wpAny _ _ (call (Value.ref _) _ _) _ _ _)); (fail_if_success (with_reducible show wpAny _ _ (exec (Stmt.For _ _ _ _ _) _) _ _ _)); (fail_if_success (with_reducible show wpAny _ _ (exec (Stmt.While _ _ _ _) _) _ _ _)); (fail_if_success (with_reducible show wpAny _ _ (pyIter _) _ _ _)); (fail_if_success (with_reducible show wpAny _ _ (eval (PySem.Expr.Lambda _ _ _ _) _) _ _ _)); (fail_if_success (with_reducible show wpAny _ _ (call (Value.type _) _ _) _ _ _)); (fail_if_success (with_reducible show wpAny _ _ (exec (Stmt.Assign _ (PySem.Expr.ListComp _ _ _ _) _) _) _ _ _)); (fail_if_success (with_reducible refine ite_pos ?_ ?_)); walk1; try dsimp only))
      exact MidF.intro (by assumption) (by assumption) ⟨_, rfl, rfl, rfl, rfl, rfl, trivial⟩
  · rintro f s2 ⟨rfl, h2, tk2, m2, rfl, F2, N2, t2, K2⟩
    replace F2 := fr_knows F2 _ K2
    dsimp only
    repeat (first | (k_unfold; try dsimp only) | ((with_reducible refine ite_pos (by decide) ?_); try dsimp only) | ((with_reducible refine ite_neg (by decide) ?_); try dsimp only) | ((fail_if_success (with_reducible show wpAny _ _ (subscriptTail _ _ _ _) _ _ _)); (fail_if_success (with_reducible show wpAny _ _ (call (Value.ref _) _ _) _ _ _)); (fail_if_success (with_reducible show wpAny _ _ (exec (Stmt.For _ _ _ _ _) _) _ _ _)); (fail_if_success (with_reducible show wpAny _ _ (exec (Stmt.While _ _ _ _) _) _ _ _)); (fail_if_success (with_reducible show wpAny _ _ (pyIter _) _ _ _)); (fail_if_success (with_reducible show wpAny _ _ (eval (PySem.Expr.Lambda _ _ _ _) _) _ _ _)); (fail_if_success (with_reducible show wpAny _ _ (call (Value.type _) _ _) _ _ _)); (fail_if_success (with_reducible show wpAny _ _ (exec (Stmt.Assign _ (PySem.Expr.ListComp _ _ _ _) _) _) _ _ _)); (fail_if_success (with_reducible refine ite_pos ?_ ?_)); walk1; try dsimp only))
    refine While_inv (n₀ := (hi - lo).toNat) (fun n m nw => nw = [] ∧ ∃ (l' : Nat) (h' : Int) (t t' : Tok), n = (h' - l').toNat ∧ BRinv ns x lo hi l' h' ∧
      Kn m [(Str.ofString "a", .ref l), (Str.ofString "x", .int (x : Int) tx), (Str.ofString "lo", .int (l' : Int) t), (Str.ofString "hi", .int h' t')]) F2 N2 ⟨rfl, lo, hi, tl, t2, rfl, BRinv.start .., rfl, rfl, rfl, rfl, trivial⟩ ?_ ?_
    · rintro n m₁ news₁ h3 tk3 F3 N3 ⟨rfl, l', h', t3, t4, rfl, inv, K3⟩
      replace F3 := fr_knows F3 _ K3
      by_cases c : (l' : Int) < h'
      · obtain ⟨h'', rfl⟩ : ∃ k : Nat, h' = (k : Int) := ⟨h'.toNat, by omega⟩
        have hmid : (l' + h'') / 2 < ns.length := by
          have q : (lo : Int) ≤ hi := by
            by_cases q : (lo : Int) ≤ hi
            · exact q
            · have := inv.1 (by omega); omega
          have := (inv.2 q).2.2.1
          omega
        show wpAny _ _ _ _ _ _
        k_fold
        repeat (first | (k_unfold; try dsimp only) | ((with_reducible refine ite_pos (by decide) ?_); try dsimp only) | ((with_reducible refine ite_neg (by decide) ?_); try dsimp only) | ((fail_if_success (with_reducible show wpAny _ _ (subscriptTail _ _ _ _) _ _ _)); (fail_if_success (with_reducible show wpAny _ _ (call (Value.ref _) _ _) _ _ _)); (fail_if_success (with_reducible show wpAny _ _ (exec (Stmt.For _ _ _ _ _) _) _ _ _)); (fail_if_success (with_reducible show wpAny _ _ (exec (Stmt.While _ _ _ _) _) _ _ _)); (fail_if_success (with_reducible show wpAny _ _ (pyIter _) _ _ _)); (fail_if_success (with_reducible show wpAny _ _ (eval (PySem.Expr.Lambda _ _ _ _) _) _ _ _)); (fail_if_success (with_reducible show wpAny _ _ (call (Value.type _) _ _) _ _ _)); (fail_if_success (with_reducible show wpAny _ _ (exec (Stmt.Assign _ (PySem.Expr.ListComp _ _ _ _) _) _) _ _ _)); (fail_if_success (with_reducible refine ite_pos ?_ ?_)); walk1; try dsimp only))
        refine ite_pos (by simpa using c) ?_
        repeat (first | (k_unfold; try dsimp only) | ((with_reducible refine ite_pos (by decide) ?_); try dsimp only) | ((with_reducible refine ite_neg (by decide) ?_); try dsimp only) | ((fail_if_success (with_reducible show wpAny _ _ (subscriptTail _ _ _ _) _ _ _)); (fail_if_success (with_reducible show wpAny _ _ (call (Value.ref _) _ _) _ _ _)); (fail_if_success (with_reducible show wpAny _ _ (exec (Stmt.For _ _ _ _ _) _) _ _ _)); (fail_if_success (with_reducible show wpAny _ _ (exec (Stmt.While _ _ _ _) _) _ _ _)); (fail_if_success (with_reducible show wpAny _ _ (pyIter _) _ _ _)); (fail_if_success (with_reducible show wpAny _ _ (eval (PySem.Expr.Lambda _ _ _ _) _) _ _ _)); (fail_if_success (with_reducible show wpAny _ _ (call (Value.type _) _ _) _ _ _)); (fail_if_success (with_reducible show wpAny _ _ (exec (Stmt.Assign _ (PySem.Expr.ListComp _ _ _ _) _) _) _ _ _)); (fail_if_success (with_reducible refine ite_pos ?_ ?_)); walk1; try dsimp only))
        refine subAt (hl.at fun o e => Fr.keep (by assumption) _ _ e) hI _ rfl hmid hlen (fun t5 => ?_)
        repeat (first | (k_unfold; try dsimp only) | ((with_reducible refine ite_pos (by decide) ?_); try dsimp only) | ((with_reducible refine ite_neg (by decide) ?_); try dsimp only) | ((fail_if_success (with_reducible show wpAny _ _ (subscriptTail _ _ _ _) _ _ _)); (fail_if_success (with_reducible show wpAny _ _ (call (Value.ref _) _ _) _ _ _)); (fail_if_success (with_reducible show wpAny _ _ (exec (Stmt.For _ _ _ _ _) _) _ _ _)); (fail_if_success (with_reducible show wpAny _ _ (exec (Stmt.While _ _ _ _) _) _ _ _)); (fail_if_success (with_reducible show wpAny _ _ (pyIter _) _ _ _)); (fail_if_success (with_reducible show wpAny _ _ (eval (PySem.Expr.Lambda _ _ _ _) _) _ _ _)); (fail_if_success (with_reducible show wpAny _ _ (call (Value.type _) _ _) _ _ _)); (fail_if_success (with_reducible show wpAny _ _ (exec (Stmt.Assign _ (PySem.Expr.ListComp _ _ _ _) _) _) _ _ _)); (fail_if_success (with_reducible refine ite_pos ?_ ?_)); walk1; try dsimp only))
        by_cases c2 : x < ns.getD ((l' + h'') / 2) 0
        · refine ite_pos (decide_eq_true (Int.ofNat_lt.mpr c2)) ?_
          repeat (first | (k_unfold; try dsimp only) | ((with_reducible refine ite_pos (by decide) ?_); try dsimp only) | ((with_reducible refine ite_neg (by decide) ?_); try dsimp only) | ((fail_if_success (with_reducible show wpAny _ _ (subscriptTail _ _ _ _) _ _ _)); (fail_if_success (with_reducible show wpAny _ _ (call (Value.ref _) _ _) _ _ _)); (fail_if_success (with_reducible show wpAny _ _ (exec (Stmt.For _ _ _ _ _) _) _ _ _)); (fail_if_success (with_reducible show wpAny _ _ (exec (Stmt.While _ _ _ _) _) _ _ _)); (fail_if_success (with_reducible show wpAny _ _ (pyIter _) _ _ _)); (fail_if_success (with_reducible show wpAny _ _ (eval (PySem.Expr.Lambda _ _ _ _) _) _ _ _)); (fail_if_success (with_reducible show wpAny _ _ (call (Value.type _) _ _) _ _ _)); (fail_if_success (with_reducible show wpAny _ _ (exec (Stmt.Assign _ (PySem.Expr.ListComp _ _ _ _) _) _) _ _ _)); (fail_if_success (with_reducible refine ite_pos ?_ ?_)); walk1; try dsimp only))
          exact WhileStep.intro (n' := ((((l' + h'') / 2 : Nat) : Int) - (l' : Int)).toNat) (by assumption) (by assumption) (by omega) ⟨rfl, l', (((l' + h'') / 2 : Nat) : Int), t3, _, rfl, inv.down so hhi (by omega) c2, rfl, rfl, rfl, rfl, trivial⟩
        · refine ite_neg (by rw [decide_eq_true_eq]; exact fun q => c2 (Int.ofNat_lt.mp q)) ?_
          repeat (first | (k_unfold; try dsimp only) | ((with_reducible refine ite_pos (by decide) ?_); try dsimp only) | ((with_reducible refine ite_neg (by decide) ?_); try dsimp only) | ((fail_if_success (with_reducible show wpAny _ _ (subscriptTail _ _ _ _) _ _ _)); (fail_if_success (with_reducible show wpAny _ _ (call (Value.ref _) _ _) _ _ _)); (fail_if_success (with_reducible show wpAny _ _ (exec (Stmt.For _ _ _ _ _) _) _ _ _)); (fail_if_success (with_reducible show wpAny _ _ (exec (Stmt.While _ _ _ _) _) _ _ _)); (fail_if_success (with_reducible show wpAny _ _ (pyIter _) _ _ _)); (fail_if_success (with_reducible show wpAny _ _ (eval (PySem.Expr.Lambda _ _ _ _) _) _ _ _)); (fail_if_success (with_reducible show wpAny _ _ (call (Value.type _) _ _) _ _ _)); (fail_if_success (with_reducible show wpAny _ _ (exec (Stmt.Assign _ (PySem.Expr.ListComp _ _ _ _) _) _) _ _ _)); (fail_if_success (with_reducible refine ite_pos ?_ ?_)); walk1; try dsimp only))
          exact WhileStep.intro (n' := ((h'' : Int) - (((l' + h'') / 2 + 1 : Nat) : Int)).toNat) (by assumption) (by assumption) (by omega) ⟨rfl, (l' + h'') / 2 + 1, h'', _, t4, rfl, inv.up so hhi (by omega) c2, rfl, rfl, rfl, rfl, trivial⟩
      · show wpAny _ _ _ _ _ _
        k_fold
        repeat (first | (k_unfold; try dsimp only) | ((with_reducible refine ite_pos (by decide) ?_); try dsimp only) | ((with_reducible refine ite_neg (by decide) ?_); try dsimp only) | ((fail_if_success (with_reducible show wpAny _ _ (subscriptTail _ _ _ _) _ _ _)); (fail_if_success (with_reducible show wpAny _ _ (call (Value.ref _) _ _) _ _ _)); (fail_if_success (with_reducible show wpAny _ _ (exec (Stmt.For _ _ _ _ _) _) _ _ _)); (fail_if_success (with_reducible show wpAny _ _ (exec (Stmt.While _ _ _ _) _) _ _ _)); (fail_if_success (with_reducible show wpAny _ _ (pyIter _) _ _ _)); (fail_if_success (with_reducible show wpAny _ _ (eval (PySem.Expr.Lambda _ _ _ _) _) _ _ _)); (fail_if_success (with_reducible show wpAny _ _ (call (Value.type _) _ _) _ _ _)); (fail_if_success (with_reducible show wpAny _ _ (exec (Stmt.Assign _ (PySem.Expr.ListComp _ _ _ _) _) _) _ _ _)); (fail_if_success (with_reducible refine ite_pos ?_ ?_)); walk1; try dsimp only))
        refine ite_neg (by simpa using c) ?_
        repeat (first | (k_unfold; try dsimp only) | ((with_reducible refine ite_pos (by decide) ?_); try dsimp only) | ((with_reducible refine ite_neg (by decide) ?_); try dsimp only) | ((fail_if_success (with_reducible show wpAny _ _ (subscriptTail _ _ _ _) _ _ _)); (fail_if_success (with_reducible show wpAny _ _ (call (Value.ref _) _ _) _ _ _)); (fail_if_success (with_reducible show wpAny _ _ (exec (Stmt.For _ _ _ _ _) _) _ _ _)); (fail_if_success (with_reducible show wpAny _ _ (exec (Stmt.While _ _ _ _) _) _ _ _)); (fail_if_success (with_reducible show wpAny _ _ (pyIter _) _ _ _)); (fail_if_success (with_reducible show wpAny _ _ (eval (PySem.Expr.Lambda _ _ _ _) _) _ _ _)); (fail_if_success (with_reducible show wpAny _ _ (call (Value.type _) _ _) _ _ _)); (fail_if_success (with_reducible show wpAny _ _ (exec (Stmt.Assign _ (PySem.Expr.ListComp _ _ _ _) _) _) _ _ _)); (fail_if_success (with_reducible refine ite_pos ?_ ?_)); walk1; try dsimp only))
        exact RetP.intro (by assumption) fun k => by exact hQ _ _ _ _ k (inv.stop c)
    · passes_own

theorem br4N {w : World} {A : Around} {s : Shared} {Q E : Value → Shared → Prop} {l : Addr} {vs : List Value} {ns : List Nat} (x lo : Nat) {tx tl : Tok}
    (S : Site w 1 A s.heap) (hl : s.heap.IsList l vs.toArray) (hI : IntsAre vs (casts ns)) (hlen : ns.length ≤ 1000) (so : Sorted ns)
    (hQ : ∀ (r : Nat) t h' tk', s.heap.StaysIn h' → BR ns x lo (ns.length : Int) r → Q (.int (r : Int) t) { s with heap := h', toks := tk' }) :
    wpAny (model prog w) A (call (.ref 32) [.ref l, .int (x : Int) tx, .int (lo : Int) tl, .none]) Q E s := by
  refine br_gen (tx := tx) (tl := tl) (lo := lo) (hi := (ns.length : Int)) S ?_ hl hI hlen so (.inl ⟨rfl, rfl⟩) (Int.le_refl _) hQ
  intro oc od osl fd h X
  k_dflt (refine' lk_elim (P := fun fd => BindsTo s fd _ _) ?k h ?g; (case k => k_is); (case g => exact kp_binds X (fun _ => rfl)))

theorem br3 {w : World} {A : Around} {s : Shared} {Q E : Value → Shared → Prop} {l : Addr} {vs : List Value} {ns : List Nat} (x lo : Nat) {tx tl : Tok}
    (S : Site w 1 A s.heap) (hl : s.heap.IsList l vs.toArray) (hI : IntsAre vs (casts ns)) (hlen : ns.length ≤ 1000) (so : Sorted ns)
    (hQ : ∀ (r : Nat) t h' tk', s.heap.StaysIn h' → BR ns x lo (ns.length : Int) r → Q (.int (r : Int) t) { s with heap := h', toks := tk' }) :
    wpAny (model prog w) A (call (.ref 32) [.ref l, .int (x : Int) tx, .int (lo : Int) tl]) Q E s := by
  refine br_gen (tx := tx) (tl := tl) (lo := lo) (hi := (ns.length : Int)) S ?_ hl hI hlen so (.inl ⟨rfl, rfl⟩) (Int.le_refl _) hQ
  intro oc od osl fd h X
  k_dflt (refine' lk_elim (P := fun fd => BindsTo s fd _ _) ?k h ?g; (case k => k_is); (case g => exact kp_binds X (fun _ => rfl)))

/-- where a call may be made that turns the object r of the caller's own -/
def SiteM (w : World) (d : Nat) (A : Around) (h : Heap) (r : Addr) : Prop :=
  ∃ A₀ base outer h₀ env L m mean mg mb, Below A₀ base outer h₀ ∧ Fr h₀ L h m ∧ (hd.heap_39 w.params).In h₀ ∧ Top vw lo mean mg mb h₀ ∧
    A.frames = some (env :: outer) ∧ env.frame = some L ∧ env.scope.kind = .function ∧ A.depth + d < recursionLimit ∧ A.units + 8 * d < cLine ∧ A.handled = none ∧ r ≠ L ∧ h₀.get? r = none
theorem siteM_of {w : World} {d d' : Nat} {A A₀ : Around} {base : Heap} {outer : List Env} {h₀ h : Heap} {env : Env} {L r : Addr} {m : Str → Option Value} {mean : ExcName → Option Value} {mg mb : Str → Option Value}
    (B : Below A₀ base outer h₀) (F : Fr h₀ L h m) (X : (hd.heap_39 w.params).In h₀) (T : Top vw lo mean mg mb h₀) (hA : A.frames = some (env :: outer)) (hf : env.frame = some L) (hk : env.scope.kind = .function)
    (hd : A.depth + d' < recursionLimit) (hu : A.units + 8 * d' < cLine) (hh : A.handled = none) (hle : d ≤ d') (h1 : r ≠ L) (h2 : h₀.get? r = none) : SiteM w d A h r := ⟨A₀, base, outer, h₀, env, L, m, mean, mg, mb, B, F, X, T, hA, hf, hk, by omega, by omega, hh, h1, h2⟩

/-- a def's end, where the object r may have been turned -/
def RetM (g h : Heap) (r : Addr) (R : Result → Shared → Prop) (fl : Flow) (s' : Shared) : Prop :=
  (∃ L m, Fr g L s'.heap m) ∧ ((∀ b o, b ≠ r → h.get? b = some o → s'.heap.get? b = some o) → R (.ok (.ret (match fl with | .ret v => v | _ => .none))) s')
theorem RetM.intro {g h : Heap} {r : Addr} {R : Result → Shared → Prop} {fl : Flow} {s' : Shared} {L : Addr} {m : Str → Option Value} (F : Fr g L s'.heap m)
    (k : (∀ b o, b ≠ r → h.get? b = some o → s'.heap.get? b = some o) → R (.ok (.ret (match fl with | .ret v => v | _ => .none))) s') : RetM g h r R fl s' := ⟨⟨L, m, F⟩, k⟩

section
variable {w : World} {A : Around} {s : Shared} {d : Nat} {r : Addr} {ro : Obj}
  {R : Result → Shared → Prop} {name qual : Str} {params : Arguments} {body : List Stmt} {scope : Scope} {dV kV doc pm cdv ct oc : Value} {an od : Option Addr} {osl : Array (Option Value)} {f : Addr} {args : Args} {binds : List (Str × Value)}
theorem enterM (S : SiteM w (d + 1) A s.heap r) (hr : s.heap.get? r = some ro)
    (ho : (hd.heap_39 w.params).lookup f = some ⟨oc, od, .func (fnOf name qual params body scope dV kV doc pm an cdv ct), osl⟩) (hcd : codeIn (hd.heap_39 w.params) cdv qual = true)
    (hbind : (hd.heap_39 w.params).In s.heap → BindsTo s (fnOf name qual params body scope dV kV doc pm an cdv ct) args binds) (hloc : ∀ y ∈ binds, scope.names.lookup y.1 = some .local)
    (hcell : ∀ x ∈ scope.names, x.2 ≠ .cell) (hco : scope.isCoroutine = false) (hgen : scope.isGenerator = false) (hk : scope.kind = .function)
    (h : ∀ base outer g L' h₁ mean mg mb, Fr g L' h₁ (fun y => binds.reverse.lookup y) → News g L' h₁ [(r, ro)] → Below A base outer g → (hd.heap_39 w.params).In g → Top vw lo mean mg mb g →
      (A.deeper (envOf qual scope L' f cdv)).depth + d < recursionLimit → (A.deeper (envOf qual scope L' f cdv)).units + 8 * d < cLine →
      (A.deeper (envOf qual scope L' f cdv)).frames = some (envOf qual scope L' f cdv :: outer) → (A.deeper (envOf qual scope L' f cdv)).handled = none →
      wpAny (model prog w) (A.deeper (envOf qual scope L' f cdv)) (execs body (envOf qual scope L' f cdv)) (RetM g s.heap r R)
        (fun _ _ => False)
        { s with heap := h₁, toks := s.toks + binds.length }) :
    codeAny (model prog w) A (.call (.ref f) args) R s := by
  obtain ⟨A₀, base, outer, h₀, env, L, m, mean, mg, mb, B, F, X, T, hA, hf, hke, hd, hu, hh, h1, h2⟩ := S
  have X' := X.keeps F.keep
  have N0 : News h₀ L s.heap [(r, ro)] := fun p hp => by rw [List.mem_singleton.mp hp]; exact ⟨hr, h1, h2⟩
  obtain ⟨FG, BG, st, -⟩ := groundX (R := fun _ _ => True) B F N0 hA hf hke
  have hdep : ∀ e : Env, (A.deeper e).depth = A.depth + 1 := fun e => depth_deeper A e
  refine codeAny_call_def (fd := fnOf name qual params body scope dV kV doc pm an cdv ct) (body := body) (binds := binds) (by omega) (X' _ _ ho) rfl (T.nolimit.keeps F.keep) (codeRec_of X' hcd) rfl (hbind X') hcell hloc (fun h₁ hns hk₁ => ?_) hco hgen hk
  refine wpAny_mono (h base (env :: outer) _ s.heap.objs.size h₁ mean mg mb ⟨hns, fun b o e => hk₁ b o (of_hideAll _ e), Nat.le_of_eq (hideAll_size _ _)⟩
    (fun p hp => ⟨hk₁ _ _ (N0 p hp).1, Nat.ne_of_lt (Heap.lt_size (N0 p hp).1), hideAll_none _ (List.mem_map_of_mem hp)⟩) BG (X.keeps st) (T.keeps st) ?_ ?_ ?_ ?_) (fun fl s' hl => ?_) fun _ _ y => y.elim
  · rw [hdep]; omega
  · rw [units_deeper]; omega
  · exact Around.frames_deeper hA
  · exact hh
  · obtain ⟨⟨L9, m9, F9⟩, k⟩ := hl
    exact k fun b o hb e => F9.keep b o (hideAll_get _ e (by simpa using hb))
end

theorem ins_left {w : World} {A : Around} {s : Shared} {Q E : Value → Shared → Prop} {l : Addr} {vs : List Value} {n : Nat} {ns : List Nat} (x : Nat) {tx : Tok}
    (S : SiteM w 2 A s.heap l) (hl : s.heap.get? l = some (listOf vs.toArray n)) (hI : IntsAre vs (casts ns)) (hlen : ns.length ≤ 1000) (so : Sorted ns)
    (hQ : ∀ (r : Nat) vs' n' h' tk', BL ns x 0 (ns.length : Int) r → (∀ b o, b ≠ l → s.heap.get? b = some o → h'.get? b = some o) → h'.get? l = some (listOf (List.toArray vs') n') → IntsAre vs' (casts (ns.take r ++ x :: ns.drop r)) →
      Q .none { s with heap := h', toks := tk' }) :
    wpAny (model prog w) A (call (.ref 41) [.ref l, .int (x : Int) tx]) Q E s := by
  refine wpAny_call ?_
  k_dflt (refine' enterM (d := 1) S hl ?k6 ?k7 ?k9 ?kB ?c5 ?c2 ?c3 ?c4 ?_; (case k6 => k_is); (case k7 => k_is); (case k9 => exact fun X => kp_binds X (fun _ => rfl)); (case kB => exact locs rfl); (case c5 => decide); (case c2 => exact rfl); (case c3 => exact rfl); (case c4 => exact rfl))
  intro base outer g L' h₁ mean mg mb F N B X T hd hu hA hh
  replace F := fr_knows F [(Str.ofString "a", .ref l), (Str.ofString "x", .int (x : Int) tx), (Str.ofString "lo", .int ((0 : Nat) : Int) 216), (Str.ofString "hi", .none), (Str.ofString "key", .none)] ⟨rfl, rfl, rfl, rfl, rfl, trivial⟩
  show wpAny _ _ _ _ _ _
  k_fold
  repeat (first | (k_unfold; try dsimp only) | ((with_reducible refine ite_pos (by decide) ?_); try dsimp only) | ((with_reducible refine ite_neg (by decide) ?_); try dsimp only) | ((fail_if_success (with_reducible show wpAny _ _ (subscriptTail _ _ _ _) _ _ _)); (fail_if_success (with_reducible show wpAny _ _ (call (Value.ref _) _ _) _ _ _)); (fail_if_success (with_reducible show wpAny _ _ (exec (Stmt.For _ _ _ _ _) _) _ _ _)); (fail_if_success (with_reducible show wpAny _ _ (exec (Stmt.While _ _ _ _) _) _ _ _)); (fail_if_success (with_reducible show wpAny _ _ (pyIter _) _ _ _)); (fail_if_success (with_reducible show wpAny _ _ (eval (PySem.Expr.Lambda _ _ _ _) _) _ _ _)); (fail_if_success (with_reducible show wpAny _ _ (call (Value.type _) _ _) _ _ _)); (fail_if_success (with_reducible show wpAny _ _ (exec (Stmt.Assign _ (PySem.Expr.ListComp _ _ _ _) _) _) _ _ _)); (fail_if_success (with_reducible refine ite_pos ?_ ?_)); walk1; try dsimp only))
  (with_reducible refine bl4N x 0 ?csite ?cl hI hlen so ?_)
  (case csite => exact (site_of B (by assumption) X T hA rfl rfl hd hu hh (by omega)))
  (case cl => exact News.isList N (List.Mem.head _))
  intro r t9 h9 tk9 k9 hB
  have F9 := fr_keep F k9
  have N9 := news_keep N k9
  clear F N
  try dsimp only
  repeat (first | (k_unfold; try dsimp only) | ((with_reducible refine ite_pos (by decide) ?_); try dsimp only) | ((with_reducible refine ite_neg (by decide) ?_); try dsimp only) | ((fail_if_success (with_reducible show wpAny _ _ (subscriptTail _ _ _ _) _ _ _)); (fail_if_success (with_reducible show wpAny _ _ (call (Value.ref _) _ _) _ _ _)); (fail_if_success (with_reducible show wpAny _ _ (exec (Stmt.For _ _ _ _ _) _) _ _ _)); (fail_if_success (with_reducible show wpAny _ _ (exec (Stmt.While _ _ _ _) _) _ _ _)); (fail_if_success (with_reducible show wpAny _ _ (pyIter _) _ _ _)); (fail_if_success (with_reducible show wpAny _ _ (eval (PySem.Expr.Lambda _ _ _ _) _) _ _ _)); (fail_if_success (with_reducible show wpAny _ _ (call (Value.type _) _ _) _ _ _)); (fail_if_success (with_reducible show wpAny _ _ (exec (Stmt.Assign _ (PySem.Expr.ListComp _ _ _ _) _) _) _ _ _)); (fail_if_success (with_reducible refine ite_pos ?_ ?_)); walk1; try dsimp only))
  rename Fr _ _ _ _ => F2
  rename News _ _ _ _ => N2
  have hr : r ≤ ns.length := by have := (hB.2 (by omega)).2.1; omega
  have hvl := casts_length hI
  have e : kl_ins vs.toArray.toList (r : Int) (.int (x : Int) tx) = vs.take r ++ .int (x : Int) tx :: vs.drop r := by
    unfold kl_ins
    rw [if_neg (by omega), Int.toNat_natCast, List.toList_toArray, Nat.min_eq_left (by omega)]
  (with_reducible refine kl_insert F2 N2 ?lf e (Upd.head (List.forall_mem_nil _)) ?lz ?_)
  (case lf => simp [Builtin.List.listFitsIndex]; omega)
  (case lz => rw [List.toList_toArray, hvl, sizeLine_eq]; omega)
  intro h5 F5 N5
  repeat (first | (k_unfold; try dsimp only) | ((with_reducible refine ite_pos (by decide) ?_); try dsimp only) | ((with_reducible refine ite_neg (by decide) ?_); try dsimp only) | ((fail_if_success (with_reducible show wpAny _ _ (subscriptTail _ _ _ _) _ _ _)); (fail_if_success (with_reducible show wpAny _ _ (call (Value.ref _) _ _) _ _ _)); (fail_if_success (with_reducible show wpAny _ _ (exec (Stmt.For _ _ _ _ _) _) _ _ _)); (fail_if_success (with_reducible show wpAny _ _ (exec (Stmt.While _ _ _ _) _) _ _ _)); (fail_if_success (with_reducible show wpAny _ _ (pyIter _) _ _ _)); (fail_if_success (with_reducible show wpAny _ _ (eval (PySem.Expr.Lambda _ _ _ _) _) _ _ _)); (fail_if_success (with_reducible show wpAny _ _ (call (Value.type _) _ _) _ _ _)); (fail_if_success (with_reducible show wpAny _ _ (exec (Stmt.Assign _ (PySem.Expr.ListComp _ _ _ _) _) _) _ _ _)); (fail_if_success (with_reducible refine ite_pos ?_ ?_)); walk1; try dsimp only))
  refine RetM.intro F5 fun k => ?_
  refine hQ r _ _ _ _ hB k (N5 _ (List.Mem.head _)).1 ?_
  have e2 : casts (ns.take r ++ x :: ns.drop r) = (casts ns).take r ++ (x : Int) :: (casts ns).drop r := by
    unfold casts; simp
  rw [e2]
  exact (hI.take r).append (.cons _ _ (hI.drop r))

theorem ins_right {w : World} {A : Around} {s : Shared} {Q E : Value → Shared → Prop} {l : Addr} {vs : List Value} {n : Nat} {ns : List Nat} (x : Nat) {tx : Tok}
    (S : SiteM w 2 A s.heap l) (hl : s.heap.get? l = some (listOf vs.toArray n)) (hI : IntsAre vs (casts ns)) (hlen : ns.length ≤ 1000) (so : Sorted ns)
    (hQ : ∀ (r : Nat) vs' n' h' tk', BR ns x 0 (ns.length : Int) r → (∀ b o, b ≠ l → s.heap.get? b = some o → h'.get? b = some o) → h'.get? l = some (listOf (List.toArray vs') n') → IntsAre vs' (casts (ns.take r ++ x :: ns.drop r)) →
      Q .none { s with heap := h', toks := tk' }) :
    wpAny (model prog w) A (call (.ref 23) [.ref l, .int (x : Int) tx]) Q E s := by
  refine wpAny_call ?_
  k_dflt (refine' enterM (d := 1) S hl ?k6 ?k7 ?k9 ?kB ?c5 ?c2 ?c3 ?c4 ?_; (case k6 => k_is); (case k7 => k_is); (case k9 => exact fun X => kp_binds X (fun _ => rfl)); (case kB => exact locs rfl); (case c5 => decide); (case c2 => exact rfl); (case c3 => exact rfl); (case c4 => exact rfl))
  intro base outer g L' h₁ mean mg mb F N B X T hd hu hA hh
  replace F := fr_knows F [(Str.ofString "a", .ref l), (Str.ofString "x", .int (x : Int) tx), (Str.ofString "lo", .int ((0 : Nat) : Int) 189), (Str.ofString "hi", .none), (Str.ofString "key", .none)] ⟨rfl, rfl, rfl, rfl, rfl, trivial⟩
  show wpAny _ _ _ _ _ _
  k_fold
  repeat (first | (k_unfold; try dsimp only) | ((with_reducible refine ite_pos (by decide) ?_); try dsimp only) | ((with_reducible refine ite_neg (by decide) ?_); try dsimp only) | ((fail_if_success (with_reducible show wpAny _ _ (subscriptTail _ _ _ _) _ _ _)); (fail_if_success (with_reducible show wpAny _ _ (call (Value.ref _) _ _) _ _ _)); (fail_if_success (with_reducible show wpAny _ _ (exec (Stmt.For _ _ _ _ _) _) _ _ _)); (fail_if_success (with_reducible show wpAny _ _ (exec (Stmt.While _ _ _ _) _) _ _ _)); (fail_if_success (with_reducible show wpAny _ _ (pyIter _) _ _ _)); (fail_if_success (with_reducible show wpAny _ _ (eval (PySem.Expr.Lambda _ _ _ _) _) _ _ _)); (fail_if_success (with_reducible show wpAny _ _ (call (Value.type _) _ _) _ _ _)); (fail_if_success (with_reducible show wpAny _ _ (exec (Stmt.Assign _ (PySem.Expr.ListComp _ _ _ _) _) _) _ _ _)); (fail_if_success (with_reducible refine ite_pos ?_ ?_)); walk1; try dsimp only))
  (with_reducible refine br4N x 0 ?csite ?cl hI hlen so ?_)
  (case csite => exact (site_of B (by assumption) X T hA rfl rfl hd hu hh (by omega)))
  (case cl => exact News.isList N (List.Mem.head _))
  intro r t9 h9 tk9 k9 hB
  have F9 := fr_keep F k9
  have N9 := news_keep N k9
  clear F N
  try dsimp only
  repeat (first | (k_unfold; try dsimp only) | ((with_reducible refine ite_pos (by decide) ?_); try dsimp only) | ((with_reducible refine ite_neg (by decide) ?_); try dsimp only) | ((fail_if_success (with_reducible show wpAny _ _ (subscriptTail _ _ _ _) _ _ _)); (fail_if_success (with_reducible show wpAny _ _ (call (Value.ref _) _ _) _ _ _)); (fail_if_success (with_reducible show wpAny _ _ (exec (Stmt.For _ _ _ _ _) _) _ _ _)); (fail_if_success (with_reducible show wpAny _ _ (exec (Stmt.While _ _ _ _) _) _ _ _)); (fail_if_success (with_reducible show wpAny _ _ (pyIter _) _ _ _)); (fail_if_success (with_reducible show wpAny _ _ (eval (PySem.Expr.Lambda _ _ _ _) _) _ _ _)); (fail_if_success (with_reducible show wpAny _ _ (call (Value.type _) _ _) _ _ _)); (fail_if_success (with_reducible show wpAny _ _ (exec (Stmt.Assign _ (PySem.Expr.ListComp _ _ _ _) _) _) _ _ _)); (fail_if_success (with_reducible refine ite_pos ?_ ?_)); walk1; try dsimp only))
  rename Fr _ _ _ _ => F2
  rename News _ _ _ _ => N2
  have hr : r ≤ ns.length := by have := (hB.2 (by omega)).2.1; omega
  have hvl := casts_length hI
  have e : kl_ins vs.toArray.toList (r : Int) (.int (x : Int) tx) = vs.take r ++ .int (x : Int) tx :: vs.drop r := by
    unfold kl_ins
    rw [if_neg (by omega), Int.toNat_natCast, List.toList_toArray, Nat.min_eq_left (by omega)]
  (with_reducible refine kl_insert F2 N2 ?lf e (Upd.head (List.forall_mem_nil _)) ?lz ?_)
  (case lf => simp [Builtin.List.listFitsIndex]; omega)
  (case lz => rw [List.toList_toArray, hvl, sizeLine_eq]; omega)
  intro h5 F5 N5
  repeat (first | (k_unfold; try dsimp only) | ((with_reducible refine ite_pos (by decide) ?_); try dsimp only) | ((with_reducible refine ite_neg (by decide) ?_); try dsimp only) | ((fail_if_success (with_reducible show wpAny _ _ (subscriptTail _ _ _ _) _ _ _)); (fail_if_success (with_reducible show wpAny _ _ (call (Value.ref _) _ _) _ _ _)); (fail_if_success (with_reducible show wpAny _ _ (exec (Stmt.For _ _ _ _ _) _) _ _ _)); (fail_if_success (with_reducible show wpAny _ _ (exec (Stmt.While _ _ _ _) _) _ _ _)); (fail_if_success (with_reducible show wpAny _ _ (pyIter _) _ _ _)); (fail_if_success (with_reducible show wpAny _ _ (eval (PySem.Expr.Lambda _ _ _ _) _) _ _ _)); (fail_if_success (with_reducible show wpAny _ _ (call (Value.type _) _ _) _ _ _)); (fail_if_success (with_reducible show wpAny _ _ (exec (Stmt.Assign _ (PySem.Expr.ListComp _ _ _ _) _) _) _ _ _)); (fail_if_success (with_reducible refine ite_pos ?_ ?_)); walk1; try dsimp only))
  refine RetM.intro F5 fun k => ?_
  refine hQ r _ _ _ _ hB k (N5 _ (List.Mem.head _)).1 ?_
  have e2 : casts (ns.take r ++ x :: ns.drop r) = (casts ns).take r ++ (x : Int) :: (casts ns).drop r := by
    unfold casts; simp
  rw [e2]
  exact (hI.take r).append (.cons _ _ (hI.drop r))

theorem mulN {prog : Program} {w : World} {A : Around} {E : Value → Shared → Prop} {s : Shared} {a b : Int} {t u : Tok} {Q : Value → Shared → Prop} (m n : Nat) (ha : a = (m : Int)) (hb : b = (n : Int)) (hm : m < 2 ^ 64)
    (h : Q (.int ((m * n : Nat) : Int) s.toks) { s with toks := s.toks + 1 }) : wpAny (model prog w) A (binaryOp .Mult (.int a t) (.int b u)) Q E s :=
  PyProof.Rows.mul_int (by subst ha hb; rw [← Int.natCast_mul]; exact h) (IntMulOk.of_left (by subst ha; exact intBits_le_iff.mpr (by simpa using hm)))
theorem fr_but1 {h₀ h h' : Heap} {L r : Addr} {m : Str → Option Value} (F : Fr h₀ L h m) (k : ∀ b o, b ≠ r → h.get? b = some o → h'.get? b = some o) (h1 : r ≠ L) (h2 : h₀.get? r = none) : Fr h₀ L h' m := by
  obtain ⟨⟨oL, a1, a2, hL, a3⟩, k1, k2⟩ := F
  exact ⟨⟨oL, a1, a2, k _ _ (Ne.symm h1) hL, a3⟩, fun b o e => k _ _ (fun q => by rw [q, h2] at e; cases e) (k1 b o e), k2⟩
theorem news_but1 {h₀ h h' : Heap} {L r : Addr} {o : Obj} {news : List (Addr × Obj)} (N : News h₀ L h news) (k : ∀ b o, b ≠ r → h.get? b = some o → h'.get? b = some o) (hr : h'.get? r = some o) (h1 : r ≠ L) (h2 : h₀.get? r = none)
    (rest : List (Addr × Obj)) (sub : ∀ p ∈ rest, p ∈ news) (off : ∀ p ∈ rest, p.1 ≠ r) : News h₀ L h' ((r, o) :: rest) := fun p hp => by
  rcases List.mem_cons.mp hp with rfl | hp
  · exact ⟨hr, h1, h2⟩
  · exact ⟨k _ _ (off p hp) (N p (sub p hp)).1, (N p (sub p hp)).2⟩

/-- how the list stands when x is laid in where bisect says -/
def insAt (ns : List Nat) (r x : Nat) : List Nat := ns.take r ++ x :: ns.drop r
theorem insAt_perm (ns : List Nat) (r x : Nat) : (insAt ns r x).Perm (x :: ns) := by
  unfold insAt
  exact (List.perm_middle).trans (by rw [List.take_append_drop])
theorem sorted_iff (ns : List Nat) : Sorted ns ↔ ns.Pairwise (· ≤ ·) := by
  rw [List.pairwise_iff_getElem]
  constructor
  · intro h i j hi hj hij
    have := h i j (by omega) hj
    rwa [List.getD_eq_getElem?_getD, List.getD_eq_getElem?_getD, List.getElem?_eq_getElem hi, List.getElem?_eq_getElem hj] at this
  · intro h i j hij hj
    rw [List.getD_eq_getElem?_getD, List.getD_eq_getElem?_getD, List.getElem?_eq_getElem (show i < ns.length by omega), List.getElem?_eq_getElem hj]
    by_cases e : i = j
    · subst e; exact Nat.le_refl _
    · exact h i j (by omega) hj (by omega)
theorem insAt_sorted {ns : List Nat} {r x : Nat} (so : Sorted ns) (hr : r ≤ ns.length) (h1 : ∀ i, i < r → ns.getD i 0 ≤ x) (h2 : ∀ i, r ≤ i → i < ns.length → x ≤ ns.getD i 0) : Sorted (insAt ns r x) := by
  have so' := (sorted_iff ns).mp so
  rw [sorted_iff]
  unfold insAt
  rw [List.pairwise_append]
  refine ⟨so'.sublist (List.take_sublist _ _), ?_, ?_⟩
  · rw [List.pairwise_cons]
    refine ⟨fun a ha => ?_, so'.sublist (List.drop_sublist _ _)⟩
    obtain ⟨i, hi, rfl⟩ := List.getElem_of_mem ha
    rw [List.getElem_drop]
    rw [List.length_drop] at hi
    have := h2 (r + i) (by omega) (by omega)
    rwa [List.getD_eq_getElem?_getD, List.getElem?_eq_getElem (by omega)] at this
  · intro a ha b hb
    obtain ⟨i, hi, rfl⟩ := List.getElem_of_mem ha
    rw [List.length_take] at hi
    rw [List.getElem_take]
    have hx := h1 i (by omega)
    rw [List.getD_eq_getElem?_getD, List.getElem?_eq_getElem (show i < ns.length by omega)] at hx
    rcases List.mem_cons.mp hb with rfl | hb
    · exact hx
    · obtain ⟨j, hj, rfl⟩ := List.getElem_of_mem hb
      rw [List.getElem_drop]
      rw [List.length_drop] at hj
      have := h2 (r + j) (by omega) (by omega)
      rw [List.getD_eq_getElem?_getD, List.getElem?_eq_getElem (by omega)] at this
      exact Nat.le_trans hx this
theorem BL.sorted {ns : List Nat} {x r : Nat} (h : BL ns x 0 (ns.length : Int) r) (so : Sorted ns) : Sorted (insAt ns r x) := by
  obtain ⟨a, b, c, d⟩ := h.2 (by omega)
  exact insAt_sorted so (by omega) (fun i hi => Nat.le_of_lt (c i (by omega) hi)) fun i h1 h2 => d i h1 (by omega)
theorem BR.sorted {ns : List Nat} {x r : Nat} (h : BR ns x 0 (ns.length : Int) r) (so : Sorted ns) : Sorted (insAt ns r x) := by
  obtain ⟨a, b, c, d⟩ := h.2 (by omega)
  exact insAt_sorted so (by omega) (fun i hi => c i (by omega) hi) fun i h1 h2 => Nat.le_of_lt (d i h1 (by omega))
/-- the row as the law lays it in, turn by turn -/
def rowAt (common count turn k : Nat) : Nat := times ((5 * k + turn) % count) ^^^ common
def RowInv (common count turn i : Nat) (ns : List Nat) : Prop := Sorted ns ∧ ns.Perm ((List.range i).map (rowAt common count turn))
theorem RowInv.nil (common count turn : Nat) : RowInv common count turn 0 [] := ⟨fun i j _ h => absurd h (by simp), .nil⟩
theorem RowInv.step {common count turn i r : Nat} {ns : List Nat} (h : RowInv common count turn i ns) (so : Sorted (insAt ns r (rowAt common count turn i))) : RowInv common count turn (i + 1) (insAt ns r (rowAt common count turn i)) := by
  refine ⟨so, (insAt_perm _ _ _).trans ?_⟩
  rw [List.range_succ, List.map_append]
  refine (List.Perm.cons _ h.2).trans ?_
  exact (List.perm_append_singleton _ _).symm
theorem RowInv.length {common count turn i : Nat} {ns : List Nat} (h : RowInv common count turn i ns) : ns.length = i := by
  have := h.2.length_eq; simpa using this
def rowL (common count : Nat) : List Nat := (List.range count).map fun u => times u ^^^ common
theorem perm_turn4 : ∀ t < 4, ((List.range 4).map fun j => (5 * j + t) % 4).Perm (List.range 4) := by decide
theorem perm_turn8 : ∀ t < 8, ((List.range 8).map fun j => (5 * j + t) % 8).Perm (List.range 8) := by decide
theorem perm_turn16 : ∀ t < 16, ((List.range 16).map fun j => (5 * j + t) % 16).Perm (List.range 16) := by decide
theorem perm_turn {count : Nat} (hc : count = 4 ∨ count = 8 ∨ count = 16) (turn : Nat) : ((List.range count).map fun j => (5 * j + turn) % count).Perm (List.range count) := by
  have e : ∀ c : Nat, 0 < c → ((List.range c).map fun j => (5 * j + turn) % c) = (List.range c).map fun j => (5 * j + turn % c) % c := fun c hc => List.map_congr_left fun j _ => by rw [Nat.add_mod, Nat.add_mod (5 * j) (turn % c), Nat.mod_mod]
  rcases hc with rfl | rfl | rfl
  · rw [e 4 (by decide)]; exact perm_turn4 _ (Nat.mod_lt _ (by decide))
  · rw [e 8 (by decide)]; exact perm_turn8 _ (Nat.mod_lt _ (by decide))
  · rw [e 16 (by decide)]; exact perm_turn16 _ (Nat.mod_lt _ (by decide))

local macro_rules | `(tactic| walk_at "binaryOp Mult int int") => `(tactic| (k_dflt (refine mulN _ _ (by first | exact rfl | exact Int.natCast_ofNat.symm) (by first | exact rfl | exact Int.natCast_ofNat.symm) (by first | assumption | decide) ?_); try dsimp only))

theorem law_row {w : World} {A : Around} {s : Shared} {Q E : Value → Shared → Prop} (common count turn : Nat) {t1 t2 t3 : Tok} (S : Site w 3 A s.heap) (hc : 0 < count) (hc2 : count ≤ 16)
    (hQ : ∀ l' vs' n' ns h' tk', s.heap.StaysIn h' → s.heap.get? l' = none → h'.get? l' = some (listOf (List.toArray vs') n') → IntsAre vs' (casts ns) → RowInv common count turn count ns → Q (.ref l') { s with heap := h', toks := tk' }) :
    wpAny (model prog w) A (call (.ref 83) [.int (common : Int) t1, .int (count : Int) t2, .int (turn : Int) t3]) Q E s := by
  refine wpAny_call ?_
  k_dflt (refine' enterP (d := 2) S ?k6 ?k7 ?k9 ?kB ?c5 ?c2 ?c3 ?c4 ?_; (case k6 => k_is); (case k7 => k_is); (case k9 => exact BindsTo.of_eq rfl); (case kB => exact locs rfl); (case c5 => decide); (case c2 => exact rfl); (case c3 => exact rfl); (case c4 => exact rfl))
  intro base outer L' h₁ mean mg mb F N B X T hd hu hA hh
  replace F := fr_knows F [(Str.ofString "common", .int (common : Int) t1), (Str.ofString "count", .int (count : Int) t2), (Str.ofString "turn", .int (turn : Int) t3)] ⟨rfl, rfl, rfl, trivial⟩
  show wpAny _ _ _ _ _ _
  k_fold
  repeat (first | (k_unfold; try dsimp only) | ((with_reducible refine ite_pos (by decide) ?_); try dsimp only) | ((with_reducible refine ite_neg (by decide) ?_); try dsimp only) | ((fail_if_success (with_reducible show wpAny _ _ (subscriptTail _ _ _ _) _ _ _)); (fail_if_success (with_reducible show wpAny _ _ (call (Value.ref _) _ _) _ _ _)); (fail_if_success (with_reducible show wpAny _ _ (exec (Stmt.For _ _ _ _ _) _) _ _ _)); (fail_if_success (with_reducible show wpAny _ _ (exec (Stmt.While _ _ _ _) _) _ _ _)); (fail_if_success (with_reducible show wpAny _ _ (pyIter _) _ _ _)); (fail_if_success (with_reducible show wpAny _ _ (eval (PySem.Expr.Lambda _ _ _ _) _) _ _ _)); (fail_if_success (with_reducible show wpAny _ _ (call (Value.type _) _ _) _ _ _)); (fail_if_success (with_reducible show wpAny _ _ (exec (Stmt.Assign _ (PySem.Expr.ListComp _ _ _ _) _) _) _ _ _)); (fail_if_success (with_reducible refine ite_pos ?_ ?_)); walk1; try dsimp only))
  (with_reducible refine For_invV s.heap ?fhx ?fhp ?_ ?fhs ?fhE); (case fhx => exact rfl); (case fhp => exact rfl); (case fhs => intro _; exact rfl); (case fhE => passes_own)
  iterate 6 (walk1; try dsimp only)
  rename News _ _ _ _ => N2
  rename Fr _ _ _ _ => F2
  refine call_range_1 ?_
  dsimp only
  have hsm : Builtin.Range.small 0 (count : Int) 1 = true := small_one (by decide) (by decide) (by omega) (by omega)
  have hrs : Builtin.Range.rangeSize 0 (count : Int) 1 = ((count : Nat) : Int) := by rw [rangeSize_one]; split <;> omega
  refine loopR (n := count) hh (IsRange.new ..) hsm hrs (F2.push _) (fun p hp => ⟨Heap.get?_push_of_some _ (N2 p hp).1, (N2 p hp).2⟩)
    (fun i m nw => ∃ r vs n ns, nw = [(r, listOf (List.toArray vs) n)] ∧ IntsAre vs (casts ns) ∧ RowInv common count turn i ns ∧ Kn m [(Str.ofString "row", .ref r), (Str.ofString "common", .int (common : Int) t1), (Str.ofString "count", .int (count : Int) t2), (Str.ofString "turn", .int (turn : Int) t3)])
    ⟨_, [], _, [], rfl, .nil, RowInv.nil .., rfl, rfl, rfl, rfl, trivial⟩ ?_ ?_
  · rintro i t m₁ news₁ h3 tk own I hi ⟨r, vs, n, ns, rfl, hI, inv, K1⟩ hoff hown F₁ N₁
    have e0 : (0 : Int) + (i : Int) * 1 = ((i : Nat) : Int) := by omega
    rw [e0] at F₁
    simp only [List.cons_append, List.nil_append] at N₁
    have hrI : r ≠ I := hoff _ (List.Mem.head _)
    have hne : ∀ p ∈ own, p.1 ≠ r := fun p hp => by rw [hown p hp]; exact Ne.symm hrI
    have hrL := (N₁ _ (List.Mem.head _)).2.1
    have hr0 := (N₁ _ (List.Mem.head _)).2.2
    have hnl := inv.length
    have so9 : Sorted ns := And.left (show Sorted ns ∧ _ from inv)
    replace F₁ := fr_turn F₁ _ K1
    have hcz : count ≠ 0 := by omega
    have hb9 : (5 * i + turn) % count < 2 ^ 4096 := Nat.lt_of_lt_of_le (Nat.mod_lt _ hc) (Nat.le_trans hc2 (by decide))
    show wpAny _ _ _ _ _ _
    k_fold
    repeat (first | (k_unfold; try dsimp only) | ((with_reducible refine ite_pos (by decide) ?_); try dsimp only) | ((with_reducible refine ite_neg (by decide) ?_); try dsimp only) | ((fail_if_success (with_reducible show wpAny _ _ (subscriptTail _ _ _ _) _ _ _)); (fail_if_success (with_reducible show wpAny _ _ (call (Value.ref _) _ _) _ _ _)); (fail_if_success (with_reducible show wpAny _ _ (exec (Stmt.For _ _ _ _ _) _) _ _ _)); (fail_if_success (with_reducible show wpAny _ _ (exec (Stmt.While _ _ _ _) _) _ _ _)); (fail_if_success (with_reducible show wpAny _ _ (pyIter _) _ _ _)); (fail_if_success (with_reducible show wpAny _ _ (eval (PySem.Expr.Lambda _ _ _ _) _) _ _ _)); (fail_if_success (with_reducible show wpAny _ _ (call (Value.type _) _ _) _ _ _)); (fail_if_success (with_reducible show wpAny _ _ (exec (Stmt.Assign _ (PySem.Expr.ListComp _ _ _ _) _) _) _ _ _)); (fail_if_success (with_reducible refine ite_pos ?_ ?_)); walk1; try dsimp only))
    (with_reducible refine law_times _ _ ?csite hb9 ?_)
    (case csite => exact (site_of B (by assumption) X T hA rfl rfl hd hu hh (by omega)))
    intro t9 h9 tk9 k9; (rename Fr _ _ _ _ => Fx); (rename News _ _ _ _ => Nx); (have F9 := fr_keep Fx k9); (have N9 := news_keep Nx k9); clear Fx Nx; try dsimp only
    repeat (first | (k_unfold; try dsimp only) | ((with_reducible refine ite_pos (by decide) ?_); try dsimp only) | ((with_reducible refine ite_neg (by decide) ?_); try dsimp only) | ((fail_if_success (with_reducible show wpAny _ _ (subscriptTail _ _ _ _) _ _ _)); (fail_if_success (with_reducible show wpAny _ _ (call (Value.ref _) _ _) _ _ _)); (fail_if_success (with_reducible show wpAny _ _ (exec (Stmt.For _ _ _ _ _) _) _ _ _)); (fail_if_success (with_reducible show wpAny _ _ (exec (Stmt.While _ _ _ _) _) _ _ _)); (fail_if_success (with_reducible show wpAny _ _ (pyIter _) _ _ _)); (fail_if_success (with_reducible show wpAny _ _ (eval (PySem.Expr.Lambda _ _ _ _) _) _ _ _)); (fail_if_success (with_reducible show wpAny _ _ (call (Value.type _) _ _) _ _ _)); (fail_if_success (with_reducible show wpAny _ _ (exec (Stmt.Assign _ (PySem.Expr.ListComp _ _ _ _) _) _) _ _ _)); (fail_if_success (with_reducible refine ite_pos ?_ ?_)); walk1; try dsimp only))
    by_cases c2 : i % 2 = 0
    · refine ite_pos (by simp [c2]) ?_
      repeat (first | (k_unfold; try dsimp only) | ((with_reducible refine ite_pos (by decide) ?_); try dsimp only) | ((with_reducible refine ite_neg (by decide) ?_); try dsimp only) | ((fail_if_success (with_reducible show wpAny _ _ (subscriptTail _ _ _ _) _ _ _)); (fail_if_success (with_reducible show wpAny _ _ (call (Value.ref _) _ _) _ _ _)); (fail_if_success (with_reducible show wpAny _ _ (exec (Stmt.For _ _ _ _ _) _) _ _ _)); (fail_if_success (with_reducible show wpAny _ _ (exec (Stmt.While _ _ _ _) _) _ _ _)); (fail_if_success (with_reducible show wpAny _ _ (pyIter _) _ _ _)); (fail_if_success (with_reducible show wpAny _ _ (eval (PySem.Expr.Lambda _ _ _ _) _) _ _ _)); (fail_if_success (with_reducible show wpAny _ _ (call (Value.type _) _ _) _ _ _)); (fail_if_success (with_reducible show wpAny _ _ (exec (Stmt.Assign _ (PySem.Expr.ListComp _ _ _ _) _) _) _ _ _)); (fail_if_success (with_reducible refine ite_pos ?_ ?_)); walk1; try dsimp only))
      (with_reducible refine ins_left (n := n) _ ?csite ?cl hI (by rw [hnl]; omega) so9 ?_)
      (case csite => exact siteM_of B (by assumption) X T hA rfl rfl hd hu hh (by omega) hrL hr0)
      (case cl => exact (News.get (by assumption) (List.Mem.head _)))
      intro r9 vs9 n9 h9 tk9 hB kb hr9 hI9
      rename Fr _ _ _ _ => Fx
      rename News _ _ _ _ => Nx
      have F9 := fr_but1 Fx kb hrL hr0
      have N9 := news_but1 Nx kb hr9 hrL hr0 own (fun p hp => List.Mem.tail _ hp) hne
      clear Fx Nx
      try dsimp only
      repeat (first | (k_unfold; try dsimp only) | ((with_reducible refine ite_pos (by decide) ?_); try dsimp only) | ((with_reducible refine ite_neg (by decide) ?_); try dsimp only) | ((fail_if_success (with_reducible show wpAny _ _ (subscriptTail _ _ _ _) _ _ _)); (fail_if_success (with_reducible show wpAny _ _ (call (Value.ref _) _ _) _ _ _)); (fail_if_success (with_reducible show wpAny _ _ (exec (Stmt.For _ _ _ _ _) _) _ _ _)); (fail_if_success (with_reducible show wpAny _ _ (exec (Stmt.While _ _ _ _) _) _ _ _)); (fail_if_success (with_reducible show wpAny _ _ (pyIter _) _ _ _)); (fail_if_success (with_reducible show wpAny _ _ (eval (PySem.Expr.Lambda _ _ _ _) _) _ _ _)); (fail_if_success (with_reducible show wpAny _ _ (call (Value.type _) _ _) _ _ _)); (fail_if_success (with_reducible show wpAny _ _ (exec (Stmt.Assign _ (PySem.Expr.ListComp _ _ _ _) _) _) _ _ _)); (fail_if_success (with_reducible refine ite_pos ?_ ?_)); walk1; try dsimp only))
      exact TurnEnd.intro [(r, _)] (by assumption) (by assumption) (fun p hp => by rw [List.mem_singleton.mp hp]; exact hrI) ⟨r, _, _, _, rfl, hI9, inv.step (hB.sorted so9), rfl, rfl, rfl, rfl, trivial⟩
    · refine ite_neg (by simp; omega) ?_
      repeat (first | (k_unfold; try dsimp only) | ((with_reducible refine ite_pos (by decide) ?_); try dsimp only) | ((with_reducible refine ite_neg (by decide) ?_); try dsimp only) | ((fail_if_success (with_reducible show wpAny _ _ (subscriptTail _ _ _ _) _ _ _)); (fail_if_success (with_reducible show wpAny _ _ (call (Value.ref _) _ _) _ _ _)); (fail_if_success (with_reducible show wpAny _ _ (exec (Stmt.For _ _ _ _ _) _) _ _ _)); (fail_if_success (with_reducible show wpAny _ _ (exec (Stmt.While _ _ _ _) _) _ _ _)); (fail_if_success (with_reducible show wpAny _ _ (pyIter _) _ _ _)); (fail_if_success (with_reducible show wpAny _ _ (eval (PySem.Expr.Lambda _ _ _ _) _) _ _ _)); (fail_if_success (with_reducible show wpAny _ _ (call (Value.type _) _ _) _ _ _)); (fail_if_success (with_reducible show wpAny _ _ (exec (Stmt.Assign _ (PySem.Expr.ListComp _ _ _ _) _) _) _ _ _)); (fail_if_success (with_reducible refine ite_pos ?_ ?_)); walk1; try dsimp only))
      (with_reducible refine ins_right (n := n) _ ?csite ?cl hI (by rw [hnl]; omega) so9 ?_)
      (case csite => exact siteM_of B (by assumption) X T hA rfl rfl hd hu hh (by omega) hrL hr0)
      (case cl => exact (News.get (by assumption) (List.Mem.head _)))
      intro r9 vs9 n9 h9 tk9 hB kb hr9 hI9
      rename Fr _ _ _ _ => Fx
      rename News _ _ _ _ => Nx
      have F9 := fr_but1 Fx kb hrL hr0
      have N9 := news_but1 Nx kb hr9 hrL hr0 own (fun p hp => List.Mem.tail _ hp) hne
      clear Fx Nx
      try dsimp only
      repeat (first | (k_unfold; try dsimp only) | ((with_reducible refine ite_pos (by decide) ?_); try dsimp only) | ((with_reducible refine ite_neg (by decide) ?_); try dsimp only) | ((fail_if_success (with_reducible show wpAny _ _ (subscriptTail _ _ _ _) _ _ _)); (fail_if_success (with_reducible show wpAny _ _ (call (Value.ref _) _ _) _ _ _)); (fail_if_success (with_reducible show wpAny _ _ (exec (Stmt.For _ _ _ _ _) _) _ _ _)); (fail_if_success (with_reducible show wpAny _ _ (exec (Stmt.While _ _ _ _) _) _ _ _)); (fail_if_success (with_reducible show wpAny _ _ (pyIter _) _ _ _)); (fail_if_success (with_reducible show wpAny _ _ (eval (PySem.Expr.Lambda _ _ _ _) _) _ _ _)); (fail_if_success (with_reducible show wpAny _ _ (call (Value.type _) _ _) _ _ _)); (fail_if_success (with_reducible show wpAny _ _ (exec (Stmt.Assign _ (PySem.Expr.ListComp _ _ _ _) _) _) _ _ _)); (fail_if_success (with_reducible refine ite_pos ?_ ?_)); walk1; try dsimp only))
      exact TurnEnd.intro [(r, _)] (by assumption) (by assumption) (fun p hp => by rw [List.mem_singleton.mp hp]; exact hrI) ⟨r, _, _, _, rfl, hI9, inv.step (hB.sorted so9), rfl, rfl, rfl, rfl, trivial⟩
  · rintro m₁ news₁ h3 tk ⟨r, vs, n, ns, rfl, hI, inv, K1⟩ F₁ N₁
    replace F₁ := fr_knows F₁ _ K1
    repeat (first | (k_unfold; try dsimp only) | ((with_reducible refine ite_pos (by decide) ?_); try dsimp only) | ((with_reducible refine ite_neg (by decide) ?_); try dsimp only) | ((fail_if_success (with_reducible show wpAny _ _ (subscriptTail _ _ _ _) _ _ _)); (fail_if_success (with_reducible show wpAny _ _ (call (Value.ref _) _ _) _ _ _)); (fail_if_success (with_reducible show wpAny _ _ (exec (Stmt.For _ _ _ _ _) _) _ _ _)); (fail_if_success (with_reducible show wpAny _ _ (exec (Stmt.While _ _ _ _) _) _ _ _)); (fail_if_success (with_reducible show wpAny _ _ (pyIter _) _ _ _)); (fail_if_success (with_reducible show wpAny _ _ (eval (PySem.Expr.Lambda _ _ _ _) _) _ _ _)); (fail_if_success (with_reducible show wpAny _ _ (call (Value.type _) _ _) _ _ _)); (fail_if_success (with_reducible show wpAny _ _ (exec (Stmt.Assign _ (PySem.Expr.ListComp _ _ _ _) _) _) _ _ _)); (fail_if_success (with_reducible refine ite_pos ?_ ?_)); walk1; try dsimp only))
    exact RetP.intro (by assumption) fun k => by exact hQ r vs n ns _ _ k (N₁ _ (List.Mem.head _)).2.2 (N₁ _ (List.Mem.head _)).1 hI inv

def placeL (lows : List Nat) (s : Nat) : Nat := if lows.getD (s >>> 32) 0 < s % 2 ^ 32 then s >>> 32 + 1 else s >>> 32
def placeR (lows : List Nat) (s : Nat) : Nat := if lows.getD (s >>> 32) 0 ≤ s % 2 ^ 32 then s >>> 32 + 1 else s >>> 32

theorem law_places {w : World} {A : Around} {s : Shared} {Q E : Value → Shared → Prop} {l : Addr} {vs : List Value} {lows : List Nat} (x : Nat) {tx : Tok} (S : Site w 1 A s.heap) (hl : s.heap.IsList l vs.toArray) (hI : IntsAre vs (casts lows)) (hlen : lows.length ≤ 1000) (hx : x >>> 32 < lows.length)
    (hQ : ∀ l' vs' n' h' tk', s.heap.StaysIn h' → s.heap.get? l' = none → h'.get? l' = some (listOf (List.toArray vs') n') → IntsAre vs' (casts [placeL lows x, placeR lows x]) → Q (.ref l') { s with heap := h', toks := tk' }) :
    wpAny (model prog w) A (call (.ref 102) [.int (x : Int) tx, .ref l]) Q E s := by
  refine wpAny_call ?_
  k_dflt (refine' enterP (d := 0) S ?k6 ?k7 ?k9 ?kB ?c5 ?c2 ?c3 ?c4 ?_; (case k6 => k_is); (case k7 => k_is); (case k9 => exact BindsTo.of_eq rfl); (case kB => exact locs rfl); (case c5 => decide); (case c2 => exact rfl); (case c3 => exact rfl); (case c4 => exact rfl))
  intro base outer L' h₁ mean mg mb F N B X T hd hu hA hh
  replace F := fr_knows F [(Str.ofString "sought", .int (x : Int) tx), (Str.ofString "lowers", .ref l)] ⟨rfl, rfl, trivial⟩
  show wpAny _ _ _ _ _ _
  k_fold
  repeat (first | (k_unfold; try dsimp only) | ((with_reducible refine ite_pos (by decide) ?_); try dsimp only) | ((with_reducible refine ite_neg (by decide) ?_); try dsimp only) | ((fail_if_success (with_reducible show wpAny _ _ (subscriptTail _ _ _ _) _ _ _)); (fail_if_success (with_reducible show wpAny _ _ (call (Value.ref _) _ _) _ _ _)); (fail_if_success (with_reducible show wpAny _ _ (exec (Stmt.For _ _ _ _ _) _) _ _ _)); (fail_if_success (with_reducible show wpAny _ _ (exec (Stmt.While _ _ _ _) _) _ _ _)); (fail_if_success (with_reducible show wpAny _ _ (pyIter _) _ _ _)); (fail_if_success (with_reducible show wpAny _ _ (eval (PySem.Expr.Lambda _ _ _ _) _) _ _ _)); (fail_if_success (with_reducible show wpAny _ _ (call (Value.type _) _ _) _ _ _)); (fail_if_success (with_reducible show wpAny _ _ (exec (Stmt.Assign _ (PySem.Expr.ListComp _ _ _ _) _) _) _ _ _)); (fail_if_success (with_reducible refine ite_pos ?_ ?_)); walk1; try dsimp only))
  refine subAt (hl.at fun o e => Fr.keep (by assumption) _ _ e) hI _ rfl hx hlen (fun t5 => ?_)
  repeat (first | (k_unfold; try dsimp only) | ((with_reducible refine ite_pos (by decide) ?_); try dsimp only) | ((with_reducible refine ite_neg (by decide) ?_); try dsimp only) | ((fail_if_success (with_reducible show wpAny _ _ (subscriptTail _ _ _ _) _ _ _)); (fail_if_success (with_reducible show wpAny _ _ (call (Value.ref _) _ _) _ _ _)); (fail_if_success (with_reducible show wpAny _ _ (exec (Stmt.For _ _ _ _ _) _) _ _ _)); (fail_if_success (with_reducible show wpAny _ _ (exec (Stmt.While _ _ _ _) _) _ _ _)); (fail_if_success (with_reducible show wpAny _ _ (pyIter _) _ _ _)); (fail_if_success (with_reducible show wpAny _ _ (eval (PySem.Expr.Lambda _ _ _ _) _) _ _ _)); (fail_if_success (with_reducible show wpAny _ _ (call (Value.type _) _ _) _ _ _)); (fail_if_success (with_reducible show wpAny _ _ (exec (Stmt.Assign _ (PySem.Expr.ListComp _ _ _ _) _) _) _ _ _)); (fail_if_success (with_reducible refine ite_pos ?_ ?_)); walk1; try dsimp only))
  by_cases c1 : lows.getD (x >>> 32) 0 < x % 2 ^ 32
  · refine ite_pos (decide_eq_true (Int.ofNat_lt.mpr c1)) ?_
    repeat (first | (k_unfold; try dsimp only) | ((with_reducible refine ite_pos (by decide) ?_); try dsimp only) | ((with_reducible refine ite_neg (by decide) ?_); try dsimp only) | ((fail_if_success (with_reducible show wpAny _ _ (subscriptTail _ _ _ _) _ _ _)); (fail_if_success (with_reducible show wpAny _ _ (call (Value.ref _) _ _) _ _ _)); (fail_if_success (with_reducible show wpAny _ _ (exec (Stmt.For _ _ _ _ _) _) _ _ _)); (fail_if_success (with_reducible show wpAny _ _ (exec (Stmt.While _ _ _ _) _) _ _ _)); (fail_if_success (with_reducible show wpAny _ _ (pyIter _) _ _ _)); (fail_if_success (with_reducible show wpAny _ _ (eval (PySem.Expr.Lambda _ _ _ _) _) _ _ _)); (fail_if_success (with_reducible show wpAny _ _ (call (Value.type _) _ _) _ _ _)); (fail_if_success (with_reducible show wpAny _ _ (exec (Stmt.Assign _ (PySem.Expr.ListComp _ _ _ _) _) _) _ _ _)); (fail_if_success (with_reducible refine ite_pos ?_ ?_)); walk1; try dsimp only))
    refine subAt (hl.at fun o e => Fr.keep (by assumption) _ _ e) hI _ rfl hx hlen (fun t6 => ?_)
    repeat (first | (k_unfold; try dsimp only) | ((with_reducible refine ite_pos (by decide) ?_); try dsimp only) | ((with_reducible refine ite_neg (by decide) ?_); try dsimp only) | ((fail_if_success (with_reducible show wpAny _ _ (subscriptTail _ _ _ _) _ _ _)); (fail_if_success (with_reducible show wpAny _ _ (call (Value.ref _) _ _) _ _ _)); (fail_if_success (with_reducible show wpAny _ _ (exec (Stmt.For _ _ _ _ _) _) _ _ _)); (fail_if_success (with_reducible show wpAny _ _ (exec (Stmt.While _ _ _ _) _) _ _ _)); (fail_if_success (with_reducible show wpAny _ _ (pyIter _) _ _ _)); (fail_if_success (with_reducible show wpAny _ _ (eval (PySem.Expr.Lambda _ _ _ _) _) _ _ _)); (fail_if_success (with_reducible show wpAny _ _ (call (Value.type _) _ _) _ _ _)); (fail_if_success (with_reducible show wpAny _ _ (exec (Stmt.Assign _ (PySem.Expr.ListComp _ _ _ _) _) _) _ _ _)); (fail_if_success (with_reducible refine ite_pos ?_ ?_)); walk1; try dsimp only))
    by_cases c2 : lows.getD (x >>> 32) 0 ≤ x % 2 ^ 32
    · refine ite_pos (decide_eq_true (Int.ofNat_le.mpr c2)) ?_
      repeat (first | (k_unfold; try dsimp only) | ((with_reducible refine ite_pos (by decide) ?_); try dsimp only) | ((with_reducible refine ite_neg (by decide) ?_); try dsimp only) | ((fail_if_success (with_reducible show wpAny _ _ (subscriptTail _ _ _ _) _ _ _)); (fail_if_success (with_reducible show wpAny _ _ (call (Value.ref _) _ _) _ _ _)); (fail_if_success (with_reducible show wpAny _ _ (exec (Stmt.For _ _ _ _ _) _) _ _ _)); (fail_if_success (with_reducible show wpAny _ _ (exec (Stmt.While _ _ _ _) _) _ _ _)); (fail_if_success (with_reducible show wpAny _ _ (pyIter _) _ _ _)); (fail_if_success (with_reducible show wpAny _ _ (eval (PySem.Expr.Lambda _ _ _ _) _) _ _ _)); (fail_if_success (with_reducible show wpAny _ _ (call (Value.type _) _ _) _ _ _)); (fail_if_success (with_reducible show wpAny _ _ (exec (Stmt.Assign _ (PySem.Expr.ListComp _ _ _ _) _) _) _ _ _)); (fail_if_success (with_reducible refine ite_pos ?_ ?_)); walk1; try dsimp only))
      rename News _ _ _ _ => N5
      exact RetP.intro (by assumption) fun k => by exact hQ _ _ _ _ _ k (N5 _ (List.Mem.head _)).2.2 (N5 _ (List.Mem.head _)).1 (by rw [placeL, if_pos c1, placeR, if_pos c2]; exact .cons _ _ (.cons _ _ .nil))
    · refine ite_neg (by rw [decide_eq_true_eq]; exact fun q => c2 (Int.ofNat_le.mp q)) ?_
      repeat (first | (k_unfold; try dsimp only) | ((with_reducible refine ite_pos (by decide) ?_); try dsimp only) | ((with_reducible refine ite_neg (by decide) ?_); try dsimp only) | ((fail_if_success (with_reducible show wpAny _ _ (subscriptTail _ _ _ _) _ _ _)); (fail_if_success (with_reducible show wpAny _ _ (call (Value.ref _) _ _) _ _ _)); (fail_if_success (with_reducible show wpAny _ _ (exec (Stmt.For _ _ _ _ _) _) _ _ _)); (fail_if_success (with_reducible show wpAny _ _ (exec (Stmt.While _ _ _ _) _) _ _ _)); (fail_if_success (with_reducible show wpAny _ _ (pyIter _) _ _ _)); (fail_if_success (with_reducible show wpAny _ _ (eval (PySem.Expr.Lambda _ _ _ _) _) _ _ _)); (fail_if_success (with_reducible show wpAny _ _ (call (Value.type _) _ _) _ _ _)); (fail_if_success (with_reducible show wpAny _ _ (exec (Stmt.Assign _ (PySem.Expr.ListComp _ _ _ _) _) _) _ _ _)); (fail_if_success (with_reducible refine ite_pos ?_ ?_)); walk1; try dsimp only))
      rename News _ _ _ _ => N5
      exact RetP.intro (by assumption) fun k => by exact hQ _ _ _ _ _ k (N5 _ (List.Mem.head _)).2.2 (N5 _ (List.Mem.head _)).1 (by rw [placeL, if_pos c1, placeR, if_neg c2]; exact .cons _ _ (.cons _ _ .nil))
  · refine ite_neg (by rw [decide_eq_true_eq]; exact fun q => c1 (Int.ofNat_lt.mp q)) ?_
    repeat (first | (k_unfold; try dsimp only) | ((with_reducible refine ite_pos (by decide) ?_); try dsimp only) | ((with_reducible refine ite_neg (by decide) ?_); try dsimp only) | ((fail_if_success (with_reducible show wpAny _ _ (subscriptTail _ _ _ _) _ _ _)); (fail_if_success (with_reducible show wpAny _ _ (call (Value.ref _) _ _) _ _ _)); (fail_if_success (with_reducible show wpAny _ _ (exec (Stmt.For _ _ _ _ _) _) _ _ _)); (fail_if_success (with_reducible show wpAny _ _ (exec (Stmt.While _ _ _ _) _) _ _ _)); (fail_if_success (with_reducible show wpAny _ _ (pyIter _) _ _ _)); (fail_if_success (with_reducible show wpAny _ _ (eval (PySem.Expr.Lambda _ _ _ _) _) _ _ _)); (fail_if_success (with_reducible show wpAny _ _ (call (Value.type _) _ _) _ _ _)); (fail_if_success (with_reducible show wpAny _ _ (exec (Stmt.Assign _ (PySem.Expr.ListComp _ _ _ _) _) _) _ _ _)); (fail_if_success (with_reducible refine ite_pos ?_ ?_)); walk1; try dsimp only))
    refine subAt (hl.at fun o e => Fr.keep (by assumption) _ _ e) hI _ rfl hx hlen (fun t6 => ?_)
    repeat (first | (k_unfold; try dsimp only) | ((with_reducible refine ite_pos (by decide) ?_); try dsimp only) | ((with_reducible refine ite_neg (by decide) ?_); try dsimp only) | ((fail_if_success (with_reducible show wpAny _ _ (subscriptTail _ _ _ _) _ _ _)); (fail_if_success (with_reducible show wpAny _ _ (call (Value.ref _) _ _) _ _ _)); (fail_if_success (with_reducible show wpAny _ _ (exec (Stmt.For _ _ _ _ _) _) _ _ _)); (fail_if_success (with_reducible show wpAny _ _ (exec (Stmt.While _ _ _ _) _) _ _ _)); (fail_if_success (with_reducible show wpAny _ _ (pyIter _) _ _ _)); (fail_if_success (with_reducible show wpAny _ _ (eval (PySem.Expr.Lambda _ _ _ _) _) _ _ _)); (fail_if_success (with_reducible show wpAny _ _ (call (Value.type _) _ _) _ _ _)); (fail_if_success (with_reducible show wpAny _ _ (exec (Stmt.Assign _ (PySem.Expr.ListComp _ _ _ _) _) _) _ _ _)); (fail_if_success (with_reducible refine ite_pos ?_ ?_)); walk1; try dsimp only))
    by_cases c2 : lows.getD (x >>> 32) 0 ≤ x % 2 ^ 32
    · refine ite_pos (decide_eq_true (Int.ofNat_le.mpr c2)) ?_
      repeat (first | (k_unfold; try dsimp only) | ((with_reducible refine ite_pos (by decide) ?_); try dsimp only) | ((with_reducible refine ite_neg (by decide) ?_); try dsimp only) | ((fail_if_success (with_reducible show wpAny _ _ (subscriptTail _ _ _ _) _ _ _)); (fail_if_success (with_reducible show wpAny _ _ (call (Value.ref _) _ _) _ _ _)); (fail_if_success (with_reducible show wpAny _ _ (exec (Stmt.For _ _ _ _ _) _) _ _ _)); (fail_if_success (with_reducible show wpAny _ _ (exec (Stmt.While _ _ _ _) _) _ _ _)); (fail_if_success (with_reducible show wpAny _ _ (pyIter _) _ _ _)); (fail_if_success (with_reducible show wpAny _ _ (eval (PySem.Expr.Lambda _ _ _ _) _) _ _ _)); (fail_if_success (with_reducible show wpAny _ _ (call (Value.type _) _ _) _ _ _)); (fail_if_success (with_reducible show wpAny _ _ (exec (Stmt.Assign _ (PySem.Expr.ListComp _ _ _ _) _) _) _ _ _)); (fail_if_success (with_reducible refine ite_pos ?_ ?_)); walk1; try dsimp only))
      rename News _ _ _ _ => N5
      exact RetP.intro (by assumption) fun k => by exact hQ _ _ _ _ _ k (N5 _ (List.Mem.head _)).2.2 (N5 _ (List.Mem.head _)).1 (by rw [placeL, if_neg c1, placeR, if_pos c2]; exact .cons _ _ (.cons _ _ .nil))
    · refine ite_neg (by rw [decide_eq_true_eq]; exact fun q => c2 (Int.ofNat_le.mp q)) ?_
      repeat (first | (k_unfold; try dsimp only) | ((with_reducible refine ite_pos (by decide) ?_); try dsimp only) | ((with_reducible refine ite_neg (by decide) ?_); try dsimp only) | ((fail_if_success (with_reducible show wpAny _ _ (subscriptTail _ _ _ _) _ _ _)); (fail_if_success (with_reducible show wpAny _ _ (call (Value.ref _) _ _) _ _ _)); (fail_if_success (with_reducible show wpAny _ _ (exec (Stmt.For _ _ _ _ _) _) _ _ _)); (fail_if_success (with_reducible show wpAny _ _ (exec (Stmt.While _ _ _ _) _) _ _ _)); (fail_if_success (with_reducible show wpAny _ _ (pyIter _) _ _ _)); (fail_if_success (with_reducible show wpAny _ _ (eval (PySem.Expr.Lambda _ _ _ _) _) _ _ _)); (fail_if_success (with_reducible show wpAny _ _ (call (Value.type _) _ _) _ _ _)); (fail_if_success (with_reducible show wpAny _ _ (exec (Stmt.Assign _ (PySem.Expr.ListComp _ _ _ _) _) _) _ _ _)); (fail_if_success (with_reducible refine ite_pos ?_ ?_)); walk1; try dsimp only))
      rename News _ _ _ _ => N5
      exact RetP.intro (by assumption) fun k => by exact hQ _ _ _ _ _ k (N5 _ (List.Mem.head _)).2.2 (N5 _ (List.Mem.head _)).1 (by rw [placeL, if_neg c1, placeR, if_neg c2]; exact .cons _ _ (.cons _ _ .nil))

def soughtOf (rest octet at' width : Nat) : Nat := (rest <<< width) ^^^ (turned (octet >>> at') width <<< 32)
abbrev WSt := Nat × Nat × List (Nat × Nat × Nat)
def stepW (lows : List Nat) (octet size at' : Nat) (st : WSt) : WSt :=
  let sg := soughtOf st.1 octet at' (min size (8 - at'))
  (sg ^^^ times (sg >>> 32), (st.2.1 <<< min size (8 - at')) ||| (sg >>> 32), st.2.2 ++ [(sg, placeL lows sg, placeR lows sg)])
def innerW (lows : List Nat) (octet size : Nat) : Nat → WSt → WSt
  | 0, st => st
  | n + 1, st => stepW lows octet size (n * size) (innerW lows octet size n st)

theorem upper_xor (a b : Nat) : (a ^^^ b) >>> 32 = (a >>> 32) ^^^ (b >>> 32) := Nat.shiftRight_xor_distrib ..
theorem shr_of_lt {a k : Nat} (h : a < 2 ^ k) : a >>> k = 0 := by rw [Nat.shiftRight_eq_div_pow]; exact Nat.div_eq_of_lt h
theorem times_upper : ∀ u < 16, times u >>> 32 = u := by decide
theorem times_zero : times 0 = 0 := by decide
/-- the row's numbers, by their upper parts -/
structure RowOk (common count : Nat) (ns lows : List Nat) : Prop where
  cnt : count = 4 ∨ count = 8 ∨ count = 16
  com : common < 2 ^ 32
  len : ns.length = count
  at' : ∀ u, u < count → ns.getD u 0 = times u ^^^ common
  llen : lows.length = count
  low : ∀ u, u < count → lows.getD u 0 < 2 ^ 32 ∧ (u <<< 32 ||| lows.getD u 0) = ns.getD u 0
namespace RowOk
variable {common count : Nat} {ns lows : List Nat} (R : RowOk common count ns lows)
include R
theorem le16 : count ≤ 16 := by have := R.cnt; omega
theorem pos : 0 < count := by have := R.cnt; omega
theorem sum {u : Nat} (h : u < count) : ns.getD u 0 = u * 4294967296 + lows.getD u 0 := by
  obtain ⟨a, b⟩ := R.low u h
  rw [← b, ← Nat.shiftLeft_add_eq_or_of_lt a, Nat.shiftLeft_eq]
theorem sorted : Sorted ns := by
  intro i j hij hj
  rw [R.len] at hj
  by_cases e : i = j
  · subst e; exact Nat.le_refl _
  · have h1 := (R.low i (by omega)).1
    have h2 := R.sum (u := i) (by omega)
    have h3 := R.sum hj
    have e : (2 : Nat) ^ 32 = 4294967296 := by decide
    rw [e] at h1
    omega
theorem left_eq {x r : Nat} (hu : x >>> 32 < count) (h : BL ns x 0 (ns.length : Int) r) : r = placeL lows x := by
  obtain ⟨_, a, b, c⟩ := h.2 (by omega)
  rw [R.len] at a c
  have e : (2 : Nat) ^ 32 = 4294967296 := by decide
  have hx : x >>> 32 = x / 4294967296 := by rw [Nat.shiftRight_eq_div_pow, e]
  have hl := (R.low _ hu).1
  have hs := R.sum hu
  unfold placeL
  rw [e] at hl ⊢
  rw [hx] at hu hl hs ⊢
  generalize hq : x / 4294967296 = u at *
  have hlow : ¬ r < u := fun q => by
    have h1 := c r (Nat.le_refl _) (by omega)
    have h2 := R.sum (u := r) (by omega)
    have h3 := (R.low r (by omega)).1
    rw [e] at h3
    omega
  have hup : ¬ u + 1 < r := fun q => by
    have h1 := b (u + 1) (by omega) q
    have h2 := R.sum (u := u + 1) (by omega)
    omega
  split
  · rename_i q
    have : r ≠ u := fun z => by
      have := c u (by omega) (by omega)
      omega
    omega
  · rename_i q
    have : r ≠ u + 1 := fun z => by
      have := b u (by omega) (by omega)
      omega
    omega
theorem right_eq {x r : Nat} (hu : x >>> 32 < count) (h : BR ns x 0 (ns.length : Int) r) : r = placeR lows x := by
  obtain ⟨_, a, b, c⟩ := h.2 (by omega)
  rw [R.len] at a c
  have e : (2 : Nat) ^ 32 = 4294967296 := by decide
  have hx : x >>> 32 = x / 4294967296 := by rw [Nat.shiftRight_eq_div_pow, e]
  have hl := (R.low _ hu).1
  have hs := R.sum hu
  unfold placeR
  rw [e] at hl ⊢
  rw [hx] at hu hl hs ⊢
  generalize hq : x / 4294967296 = u at *
  have hlow : ¬ r < u := fun q => by
    have h1 := c r (Nat.le_refl _) (by omega)
    have h2 := R.sum (u := r) (by omega)
    have h3 := (R.low r (by omega)).1
    rw [e] at h3
    omega
  have hup : ¬ u + 1 < r := fun q => by
    have h1 := b (u + 1) (by omega) q
    have h2 := R.sum (u := u + 1) (by omega)
    omega
  split
  · rename_i q
    have : r ≠ u := fun z => by
      have := c u (by omega) (by omega)
      omega
    omega
  · rename_i q
    have : r ≠ u + 1 := fun z => by
      have := b u (by omega) (by omega)
      omega
    omega
/-- the neighbours: not none, and the nearest has the sought number's upper part -/
theorem near_ne {x l a b : Nat} (hu : x >>> 32 < count) (hl : BL ns x 0 (ns.length : Int) l) (ha : BL ns x 0 ((l : Int) - 1) a) (hb : BR ns x (l + 1) (ns.length : Int) b) :
    a ≤ x >>> 32 ∧ x >>> 32 < b := by
  have e1 := R.left_eq hu hl
  obtain ⟨_, l1, _, _⟩ := hl.2 (by omega)
  have hl2 : l = x >>> 32 ∨ l = x >>> 32 + 1 := by
    rw [e1]; unfold placeL; split <;> omega
  have ha' : a ≤ x >>> 32 := by
    by_cases q : (0 : Int) ≤ (l : Int) - 1
    · have := (ha.2 q).2.1; omega
    · have := ha.1 (by omega); omega
  have hb' : x >>> 32 < b := by
    by_cases q : ((l + 1 : Nat) : Int) ≤ (ns.length : Int)
    · have := (hb.2 q).1; omega
    · have := hb.1 (by omega); omega
  exact ⟨ha', hb'⟩
theorem near_min {x l a b M : Nat} (hu : x >>> 32 < count) (hl : BL ns x 0 (ns.length : Int) l) (ha : BL ns x 0 ((l : Int) - 1) a) (hb : BR ns x (l + 1) (ns.length : Int) b)
    (hM : M ∈ ((ns.take b).drop a).map fun y => x ^^^ y) (hmin : ∀ y ∈ ((ns.take b).drop a).map fun y => x ^^^ y, M ≤ y) : common ^^^ M = x ^^^ times (x >>> 32) := by
  obtain ⟨h1, h2⟩ := R.near_ne hu hl ha hb
  have e : (2 : Nat) ^ 32 = 4294967296 := by decide
  have mine : x ^^^ ns.getD (x >>> 32) 0 ∈ ((ns.take b).drop a).map fun y => x ^^^ y := by
    refine List.mem_map.mpr ⟨_, ?_, rfl⟩
    refine List.mem_of_getElem? (i := x >>> 32 - a) ?_
    rw [List.getElem?_drop, List.getElem?_take, if_pos (by omega), show a + (x >>> 32 - a) = x >>> 32 by omega, List.getD_eq_getElem?_getD, List.getElem?_eq_getElem (by rw [R.len]; exact hu)]
    rfl
  have up : ∀ v, v < count → (x ^^^ ns.getD v 0) >>> 32 = (x >>> 32) ^^^ v := fun v hv => by
    rw [upper_xor, R.at' v hv, upper_xor, times_upper v (by have := R.le16; omega), shr_of_lt R.com, Nat.xor_zero]
  have small : x ^^^ ns.getD (x >>> 32) 0 < 2 ^ 32 := by
    have := up _ hu
    rw [Nat.xor_self, Nat.shiftRight_eq_div_pow] at this
    exact (Nat.div_eq_zero_iff_lt (by decide)).mp this
  obtain ⟨y, hy, rfl⟩ := List.mem_map.mp hM
  obtain ⟨i, hi, rfl⟩ := List.getElem_of_mem hy
  rw [List.getElem_drop, List.getElem_take]
  rw [List.length_drop, List.length_take] at hi
  have hv : a + i < count := by rw [← R.len]; omega
  have le := hmin _ mine
  rw [List.getElem_drop, List.getElem_take] at le
  have g : ns[a + i]'(by rw [R.len]; exact hv) = ns.getD (a + i) 0 := by
    rw [List.getD_eq_getElem?_getD, List.getElem?_eq_getElem (by rw [R.len]; exact hv)]; rfl
  rw [g] at le ⊢
  have z : (x ^^^ ns.getD (a + i) 0) >>> 32 = 0 := by
    rw [Nat.shiftRight_eq_div_pow]; exact Nat.div_eq_of_lt (by omega)
  rw [up _ hv] at z
  have ev : a + i = x >>> 32 := by
    have : (x >>> 32 ^^^ (a + i)) ^^^ (a + i) = 0 ^^^ (a + i) := by rw [z]
    rw [Nat.xor_assoc, Nat.xor_self, Nat.xor_zero, Nat.zero_xor] at this
    exact this.symm
  rw [ev, R.at' _ hu, Nat.xor_comm common, Nat.xor_assoc, Nat.xor_assoc, Nat.xor_self, Nat.xor_zero]
end RowOk
theorem turned_shl_lt {n k w : Nat} (h : k ≤ w) : turned n k <<< 32 < 2 ^ (32 + w) := by
  rw [Nat.shiftLeft_eq, Nat.pow_add, Nat.mul_comm]
  exact Nat.mul_lt_mul_of_pos_left (Nat.lt_of_lt_of_le (turned_lt k n) (Nat.pow_le_pow_right (by decide) h)) (by decide)
theorem soughtOf_lt {rest octet at' k w : Nat} (hr : rest < 2 ^ 32) (h : k ≤ w) : soughtOf rest octet at' k < 2 ^ (32 + w) := by
  unfold soughtOf
  refine Nat.xor_lt_two_pow ?_ (turned_shl_lt h)
  rw [Nat.shiftLeft_eq, Nat.pow_add]
  exact Nat.lt_of_lt_of_le (Nat.mul_lt_mul_of_pos_right hr (Nat.two_pow_pos _)) (Nat.mul_le_mul_left _ (Nat.pow_le_pow_right (by decide) h))
theorem sought_upper {rest octet at' k w : Nat} (hr : rest < 2 ^ 32) (h : k ≤ w) : soughtOf rest octet at' k >>> 32 < 2 ^ w := by
  rw [Nat.shiftRight_eq_div_pow, Nat.div_lt_iff_lt_mul (by decide), ← Nat.pow_add, Nat.add_comm]
  exact soughtOf_lt hr h
theorem rest_lt {x : Nat} (h : x >>> 32 < 16) : x ^^^ times (x >>> 32) < 2 ^ 32 := by
  have : (x ^^^ times (x >>> 32)) >>> 32 = 0 := by rw [upper_xor, times_upper _ h, Nat.xor_self]
  rw [Nat.shiftRight_eq_div_pow] at this
  exact (Nat.div_eq_zero_iff_lt (by decide)).mp this

theorem callWith_F {M : Model} {A : Around} {E : Value → Shared → Prop} {s : Shared} {env : Env} {pos : Pos} {first : List Value} {Q : Value → Shared → Prop} {f : Addr} {fo : Obj} {fd : FuncData} {e : PySem.Expr} {rest : List PySem.Expr} (hfd : fo.data = .func fd)
    (h : wpAny M A (spliced (backTo pos (starEach (e :: rest) env))) (fun vs s₁ => s₁.heap.get? f = some fo ∧ wpAny M A (call (.ref f) (first ++ vs)) Q E s₁) E s)
    (he : starEach (e :: rest) env = (false, eval e env) :: starEach rest env := by rfl) (hplain : (backTo pos (starEach rest env)).any (·.1) = false := by rfl) :
    wpAny M A (callWith pos (.ref f) first (backTo pos (starEach (e :: rest) env)) []) Q E s := by
  rw [he] at h ⊢
  refine callWith_of (P := fun h => h.get? f = some fo) (by show ((false || (backTo pos (starEach rest env)).any (·.1)) || false) = false; rw [hplain]; rfl) (fun h' e' => ?_) (evalArgs_plain h)
  obtain ⟨c, d, dt, sl⟩ := fo
  cases hfd
  exact ⟨.frame, .inl rfl, (Looks.ld (part := none) e').andThen .now⟩

theorem brk_gen {w : World} {A : Around} {s : Shared} {Q E : Value → Shared → Prop} {l f : Addr} {fo : Obj} {fd : FuncData} {vs : List Value} {n : Nat} {ks : List Nat} {x : Nat} {tx : Tok}
    (S : Site w 2 A s.heap) (hfo : s.heap.get? f = some fo) (hfd : fo.data = .func fd)
    (hl : s.heap.IsList l vs.toArray) (hI : IntsAre vs (casts (List.range n))) (hlen : n ≤ 1000) (hkl : ks.length = n) (so : Sorted ks)
    (hkey : ∀ (u : Nat) (t : Tok) (A' : Around) (s' : Shared) (Q' E' : Value → Shared → Prop), u < n → Site w 1 A' s'.heap → s.heap.StaysIn s'.heap →
      (∀ t h' tk', s'.heap.StaysIn h' → Q' (.int ((ks.getD u 0 : Nat) : Int) t) { s' with heap := h', toks := tk' }) → wpAny (model prog w) A' (call (.ref f) [.int (u : Int) t]) Q' E' s')
    (hQ : ∀ (r : Nat) t h' tk', s.heap.StaysIn h' → BR ks x 0 (n : Int) r → Q (.int (r : Int) t) { s with heap := h', toks := tk' }) :
    wpAny (model prog w) A (call (.ref 32) [.ref l, .int (x : Int) tx] [(Str.ofString "key", .ref f)]) Q E s := by
  refine wpAny_call ?_
  have X0 : (hd.heap_39 w.params).In s.heap := by
    obtain ⟨A₀, base, outer, h₀, env, L, m, mean, mg, mb, B, F, X, T, r⟩ := S
    exact X.keeps F.keep
  k_dflt (refine' enterP (d := 1) S ?k6 ?k7 ?k9 ?kB ?c5 ?c2 ?c3 ?c4 ?_; (case k6 => k_is); (case k7 => k_is); (case k9 => exact kp_binds X0 (fun _ => rfl)); (case kB => exact locs rfl); (case c5 => decide); (case c2 => exact rfl); (case c3 => exact rfl); (case c4 => exact rfl))
  intro base outer L' h₁ mean mg mb F N B X T hd hu hA hh
  replace F := fr_knows F [(Str.ofString "a", .ref l), (Str.ofString "x", .int (x : Int) tx), (Str.ofString "lo", .int ((0 : Nat) : Int) 202), (Str.ofString "hi", .none), (Str.ofString "key", .ref f)] ⟨rfl, rfl, rfl, rfl, rfl, trivial⟩
  show wpAny _ _ _ _ _ _
  k_fold
  repeat (first | (k_unfold; try dsimp only) | ((with_reducible refine ite_pos (by decide) ?_); try dsimp only) | ((with_reducible refine ite_neg (by decide) ?_); try dsimp only) | ((fail_if_success (with_reducible show wpAny _ _ (callWith _ (Value.ref _) _ _ _) _ _ _)); (fail_if_success (with_reducible show wpAny _ _ (newList _) _ _ _)); (fail_if_success (with_reducible show wpAny _ _ (subscriptTail _ _ _ _) _ _ _)); (fail_if_success (with_reducible show wpAny _ _ (call (Value.ref _) _ _) _ _ _)); (fail_if_success (with_reducible show wpAny _ _ (exec (Stmt.For _ _ _ _ _) _) _ _ _)); (fail_if_success (with_reducible show wpAny _ _ (exec (Stmt.While _ _ _ _) _) _ _ _)); (fail_if_success (with_reducible show wpAny _ _ (pyIter _) _ _ _)); (fail_if_success (with_reducible show wpAny _ _ (eval (PySem.Expr.Lambda _ _ _ _) _) _ _ _)); (fail_if_success (with_reducible show wpAny _ _ (call (Value.type _) _ _) _ _ _)); (fail_if_success (with_reducible show wpAny _ _ (exec (Stmt.Assign _ (PySem.Expr.ListComp _ _ _ _) _) _) _ _ _)); (fail_if_success (with_reducible refine ite_pos ?_ ?_)); walk1; try dsimp only))
  (with_reducible refine lenN (vs := vs) n ?lnl ?lnk ?lnb ?_)
  (case lnl => exact hl.at fun o e => F.keep _ _ e)
  (case lnk => rw [casts_length hI]; exact List.length_range)
  (case lnb => exact hlen)
  dsimp only
  repeat (first | (k_unfold; try dsimp only) | ((with_reducible refine ite_pos (by decide) ?_); try dsimp only) | ((with_reducible refine ite_neg (by decide) ?_); try dsimp only) | ((fail_if_success (with_reducible show wpAny _ _ (callWith _ (Value.ref _) _ _ _) _ _ _)); (fail_if_success (with_reducible show wpAny _ _ (newList _) _ _ _)); (fail_if_success (with_reducible show wpAny _ _ (subscriptTail _ _ _ _) _ _ _)); (fail_if_success (with_reducible show wpAny _ _ (call (Value.ref _) _ _) _ _ _)); (fail_if_success (with_reducible show wpAny _ _ (exec (Stmt.For _ _ _ _ _) _) _ _ _)); (fail_if_success (with_reducible show wpAny _ _ (exec (Stmt.While _ _ _ _) _) _ _ _)); (fail_if_success (with_reducible show wpAny _ _ (pyIter _) _ _ _)); (fail_if_success (with_reducible show wpAny _ _ (eval (PySem.Expr.Lambda _ _ _ _) _) _ _ _)); (fail_if_success (with_reducible show wpAny _ _ (call (Value.type _) _ _) _ _ _)); (fail_if_success (with_reducible show wpAny _ _ (exec (Stmt.Assign _ (PySem.Expr.ListComp _ _ _ _) _) _) _ _ _)); (fail_if_success (with_reducible refine ite_pos ?_ ?_)); walk1; try dsimp only))
  rename Fr _ _ _ _ => F2
  rename News _ _ _ _ => N2
  refine While_inv (n₀ := ((n : Int) - ((0 : Nat) : Int)).toNat) (fun n9 m nw => nw = [] ∧ ∃ (l' : Nat) (h' : Int) (t t' : Tok), n9 = (h' - l').toNat ∧ BRinv ks x 0 (n : Int) l' h' ∧
    Kn m [(Str.ofString "a", .ref l), (Str.ofString "x", .int (x : Int) tx), (Str.ofString "lo", .int (l' : Int) t), (Str.ofString "hi", .int h' t'), (Str.ofString "key", .ref f)]) F2 N2 ⟨rfl, 0, n, _, _, rfl, BRinv.start .., rfl, rfl, rfl, rfl, rfl, trivial⟩ ?_ ?_
  · rintro n9 m₁ news₁ h3 tk3 F3 N3 ⟨rfl, l', h', t3, t4, rfl, inv, K3⟩
    replace F3 := fr_knows F3 _ K3
    by_cases c : (l' : Int) < h'
    · obtain ⟨h'', rfl⟩ : ∃ k : Nat, h' = (k : Int) := ⟨h'.toNat, by omega⟩
      have hmid : (l' + h'') / 2 < n := by
        have := (inv.2 (by omega)).2.2.1
        omega
      have hgd : (List.range n).getD ((l' + h'') / 2) 0 = (l' + h'') / 2 := by
        rw [List.getD_eq_getElem?_getD, List.getElem?_range hmid]; rfl
      show wpAny _ _ _ _ _ _
      k_fold
      repeat (first | (k_unfold; try dsimp only) | ((with_reducible refine ite_pos (by decide) ?_); try dsimp only) | ((with_reducible refine ite_neg (by decide) ?_); try dsimp only) | ((fail_if_success (with_reducible show wpAny _ _ (callWith _ (Value.ref _) _ _ _) _ _ _)); (fail_if_success (with_reducible show wpAny _ _ (newList _) _ _ _)); (fail_if_success (with_reducible show wpAny _ _ (subscriptTail _ _ _ _) _ _ _)); (fail_if_success (with_reducible show wpAny _ _ (call (Value.ref _) _ _) _ _ _)); (fail_if_success (with_reducible show wpAny _ _ (exec (Stmt.For _ _ _ _ _) _) _ _ _)); (fail_if_success (with_reducible show wpAny _ _ (exec (Stmt.While _ _ _ _) _) _ _ _)); (fail_if_success (with_reducible show wpAny _ _ (pyIter _) _ _ _)); (fail_if_success (with_reducible show wpAny _ _ (eval (PySem.Expr.Lambda _ _ _ _) _) _ _ _)); (fail_if_success (with_reducible show wpAny _ _ (call (Value.type _) _ _) _ _ _)); (fail_if_success (with_reducible show wpAny _ _ (exec (Stmt.Assign _ (PySem.Expr.ListComp _ _ _ _) _) _) _ _ _)); (fail_if_success (with_reducible refine ite_pos ?_ ?_)); walk1; try dsimp only))
      refine ite_pos (by simpa using c) ?_
      repeat (first | (k_unfold; try dsimp only) | ((with_reducible refine ite_pos (by decide) ?_); try dsimp only) | ((with_reducible refine ite_neg (by decide) ?_); try dsimp only) | ((fail_if_success (with_reducible show wpAny _ _ (callWith _ (Value.ref _) _ _ _) _ _ _)); (fail_if_success (with_reducible show wpAny _ _ (newList _) _ _ _)); (fail_if_success (with_reducible show wpAny _ _ (subscriptTail _ _ _ _) _ _ _)); (fail_if_success (with_reducible show wpAny _ _ (call (Value.ref _) _ _) _ _ _)); (fail_if_success (with_reducible show wpAny _ _ (exec (Stmt.For _ _ _ _ _) _) _ _ _)); (fail_if_success (with_reducible show wpAny _ _ (exec (Stmt.While _ _ _ _) _) _ _ _)); (fail_if_success (with_reducible show wpAny _ _ (pyIter _) _ _ _)); (fail_if_success (with_reducible show wpAny _ _ (eval (PySem.Expr.Lambda _ _ _ _) _) _ _ _)); (fail_if_success (with_reducible show wpAny _ _ (call (Value.type _) _ _) _ _ _)); (fail_if_success (with_reducible show wpAny _ _ (exec (Stmt.Assign _ (PySem.Expr.ListComp _ _ _ _) _) _) _ _ _)); (fail_if_success (with_reducible refine ite_pos ?_ ?_)); walk1; try dsimp only))
      (with_reducible refine callWith_F (fo := fo) hfd ?_ ?cw1 ?cw2)
      (case cw1 => exact rfl)
      (case cw2 => exact rfl)
      repeat (first | (k_unfold; try dsimp only) | ((with_reducible refine ite_pos (by decide) ?_); try dsimp only) | ((with_reducible refine ite_neg (by decide) ?_); try dsimp only) | ((fail_if_success (with_reducible show wpAny _ _ (callWith _ (Value.ref _) _ _ _) _ _ _)); (fail_if_success (with_reducible show wpAny _ _ (newList _) _ _ _)); (fail_if_success (with_reducible show wpAny _ _ (subscriptTail _ _ _ _) _ _ _)); (fail_if_success (with_reducible show wpAny _ _ (call (Value.ref _) _ _) _ _ _)); (fail_if_success (with_reducible show wpAny _ _ (exec (Stmt.For _ _ _ _ _) _) _ _ _)); (fail_if_success (with_reducible show wpAny _ _ (exec (Stmt.While _ _ _ _) _) _ _ _)); (fail_if_success (with_reducible show wpAny _ _ (pyIter _) _ _ _)); (fail_if_success (with_reducible show wpAny _ _ (eval (PySem.Expr.Lambda _ _ _ _) _) _ _ _)); (fail_if_success (with_reducible show wpAny _ _ (call (Value.type _) _ _) _ _ _)); (fail_if_success (with_reducible show wpAny _ _ (exec (Stmt.Assign _ (PySem.Expr.ListComp _ _ _ _) _) _) _ _ _)); (fail_if_success (with_reducible refine ite_pos ?_ ?_)); walk1; try dsimp only))
      refine subAt (hl.at fun o e => Fr.keep (by assumption) _ _ e) hI _ rfl (by rw [List.length_range]; exact hmid) (by rw [List.length_range]; exact hlen) (fun t5 => ?_)
      rw [hgd]
      walk1
      try dsimp only
      show wpAny _ _ (call (.ref f) [_]) _ _ _
      refine hkey _ _ _ _ _ _ hmid (site_of B (by assumption) X T hA rfl rfl hd hu hh (by omega)) (Fr.keep (by assumption)) ?_
      intro t9 h9 tk9 k9; (rename Fr _ _ _ _ => Fx); (rename News _ _ _ _ => Nx); (have F9 := fr_keep Fx k9); (have N9 := news_keep Nx k9); clear Fx Nx; try dsimp only
      repeat (first | (k_unfold; try dsimp only) | ((with_reducible refine ite_pos (by decide) ?_); try dsimp only) | ((with_reducible refine ite_neg (by decide) ?_); try dsimp only) | ((fail_if_success (with_reducible show wpAny _ _ (callWith _ (Value.ref _) _ _ _) _ _ _)); (fail_if_success (with_reducible show wpAny _ _ (newList _) _ _ _)); (fail_if_success (with_reducible show wpAny _ _ (subscriptTail _ _ _ _) _ _ _)); (fail_if_success (with_reducible show wpAny _ _ (call (Value.ref _) _ _) _ _ _)); (fail_if_success (with_reducible show wpAny _ _ (exec (Stmt.For _ _ _ _ _) _) _ _ _)); (fail_if_success (with_reducible show wpAny _ _ (exec (Stmt.While _ _ _ _) _) _ _ _)); (fail_if_success (with_reducible show wpAny _ _ (pyIter _) _ _ _)); (fail_if_success (with_reducible show wpAny _ _ (eval (PySem.Expr.Lambda _ _ _ _) _) _ _ _)); (fail_if_success (with_reducible show wpAny _ _ (call (Value.type _) _ _) _ _ _)); (fail_if_success (with_reducible show wpAny _ _ (exec (Stmt.Assign _ (PySem.Expr.ListComp _ _ _ _) _) _) _ _ _)); (fail_if_success (with_reducible refine ite_pos ?_ ?_)); walk1; try dsimp only))
      by_cases c2 : x < ks.getD ((l' + h'') / 2) 0
      · refine ite_pos (decide_eq_true (Int.ofNat_lt.mpr c2)) ?_
        repeat (first | (k_unfold; try dsimp only) | ((with_reducible refine ite_pos (by decide) ?_); try dsimp only) | ((with_reducible refine ite_neg (by decide) ?_); try dsimp only) | ((fail_if_success (with_reducible show wpAny _ _ (subscriptTail _ _ _ _) _ _ _)); (fail_if_success (with_reducible show wpAny _ _ (call (Value.ref _) _ _) _ _ _)); (fail_if_success (with_reducible show wpAny _ _ (exec (Stmt.For _ _ _ _ _) _) _ _ _)); (fail_if_success (with_reducible show wpAny _ _ (exec (Stmt.While _ _ _ _) _) _ _ _)); (fail_if_success (with_reducible show wpAny _ _ (pyIter _) _ _ _)); (fail_if_success (with_reducible show wpAny _ _ (eval (PySem.Expr.Lambda _ _ _ _) _) _ _ _)); (fail_if_success (with_reducible show wpAny _ _ (call (Value.type _) _ _) _ _ _)); (fail_if_success (with_reducible show wpAny _ _ (exec (Stmt.Assign _ (PySem.Expr.ListComp _ _ _ _) _) _) _ _ _)); (fail_if_success (with_reducible refine ite_pos ?_ ?_)); walk1; try dsimp only))
        exact WhileStep.intro (n' := ((((l' + h'') / 2 : Nat) : Int) - (l' : Int)).toNat) (by assumption) (by assumption) (by omega) ⟨rfl, l', (((l' + h'') / 2 : Nat) : Int), t3, _, rfl, inv.down so (by omega) (by omega) c2, rfl, rfl, rfl, rfl, rfl, trivial⟩
      · refine ite_neg (by rw [decide_eq_true_eq]; exact fun q => c2 (Int.ofNat_lt.mp q)) ?_
        repeat (first | (k_unfold; try dsimp only) | ((with_reducible refine ite_pos (by decide) ?_); try dsimp only) | ((with_reducible refine ite_neg (by decide) ?_); try dsimp only) | ((fail_if_success (with_reducible show wpAny _ _ (subscriptTail _ _ _ _) _ _ _)); (fail_if_success (with_reducible show wpAny _ _ (call (Value.ref _) _ _) _ _ _)); (fail_if_success (with_reducible show wpAny _ _ (exec (Stmt.For _ _ _ _ _) _) _ _ _)); (fail_if_success (with_reducible show wpAny _ _ (exec (Stmt.While _ _ _ _) _) _ _ _)); (fail_if_success (with_reducible show wpAny _ _ (pyIter _) _ _ _)); (fail_if_success (with_reducible show wpAny _ _ (eval (PySem.Expr.Lambda _ _ _ _) _) _ _ _)); (fail_if_success (with_reducible show wpAny _ _ (call (Value.type _) _ _) _ _ _)); (fail_if_success (with_reducible show wpAny _ _ (exec (Stmt.Assign _ (PySem.Expr.ListComp _ _ _ _) _) _) _ _ _)); (fail_if_success (with_reducible refine ite_pos ?_ ?_)); walk1; try dsimp only))
        exact WhileStep.intro (n' := ((h'' : Int) - (((l' + h'') / 2 + 1 : Nat) : Int)).toNat) (by assumption) (by assumption) (by omega) ⟨rfl, (l' + h'') / 2 + 1, h'', _, t4, rfl, inv.up so (by omega) (by omega) c2, rfl, rfl, rfl, rfl, rfl, trivial⟩
    · show wpAny _ _ _ _ _ _
      k_fold
      repeat (first | (k_unfold; try dsimp only) | ((with_reducible refine ite_pos (by decide) ?_); try dsimp only) | ((with_reducible refine ite_neg (by decide) ?_); try dsimp only) | ((fail_if_success (with_reducible show wpAny _ _ (subscriptTail _ _ _ _) _ _ _)); (fail_if_success (with_reducible show wpAny _ _ (call (Value.ref _) _ _) _ _ _)); (fail_if_success (with_reducible show wpAny _ _ (exec (Stmt.For _ _ _ _ _) _) _ _ _)); (fail_if_success (with_reducible show wpAny _ _ (exec (Stmt.While _ _ _ _) _) _ _ _)); (fail_if_success (with_reducible show wpAny _ _ (pyIter _) _ _ _)); (fail_if_success (with_reducible show wpAny _ _ (eval (PySem.Expr.Lambda _ _ _ _) _) _ _ _)); (fail_if_success (with_reducible show wpAny _ _ (call (Value.type _) _ _) _ _ _)); (fail_if_success (with_reducible show wpAny _ _ (exec (Stmt.Assign _ (PySem.Expr.ListComp _ _ _ _) _) _) _ _ _)); (fail_if_success (with_reducible refine ite_pos ?_ ?_)); walk1; try dsimp only))
      refine ite_neg (by simpa using c) ?_
      repeat (first | (k_unfold; try dsimp only) | ((with_reducible refine ite_pos (by decide) ?_); try dsimp only) | ((with_reducible refine ite_neg (by decide) ?_); try dsimp only) | ((fail_if_success (with_reducible show wpAny _ _ (subscriptTail _ _ _ _) _ _ _)); (fail_if_success (with_reducible show wpAny _ _ (call (Value.ref _) _ _) _ _ _)); (fail_if_success (with_reducible show wpAny _ _ (exec (Stmt.For _ _ _ _ _) _) _ _ _)); (fail_if_success (with_reducible show wpAny _ _ (exec (Stmt.While _ _ _ _) _) _ _ _)); (fail_if_success (with_reducible show wpAny _ _ (pyIter _) _ _ _)); (fail_if_success (with_reducible show wpAny _ _ (eval (PySem.Expr.Lambda _ _ _ _) _) _ _ _)); (fail_if_success (with_reducible show wpAny _ _ (call (Value.type _) _ _) _ _ _)); (fail_if_success (with_reducible show wpAny _ _ (exec (Stmt.Assign _ (PySem.Expr.ListComp _ _ _ _) _) _) _ _ _)); (fail_if_success (with_reducible refine ite_pos ?_ ?_)); walk1; try dsimp only))
      exact RetP.intro (by assumption) fun k => by exact hQ _ _ _ _ k (inv.stop c)
  · passes_own

def TurnZ (h₀ : Heap) (L : Addr) (wr : List Addr) (own : List (Addr × Obj)) (s : Shared) (J : (Str → Option Value) → List (Addr × Obj) → Prop) (f : Flow) (s₂ : Shared) : Prop :=
  f = .next ∧ ∃ h' tk' m₂ news₂, s₂ = { s with heap := h', toks := tk' } ∧ Fr h₀ L h' m₂ ∧ News h₀ L h' (news₂ ++ own) ∧ (∀ p ∈ news₂, p.1 ∉ wr) ∧ J m₂ news₂
section
variable {prog : Program} {w : World} {A : Around} {s : Shared} {env : Env} {h₀ : Heap}
/-- a loop over zip of two lists; the ledger may grow -/
theorem loopZ {E : Value → Shared → Prop} {Q : Flow → Shared → Prop} {xi xc : Str} {pk pv pt : Pos} {x1 : Nat} {body : List Stmt} {z TI TO i1 i2 l1 l2 : Addr} {xs ys : Array Value} {m : Str → Option Value} {news : List (Addr × Obj)}
    (hh : A.handled = none) (D : ZipApart z TI TO i1 i2 l1 l2)
    (hst : IsZip s.heap z TI TO .none ∧ IsPair s.heap TI (.ref i1) (.ref i2) ∧ (∃ a b, IsPair s.heap TO a b) ∧ s.heap.IsListIter i1 l1 0 ∧ s.heap.IsListIter i2 l2 0 ∧ s.heap.IsList l1 xs ∧ s.heap.IsList l2 ys)
    (hxi : env.kindOf xi = some .local) (hxc : env.kindOf xc = some .local)
    (hp : (env.scope.kind == .class || (env.scope.kind == .module && env.locals != env.globals)) = false)
    (hLf : env.locals ∉ [z, TI, TO, i1, i2, l1, l2]) (hwr : ∀ b ∈ [z, TO, i1, i2], h₀.get? b = none) (hnw : ∀ p ∈ news, p.1 ∉ [z, TO, i1, i2])
    (F : Fr h₀ env.locals s.heap m) (N : News h₀ env.locals s.heap news)
    (J : Nat → (Str → Option Value) → List (Addr × Obj) → Prop) (h0 : J 0 m news)
    (step : ∀ i v0 v1 m₁ news₁ h tk own, xs[i]? = some v0 → ys[i]? = some v1 → J i m₁ news₁ → (∀ p ∈ news₁, p.1 ∉ [z, TO, i1, i2]) → (∀ p ∈ own, p.1 ∈ [z, TI, TO, i1, i2, l1, l2]) → (∀ b ∈ [z, TO, i1, i2], ∃ o, (b, o) ∈ own) →
      Fr h₀ env.locals h (fun y => if y = xc then some v1 else if y = xi then some v0 else m₁ y) → News h₀ env.locals h (news₁ ++ own) →
      wpAny (model prog w) A (execs body env) (TurnZ h₀ env.locals [z, TO, i1, i2] own s (J (i + 1))) E { s with heap := h, toks := tk })
    (done : ∀ h' tk m' news', Fr h₀ env.locals h' m' → News h₀ env.locals h' news' → J (min xs.size ys.size) m' news' → Q .next { s with heap := h', toks := tk })
    (hE : PassesOwn (model prog w) A env E) :
    codeAny (model prog w) A (.forLoop (.Tuple [.Name xi pk, .Name xc pv] x1 pt) (.ref z) body [] env) (fun r s' => match r with | .ok f => Q f s' | .error e => cameBackBy (model prog w) A env E e s') s := by
  have W := WalksT.zip2 (prog := prog) (w := w) hh z TI TO i1 i2 l1 l2 D xs ys
  have hLw : env.locals ∉ [z, TO, i1, i2] := fun h => hLf (W.sub _ h)
  have old : ∀ b o, h₀.get? b = some o → b ∉ [z, TO, i1, i2] := fun b o e hb => by rw [hwr b hb] at e; cases e
  refine codeAny_forLoop_any
    (fun k s' => ∃ h' tk m' news' i, s' = { s with heap := h', toks := tk } ∧
      (IsZip h' z TI TO .none ∧ IsPair h' TI (.ref i1) (.ref i2) ∧ (∃ a b, IsPair h' TO a b) ∧ h'.IsListIter i1 l1 i ∧ h'.IsListIter i2 l2 i ∧ h'.IsList l1 xs ∧ h'.IsList l2 ys) ∧
      Fr h₀ env.locals h' m' ∧ News h₀ env.locals h' news' ∧ (∀ p ∈ news', p.1 ∉ [z, TO, i1, i2]) ∧ J i m' news' ∧ i ≤ min xs.size ys.size ∧ k = min xs.size ys.size + 1 - i) ?_ (min xs.size ys.size + 1)
    ⟨s.heap, s.toks, m, news, 0, rfl, hst, F, N, hnw, h0, Nat.zero_le _, rfl⟩
  rintro k s' ⟨H, tk, m', news', i, rfl, hst', F', N', off', hJ, hi, rfl⟩
  have carry : ∀ h₁ : Heap, (∀ b o, b ∉ [z, TO, i1, i2] → H.get? b = some o → h₁.get? b = some o) → Fr h₀ env.locals h₁ m' ∧ News h₀ env.locals h₁ news' := fun h₁ hk₁ =>
    ⟨⟨F'.ns.at' fun o e => hk₁ _ o hLw e, fun b o e => hk₁ b o (old b o e) (F'.keep b o e), F'.above⟩, fun p hq => ⟨hk₁ _ _ (off' p hq) (N' p hq).1, (N' p hq).2⟩⟩
  by_cases hlt : i < min xs.size ys.size
  · refine W.item i _ _ _ hlt hst' fun T vals h₁ tk₁ hPt _ hT hMid hk₁ => ?_
    obtain ⟨v0, v1, hv0, hv1, rfl⟩ := hPt
    refine W.go _ x1 pt i T _ _ _ hMid fun h₂ hst₂ hk₂ => ?_
    refine wpAny_assign_Tuple hh (hT.at fun o e => hk₂ T o (W.apart i T h₁ hMid) e) rfl rfl fun h₃ hx₃ => ?_
    have up₃ : ∀ b o, h₂.get? b = some o → h₃.get? b = some o := fun b o x => hx₃ b o (Nat.ne_of_lt (Heap.lt_size x)) x
    obtain ⟨F₃, N₃⟩ := carry h₃ fun b o hb x => up₃ b o (hk₂ b o hb (hk₁ b o hb x))
    show wpAny _ A (do holding [v1] (assign (.Name xi pk) env v0); do holding [] (assign (.Name xc pv) env v1); pure ()) _ _ _
    refine wpAny_bind (wpAny_holding (wpAny_assign_Name (wpAny_storeName_local hxi F₃.ns (fun h₄ hn₄ hs₄ => ?_) hp)))
    refine wpAny_bind (wpAny_holding (wpAny_assign_Name (wpAny_storeName_local hxc (F₃.set hn₄ hs₄).ns (fun h₅ hn₅ hs₅ => wpAny_pure ?_) hp)))
    have F₅ := (F₃.set hn₄ hs₄).set hn₅ hs₅
    have N₅ := (N₃.set hs₄).set hs₅
    have own₅ : News h₀ env.locals h₅ (ownOf h₀ [z, TI, TO, i1, i2, l1, l2] h₅) := news_ownOf hLf
    have st₅ := W.frame _ _ h₅ hst₂ fun b hb o e => hs₅.extBut b o (fun q => hLf (q ▸ hb)) (hs₄.extBut b o (fun q => hLf (q ▸ hb)) (up₃ b o e))
    have alive : ∀ b ∈ [z, TO, i1, i2], ∃ o, (b, o) ∈ ownOf h₀ [z, TI, TO, i1, i2, l1, l2] h₅ := fun b hb => by
      have : ∃ o, h₅.get? b = some o := by
        obtain ⟨hz, _, ⟨a, b', hTO⟩, ⟨o1, e1, _⟩, ⟨o2, e2, _⟩, _⟩ := st₅
        simp only [List.mem_cons, List.not_mem_nil, or_false] at hb
        rcases hb with rfl | rfl | rfl | rfl
        · exact ⟨_, hz⟩
        · exact ⟨_, hTO⟩
        · exact ⟨o1, e1⟩
        · exact ⟨o2, e2⟩
      obtain ⟨o, e⟩ := this
      exact ⟨o, mem_ownOf (W.sub b hb) (hwr b hb) e⟩
    refine wpAny_mono (wpAny_passesOwn hE (step i v0 v1 m' news' h₅ _ (ownOf h₀ [z, TI, TO, i1, i2, l1, l2] h₅) hv0 hv1 hJ off' ownOf_sub alive F₅ (fun p hq => (List.mem_append.mp hq).elim (N₅ p) (own₅ p)))) (fun f s₃ hf => ?_) fun _ _ e => e
    obtain ⟨rfl, h₆, tk₆, m₂, news₂, rfl, F₆, N₆, off₆, hJ₆⟩ := hf
    refine ⟨min xs.size ys.size + 1 - (i + 1), by omega, h₆, tk₆, m₂, news₂, i + 1, rfl, W.frame _ _ h₆ st₅ fun b hb o e => ?_, F₆, (fun p hq => N₆ p (List.mem_append_left _ hq)), off₆, hJ₆, hlt, rfl⟩
    cases hn : h₀.get? b with
    | some o₀ =>
      have q := F₅.keep b o₀ hn
      rw [e] at q
      cases q
      exact F₆.keep b o hn
    | none => exact (N₆ _ (List.mem_append_right _ (mem_ownOf hb hn e))).1
  · have hin : i = min xs.size ys.size := by omega
    subst hin
    refine W.done _ _ _ hst' fun h₁ tk₁ hk₁ => wpAny_execs_nil ?_
    obtain ⟨F₁, N₁⟩ := carry h₁ hk₁
    exact done h₁ tk₁ m' news' F₁ N₁ hJ
end

section
variable {w : World} {A : Around} {s : Shared} {d : Nat} {r : Addr} {ro : Obj}
  {R : Result → Shared → Prop} {name qual : Str} {params : Arguments} {body : List Stmt} {scope : Scope} {dV kV doc pm cdv ct oc : Value} {an od : Option Addr} {osl : Array (Option Value)} {f : Addr} {args : Args} {binds : List (Str × Value)}
/-- a def with cells is entered; the object r may be turned -/
theorem enterCM (S : SiteM w (d + 1) A s.heap r) (hr : s.heap.get? r = some ro)
    (ho : (hd.heap_39 w.params).lookup f = some ⟨oc, od, .func (fnOf name qual params body scope dV kV doc pm an cdv ct), osl⟩) (hcd : codeIn (hd.heap_39 w.params) cdv qual = true)
    (hbind : BindsTo s (fnOf name qual params body scope dV kV doc pm an cdv ct) args binds)
    (hkind : (binds.all fun y => scope.names.lookup y.1 == some .local || scope.names.lookup y.1 == some .cell) = true)
    (hnd : ((cellsFrom 0 scope.names []).map (·.1)).Nodup) (hco : scope.isCoroutine = false) (hgen : scope.isGenerator = false) (hk : scope.kind = .function)
    (h : ∀ base outer g L' h₁ tk mean mg mb cells, Fr g L' h₁ (bindL (envOfC qual scope L' f cdv).kindOf binds fun _ => none) → News g L' h₁ (cells ++ [(r, ro)]) →
      CellsAre (bindC (envOfC qual scope L' f cdv).kindOf binds fun _ => none) (cellsFrom (L' + 1) scope.names []) cells → r < L' → (∀ b o, b ≠ r → s.heap.get? b = some o → g.get? b = some o) →
      Below A base outer g → (hd.heap_39 w.params).In g → Top vw lo mean mg mb g →
      (A.deeper (envOfC qual scope L' f cdv)).depth + d < recursionLimit → (A.deeper (envOfC qual scope L' f cdv)).units + 8 * d < cLine →
      (A.deeper (envOfC qual scope L' f cdv)).frames = some (envOfC qual scope L' f cdv :: outer) → (A.deeper (envOfC qual scope L' f cdv)).handled = none →
      wpAny (model prog w) (A.deeper (envOfC qual scope L' f cdv)) (execs body (envOfC qual scope L' f cdv)) (RetM g s.heap r R)
        (fun _ _ => False)
        { s with heap := h₁, toks := tk }) :
    codeAny (model prog w) A (.call (.ref f) args) R s := by
  obtain ⟨A₀, base, outer, h₀, env, L, m, mean, mg, mb, B, F, X, T, hA, hf, hke, hd, hu, hh, h1, h2⟩ := S
  have X' := X.keeps F.keep
  have N0 : News h₀ L s.heap [(r, ro)] := fun p hp => by rw [List.mem_singleton.mp hp]; exact ⟨hr, h1, h2⟩
  obtain ⟨FG, BG, st, -⟩ := groundX (R := fun _ _ => True) B F N0 hA hf hke
  have st' : h₀.StaysIn (hideAll s.heap [r]) := st
  have BG' : Below A base (env :: outer) (hideAll s.heap [r]) := BG
  have hdep : ∀ e : Env, (A.deeper e).depth = A.depth + 1 := fun e => depth_deeper A e
  have hlim := T.nolimit.keeps F.keep
  refine codeAny_call_function (by omega) (X' _ _ ho) rfl hco hgen rfl (codeRec_of X' hcd) (hbind _ _ _ _ ?_)
  refine wpAny_newFunctionEnv_cells hk (kindsX hkind _) fun env' he s' x => ?_
  subst he
  refine ⟨hlim.keeps x.toInCall.keep, codeAny_func ?_⟩
  obtain ⟨h₁, tk, rfl, _⟩ := x.done
  have hk₁ := x.toInCall.keep
  obtain ⟨cells, NC, Y⟩ := Cl.news (h₀ := s.heap) (Nat.le_refl _) fun n c hm => ⟨x.cell n c (lookup_of_mem_nodup (cellsFrom_names scope.names 0 (s.heap.objs.size + 1) [] [] rfl ▸ hnd) hm), x.above n c hm⟩
  have gk : ∀ b o, b ≠ r → s.heap.get? b = some o → (hideAll s.heap [r]).get? b = some o := fun b o hb e => hideAll_get _ e (by simpa using hb)
  refine wpAny_mono (h base (env :: outer) (hideAll s.heap [r]) s.heap.objs.size h₁ tk mean mg mb cells ⟨x.toInCall.ns, fun b o e => hk₁ b o (of_hideAll _ e), Nat.le_of_eq (hideAll_size _ _)⟩ ?_ Y (Heap.lt_size hr) gk BG' (X.keeps st') (T.keeps st') ?_ ?_ ?_ ?_) (fun fl s' hl => ?_) fun _ _ y => y.elim
  · intro p hp
    rcases List.mem_append.mp hp with hp | hp
    · refine ⟨(NC p hp).1, (NC p hp).2.1, ?_⟩
      cases q : (hideAll s.heap [r]).get? p.1 with
      | none => rfl
      | some o => have := of_hideAll _ q; rw [(NC p hp).2.2] at this; cases this
    · exact ⟨hk₁ _ _ (N0 p hp).1, Nat.ne_of_lt (Heap.lt_size (N0 p hp).1), hideAll_none [r] (by rw [List.mem_singleton.mp hp]; exact List.Mem.head _)⟩
  · rw [hdep]; omega
  · rw [units_deeper]; omega
  · exact Around.frames_deeper hA
  · exact hh
  · obtain ⟨⟨L9, m9, F9⟩, k⟩ := hl
    exact k fun b o hb e => F9.keep b o (gk b o hb e)
end

/-- the table of code that the lambda's place is kept in -/
def TabOk (ps : Array Value) (ex : List (Addr × Obj)) : Prop :=
  ps = #[] ∨ ∃ c' oc vs t, ps = #[rawInt 95, rawInt 53, .ref c'] ∧ (c', oc) ∈ ex ∧ oc.data = .fields vs ∧ vs[1]? = some (.str (Str.ofString "_law_walk" ++ ".<locals>." ++ "<lambda>") t)

section
variable {w : World} {A : Around} {s : Shared} {d : Nat} {R : Result → Shared → Prop} {name qual : Str} {params : Arguments} {body : PySem.Expr} {scope : Scope} {cl : List (Str × Addr)} {pm ctv : Value} {c' f : Addr} {args : Args} {binds : List (Str × Value)}
/-- a lambda is entered; what stands stays -/
theorem enterL (S : Site w (d + 1) A s.heap) (ho : s.heap.get? f = some (kla_obj name qual params body scope cl pm c' ctv)) (hcd : s.heap.CodeRec (.ref c') qual)
    (hbind : bindArgs (kla_fn name qual params body scope cl pm (.ref c') ctv) args = pure binds) (hloc : ∀ y ∈ binds, scope.names.lookup y.1 = some .local)
    (hco : scope.isCoroutine = false) (hgen : scope.isGenerator = false) (hk : scope.kind = .function) (hcell : ∀ x ∈ scope.names, x.2 ≠ .cell)
    (h : ∀ L' h₁, Fr s.heap L' h₁ (fun y => binds.reverse.lookup y) → News s.heap L' h₁ [] → (hd.heap_39 w.params).In s.heap →
      wpAny (model prog w) (A.deeper (envX qual scope L' f (.ref c') cl)) (eval body (envX qual scope L' f (.ref c') cl))
        (fun v s' => s.heap.StaysIn s'.heap ∧ R (.ok (.ret v)) s') (fun _ _ => False) { s with heap := h₁, toks := s.toks + binds.length }) :
    codeAny (model prog w) A (.call (.ref f) args) R s := by
  obtain ⟨A₀, base, outer, h₀, env, L, m, mean, mg, mb, B, F, X, T, hA, hf, hke, hd, hu, hh⟩ := S
  refine kla_callFunE (by omega) ho rfl hco hgen rfl hcd ?_
  rw [hbind]
  refine wpAny_pure (wpAny_newFunctionEnv hcell hloc (fun h₁ hns hsb => ⟨((T.nolimit).keeps F.keep).fresh _ hsb, ?_⟩) hk)
  show codeAny _ _ (.expr body (envX qual scope s.heap.objs.size f (.ref c') cl)) _ _
  have hk₁ : ∀ b o, s.heap.get? b = some o → h₁.get? b = some o := fun b o e => hsb.extBut b o (Nat.ne_of_lt (Heap.lt_size e)) (Heap.get?_push_of_some _ e)
  exact kla_codeExpr (wpAny_mono (h s.heap.objs.size h₁ ⟨hns, hk₁, Nat.le_refl _⟩ News.nil (X.keeps F.keep)) (fun v s' hl => hl.2) fun _ _ y => y.elim)
end

section
variable {M : Model} {A : Around} {E : Value → Shared → Prop} {s : Shared} {g : Heap} {L a : Addr} {m mg mb : Str → Option Value} {cn : Str} {cs : Scope} {cl : List (Str × Addr)} {p : Program} {loose : List Str} {mean : ExcName → Option Value}
  {params : Arguments} {body : PySem.Expr} {scope : Scope} {e1 e2 : Nat} {clos : List (Str × Addr)} {ps : Array Value} {ex ex' : List (Addr × Obj)} {c1 c2 : Addr × Obj} {Q : Value → Shared → Prop}
/-- the lambda is made: its code is written into the table the first time, found there later -/
theorem lam_mk (F : Fr g L s.heap m) (N : News g L s.heap (c1 :: c2 :: (85, tabObj ps) :: ex)) (T : Top p loose mean mg mb g) (C : CodeHd g 87 85) (hps : TabOk ps ex') (hsub : ∀ p ∈ ex', p ∈ ex) (h1 : c1.1 ≠ 85) (h2 : c2.1 ≠ 85) (h3 : ∀ p ∈ ex, p.1 ≠ 85)
    (hn : cn = Str.ofString "_law_walk") (hdef : defaultsOf params (envX cn cs L a (.ref 87) cl) = ([], [])) (hcl : closureFor scope (envX cn cs L a (.ref 87) cl) = pure clos)
    (h : ∀ f c' ctv pm ps' add h' tk, Fr g L h' m → News g L h' ((f, kla_obj "<lambda>" (cn ++ ".<locals>." ++ "<lambda>") params body scope clos pm c' ctv) :: c1 :: c2 :: (85, tabObj ps') :: (add ++ ex)) → h'.CodeRec (.ref c') (cn ++ ".<locals>." ++ "<lambda>") →
      TabOk ps' (add ++ ex') → (∀ p ∈ add, p.1 ≠ c1.1 ∧ p.1 ≠ c2.1 ∧ p.1 ≠ 85 ∧ ∀ q ∈ ex, p.1 ≠ q.1) → Q (.ref f) { s with heap := h', toks := tk }) :
    wpAny M A (eval (.Lambda params body scope ⟨95, 53, e1, e2⟩) (envX cn cs L a (.ref 87) cl)) Q E s := by
  refine kla_eval hdef ?_
  rcases hps with rfl | ⟨c', oc, vs, t, rfl, hm, hd, hv⟩
  · refine kla_nest F N T C rfl (.tail h1 (.tail h2 (.head h3))) trivial rfl hcl ?_
    intro f c' oc vs t ctv h' tk F' N' hd hv hlt hf
    have hmem : (c', oc) ∈ [(c', oc)] ++ ex' := List.Mem.head _
    refine h f c' ctv ((mg "__name__").getD .none) (#[] ++ #[rawInt 95, rawInt 53, .ref c']) [(c', oc)] h' tk F' (fun q hq => N' q ?_) ⟨c', oc, vs, t, rfl, (N' (c', oc) (.tail _ (.head _))).1, hd, hv⟩ (.inr ⟨c', oc, vs, t, rfl, hmem, hd, by rw [hv, hn]⟩) ?_
    · simp only [List.mem_cons, List.mem_append, List.not_mem_nil, or_false, List.singleton_append] at hq ⊢
      rcases hq with rfl | rfl | rfl | rfl | rfl | hq
      · exact .inl rfl
      · exact .inr (.inr (.inl rfl))
      · exact .inr (.inr (.inr (.inl rfl)))
      · exact .inr (.inr (.inr (.inr (.inl rfl))))
      · exact .inr (.inl rfl)
      · exact .inr (.inr (.inr (.inr (.inr hq))))
    · intro q hq
      rw [List.mem_singleton.mp hq]
      exact ⟨Ne.symm (Nat.ne_of_lt (hlt c1 (.head _))), Ne.symm (Nat.ne_of_lt (hlt c2 (.tail _ (.head _)))), Ne.symm (Nat.ne_of_lt (hlt _ (.tail _ (.tail _ (.head _))))), fun r hr => Ne.symm (Nat.ne_of_lt (hlt r (.tail _ (.tail _ (.tail _ hr)))))⟩
  · refine kla_hit (c' := c') F N T C rfl (.tail _ (.tail _ (.head _))) trivial (by simp [codeAmong, rawInt]) hcl ?_
    intro f ctv h' tk F' N' hlt
    refine h f c' ctv ((mg "__name__").getD .none) _ [] h' tk F' N' ⟨c', oc, vs, t, rfl, (N' (c', oc) (.tail _ (.tail _ (.tail _ (.tail _ (hsub _ hm)))))).1, hd, by rw [hv, hn]⟩ (.inr ⟨c', oc, vs, t, rfl, hm, hd, hv⟩) (fun q hq => nomatch hq)
theorem nameFr {x : Str} {pos : Pos} {v : Value} {c : Addr} {o : Obj} {qual : Str} {f : Addr} {cdv : Value} (hg : s.heap.get? c = some o) (hd : o.data = .cell (some v)) (hc : cl.lookup x = some c) (h : Q v s)
    (hk : cs.kind = .function) (hx : (envX qual cs L f cdv cl).kindOf x = some .free) (hb : (x == ("__debug__" : Str)) = false) (hn : (x == ("__classdict__" : Str)) = false) :
    wpAny M A (eval (.Name x pos) (envX qual cs L f cdv cl)) Q E s := wpAny_Name (wpAny_loadName_free hk hx hc ⟨o, hg, hd⟩ h hn) hb
end

theorem slice_casts {vs : List Value} {ns : List Nat} (hI : IntsAre vs (casts ns)) (a b : Nat) : IntsAre (slicePick vs.toArray (some (a : Int)) (some (b : Int)) none).toList (casts ((ns.take b).drop a)) := by
  have h := kmk_run (x := (a : Int)) (y := (b : Int)) hI (Int.natCast_nonneg _) (Int.natCast_nonneg _)
  rw [Int.toNat_natCast, Int.toNat_natCast] at h
  have e : casts ((ns.take b).drop a) = ((casts ns).drop a).take (min b (casts ns).length - a) := by
    unfold casts
    rw [List.map_drop, List.map_take, List.drop_take, List.take_eq_take_iff]
    simp
    omega
  rw [e]; exact h

theorem TabOk.mono {ps : Array Value} {ex ex' : List (Addr × Obj)} (h : TabOk ps ex) (sub : ∀ p ∈ ex, p ∈ ex') : TabOk ps ex' :=
  h.imp id fun ⟨c', oc, vs, t, e, hm, r⟩ => ⟨c', oc, vs, t, e, sub _ hm, r⟩
theorem casts_mem {ns : List Nat} {M : Int} (h : M ∈ casts ns) : ∃ k ∈ ns, M = ((k : Nat) : Int) := by
  unfold casts at h
  obtain ⟨k, hk, rfl⟩ := List.mem_map.mp h
  exact ⟨k, hk, rfl⟩
theorem mem_casts {ns : List Nat} {k : Nat} (h : k ∈ ns) : ((k : Nat) : Int) ∈ casts ns := List.mem_map.mpr ⟨k, h, rfl⟩

def fnBody (o : Obj) : List Stmt := match o.data with | .func fd => (match fd.body with | .stmts b => b | _ => []) | _ => []
def fnScope (o : Obj) : Scope := match o.data with | .func fd => fd.scope | _ => { kind := .function, names := [], isGenerator := false, isCoroutine := false }
def forBody : Stmt → List Stmt
  | .For _ _ b _ _ => b
  | _ => []
def stAt : List Stmt → Nat → List Stmt
  | [], _ => []
  | x :: _, 0 => forBody x
  | _ :: r, n + 1 => stAt r n
def innerOf (o : Obj) : List Stmt := stAt (stAt (fnBody o) 4) 1
theorem lk_intro {K : Frag} {a : Addr} {o : Obj} {P : Prop} (k : K.lookup a = some o) (p : K.lookup a = some o → P) : P := p k
theorem lk_subst {K : Frag} {a : Addr} {o o' : Obj} {P : Obj → Prop} (h : K.lookup a = some o) (k : K.lookup a = some o') (p : P o') : P o := by rw [k] at h; cases h; exact p

structure WEnv (w : World) (A : Around) (g : Heap) (o' : Obj) (L' lr ll up : Addr) (vr vl us : List Value) (cu : Nat) (ns lows : List Nat) (common count : Nat) : Prop where
  R : RowOk common count ns lows
  gr : g.IsList lr vr.toArray
  hrI : IntsAre vr (casts ns)
  gl : g.IsList ll vl.toArray
  hlI : IntsAre vl (casts lows)
  hus : IntsAre us (casts (List.range count))
  C87 : CodeHd g 87 85
  hd : A.depth + 3 < recursionLimit
  hu : A.units + 8 * 3 < cLine
  hh : A.handled = none

def WEnd (g : Heap) (L' lk : Addr) (s : Shared) (ex ex' : List (Addr × Obj)) (lv : List Value) (x l r : Nat) (P : (Str → Option Value) → Prop) (f : Flow) (s₂ : Shared) : Prop :=
  f = .next ∧ ∃ h' tk' m' oS' a v3 n3 ps' add nl', s₂ = { s with heap := h', toks := tk' } ∧ Fr g L' h' m' ∧ News g L' h' ((L' + 1 + 1, oS') :: (lk, listOf (List.toArray (lv ++ [.ref a])) nl') :: (85, tabObj ps') :: (add ++ ex)) ∧
    (∃ v, oS'.data = .cell v) ∧ (a, listOf (List.toArray v3) n3) ∈ add ∧ IntsAre v3 (casts [x, l, r]) ∧ TabOk ps' (add ++ ex') ∧ (∀ p ∈ add, p.1 ≠ L' + 1 + 1 ∧ p.1 ≠ lk ∧ p.1 ≠ 85 ∧ ∀ q ∈ ex, p.1 ≠ q.1) ∧ P m'

theorem walk_turn {w : World} {A A₀ : Around} {base g h : Heap} {outer : List Env} {s : Shared} {tk : Nat} {L' lr ll up lk rs : Addr} {mean : ExcName → Option Value} {mg mb m₁ : Str → Option Value} {o' oS o2 : Obj} {vr vl us lv : List Value} {cu nl : Nat} {ps : Array Value} {ns lows : List Nat} {common count : Nat}
    {ex ex' : List (Addr × Obj)} {tc : Tok} {rest q octet size at' : Nat} {t1 t2 t3 t4 t5 : Tok} (hk : (hd.heap_39 w.params).lookup 88 = some o')
    (B : Below A₀ base outer g) (X : (hd.heap_39 w.params).In g) (T : Top vw lo mean mg mb g) (hA : A.frames = some (envOfC (Str.ofString "_law_walk") (fnScope o') L' 88 (.ref 87) :: outer))
    (W : WEnv w A g o' L' lr ll up vr vl us cu ns lows common count)
    (F : Fr g L' h m₁) (N : News g L' h ((L' + 1 + 1, oS) :: (lk, listOf lv.toArray nl) :: (85, tabObj ps) :: ex)) (off : ∀ p ∈ ex, p.1 ≠ L' + 1 + 1 ∧ p.1 ≠ lk ∧ p.1 ≠ 85) (n1 : lk ≠ L' + 1 + 1) (n2 : lk ≠ 85) (n3 : 85 < L')
    (hoS : ∃ v, oS.data = .cell v) (hcl : (L' + 1, o2) ∈ ex) (d2 : o2.data = .cell (some (.ref ll))) (hup : (up, listOf us.toArray cu) ∈ ex) (hps : TabOk ps ex') (hsub : ∀ p ∈ ex', p ∈ ex) (hlv : lv.length ≤ 100)
    (K1 : Kn m₁ [(Str.ofString "row", .ref lr), (Str.ofString "common", .int (common : Int) tc), (Str.ofString "uppers", .ref up), (Str.ofString "looked", .ref lk), (Str.ofString "rests", .ref rs), (Str.ofString "rest", .int (rest : Int) t1), (Str.ofString "quotient", .int (q : Int) t2),
      (Str.ofString "octet", .int (octet : Int) t3), (Str.ofString "size", .int (size : Int) t4), (Str.ofString "at", .int (at' : Int) t5)])
    (hrest : rest < 2 ^ 32) (hq : q < 2 ^ 4000) (hs1 : 1 ≤ size) (hs4 : size ≤ 4) (hat : at' < 8) (hsc : 2 ^ size ≤ count) :
    wpAny (model prog w) A (execs (innerOf o') (envOfC (Str.ofString "_law_walk") (fnScope o') L' 88 (.ref 87)))
      (WEnd g L' lk s ex ex' lv (soughtOf rest octet at' (min size (8 - at'))) (placeL lows (soughtOf rest octet at' (min size (8 - at')))) (placeR lows (soughtOf rest octet at' (min size (8 - at')))) fun m' => ∃ t1 t2,
        Kn m' [(Str.ofString "row", .ref lr), (Str.ofString "common", .int (common : Int) tc), (Str.ofString "uppers", .ref up), (Str.ofString "looked", .ref lk), (Str.ofString "rests", .ref rs),
          (Str.ofString "rest", .int ((soughtOf rest octet at' (min size (8 - at')) ^^^ times (soughtOf rest octet at' (min size (8 - at')) >>> 32) : Nat) : Int) t1),
          (Str.ofString "quotient", .int (((q <<< min size (8 - at')) ||| (soughtOf rest octet at' (min size (8 - at')) >>> 32) : Nat) : Int) t2),
          (Str.ofString "octet", .int (octet : Int) t3), (Str.ofString "size", .int (size : Int) t4)])
      (fun _ _ => False) { s with heap := h, toks := tk } := by
  obtain ⟨R, gr, hrI, gl, hlI, hus, C87, hd, hu, hh⟩ := W
  have hat8 : at' ≤ 8 := Nat.le_of_lt hat
  have hww : min size (8 - at') ≤ size := Nat.min_le_left _ _
  have hw4 : min size (8 - at') ≤ 4 := Nat.le_trans hww hs4
  have hw4096 : min size (8 - at') ≤ 4096 := Nat.le_trans hw4 (by decide)
  have hw32 : min size (8 - at') ≤ 32 := Nat.le_trans hw4 (by decide)
  have hq4096 : q < 2 ^ 4096 := Nat.lt_trans hq (Nat.pow_lt_pow_right (by decide) (by decide))
  have hr4096 : rest < 2 ^ 4096 := Nat.lt_trans hrest (Nat.pow_lt_pow_right (by decide) (by decide))
  have hmin : (if ((8 - at' : Nat) : Int) < (size : Int) then ((8 - at' : Nat) : Int) else (size : Int)) = ((min size (8 - at') : Nat) : Int) := by
    clear hq hq4096 hr4096
    split <;> omega
  have ht4096 : turned (octet >>> at') (min size (8 - at')) < 2 ^ 4096 := Nat.lt_of_lt_of_le (turned_lt _ _) (Nat.pow_le_pow_right (by decide) hw4096)
  have hsu : soughtOf rest octet at' (min size (8 - at')) >>> 32 < count := Nat.lt_of_lt_of_le (sought_upper hrest hww) hsc
  generalize hwd : min size (8 - at') = wd at *
  clear hq
  revert hA
  k_dflt (refine' lk_subst (P := fun o' => A.frames = some (envOfC (Str.ofString "_law_walk") (fnScope o') L' 88 (.ref 87) :: outer) → wpAny (model prog w) A (execs (innerOf o') (envOfC (Str.ofString "_law_walk") (fnScope o') L' 88 (.ref 87))) _ _ _) hk ?k ?_; (case k => k_is))
  intro hA
  dsimp only [fnScope, innerOf, fnBody, stAt, forBody] at hA ⊢
  clear hk
  have hoo : OwnOff ex [L' + 1 + 1, lk, 85] := fun p hp b hb => by
    have := off p hp
    simp only [List.mem_cons, List.not_mem_nil, or_false] at hb
    rcases hb with rfl | rfl | rfl
    · exact this.1
    · exact this.2.1
    · exact this.2.2
  replace F := fr_knows F _ K1
  show wpAny _ _ _ _ _ _
  k_fold
  repeat (first | (k_unfold; try dsimp only) | ((with_reducible refine ite_pos (by decide) ?_); try dsimp only) | ((with_reducible refine ite_neg (by decide) ?_); try dsimp only) | ((fail_if_success (with_reducible show wpAny _ _ (callWith _ (Value.ref _) _ _ _) _ _ _)); (fail_if_success (with_reducible show wpAny _ _ (newList _) _ _ _)); (fail_if_success (with_reducible show wpAny _ _ (subscriptTail _ _ _ _) _ _ _)); (fail_if_success (with_reducible show wpAny _ _ (call (Value.ref _) _ _) _ _ _)); (fail_if_success (with_reducible show wpAny _ _ (exec (Stmt.For _ _ _ _ _) _) _ _ _)); (fail_if_success (with_reducible show wpAny _ _ (exec (Stmt.While _ _ _ _) _) _ _ _)); (fail_if_success (with_reducible show wpAny _ _ (pyIter _) _ _ _)); (fail_if_success (with_reducible show wpAny _ _ (eval (PySem.Expr.Lambda _ _ _ _) _) _ _ _)); (fail_if_success (with_reducible show wpAny _ _ (call (Value.type _) _ _) _ _ _)); (fail_if_success (with_reducible show wpAny _ _ (exec (Stmt.Assign _ (PySem.Expr.ListComp _ _ _ _) _) _) _ _ _)); (fail_if_success (with_reducible refine ite_pos ?_ ?_)); walk1; try dsimp only))
  rename Fr _ _ _ _ => Fx
  rename News _ _ _ _ => Nx
  refine min_two_N hh Fx Nx ?_
  intro h2 tk2 F2 N2
  clear Fx Nx
  dsimp only
  rw [hmin]
  generalize (if ((8 - at' : Nat) : Int) < (size : Int) then _ else t4 : Tok) = t6
  repeat (first | (k_unfold; try dsimp only) | ((with_reducible refine ite_pos (by decide) ?_); try dsimp only) | ((with_reducible refine ite_neg (by decide) ?_); try dsimp only) | ((fail_if_success (with_reducible show wpAny _ _ (subscriptTail _ _ _ _) _ _ _)); (fail_if_success (with_reducible show wpAny _ _ (call (Value.ref _) _ _) _ _ _)); (fail_if_success (with_reducible show wpAny _ _ (exec (Stmt.For _ _ _ _ _) _) _ _ _)); (fail_if_success (with_reducible show wpAny _ _ (exec (Stmt.While _ _ _ _) _) _ _ _)); (fail_if_success (with_reducible show wpAny _ _ (pyIter _) _ _ _)); (fail_if_success (with_reducible show wpAny _ _ (eval (PySem.Expr.Lambda _ _ _ _) _) _ _ _)); (fail_if_success (with_reducible show wpAny _ _ (call (Value.type _) _ _) _ _ _)); (fail_if_success (with_reducible show wpAny _ _ (exec (Stmt.Assign _ (PySem.Expr.ListComp _ _ _ _) _) _) _ _ _)); (fail_if_success (with_reducible refine ite_pos ?_ ?_)); walk1; try dsimp only))
  (with_reducible refine law_turnedI _ _ rfl rfl ?csite hw32 ?_)
  (case csite => exact (site_of B (by assumption) X T hA rfl rfl hd hu hh (by omega)))
  intro t9 h9 tk9 k9; (rename Fr _ _ _ _ => Fx); (rename News _ _ _ _ => Nx); (have F9 := fr_keep Fx k9); (have N9 := news_keep Nx k9); clear Fx Nx; try dsimp only
  repeat (first | (k_unfold; try dsimp only) | ((with_reducible refine ite_pos (by decide) ?_); try dsimp only) | ((with_reducible refine ite_neg (by decide) ?_); try dsimp only) | ((fail_if_success (with_reducible show wpAny _ _ (subscriptTail _ _ _ _) _ _ _)); (fail_if_success (with_reducible show wpAny _ _ (call (Value.ref _) _ _) _ _ _)); (fail_if_success (with_reducible show wpAny _ _ (exec (Stmt.For _ _ _ _ _) _) _ _ _)); (fail_if_success (with_reducible show wpAny _ _ (exec (Stmt.While _ _ _ _) _) _ _ _)); (fail_if_success (with_reducible show wpAny _ _ (pyIter _) _ _ _)); (fail_if_success (with_reducible show wpAny _ _ (eval (PySem.Expr.Lambda _ _ _ _) _) _ _ _)); (fail_if_success (with_reducible show wpAny _ _ (call (Value.type _) _ _) _ _ _)); (fail_if_success (with_reducible show wpAny _ _ (exec (Stmt.Assign _ (PySem.Expr.ListComp _ _ _ _) _) _) _ _ _)); (fail_if_success (with_reducible refine ite_pos ?_ ?_)); walk1; try dsimp only))
  rw [show rest <<< wd ^^^ turned (octet >>> at') wd <<< 32 = soughtOf rest octet at' wd from rfl]
  generalize hsg : soughtOf rest octet at' wd = sg at *
  obtain ⟨v0, hv0⟩ := hoS
  have hof1 : ∀ p ∈ ((lk, listOf lv.toArray nl) :: (85, tabObj ps) :: ex : List (Addr × Obj)), p.1 ≠ L' + 1 + 1 := fun p hp => by
    rcases List.mem_cons.mp hp with rfl | hp
    · exact n1
    · rcases List.mem_cons.mp hp with rfl | hp
      · exact Nat.ne_of_lt (Nat.lt_succ_of_lt (Nat.lt_succ_of_lt n3))
      · exact (off p hp).1
  k_dflt (refine' storeX_C F9 N9 ?sc (UpdF.head hof1) hv0 ?_ ?sa ?sb; (case sa => exact rfl); (case sb => exact rfl); (case sc => exact rfl))
  intro h3 o3 F3 N3 d3
  clear F9 N9
  try dsimp only at N3
  try dsimp only
  repeat (first | (k_unfold; try dsimp only) | ((with_reducible refine ite_pos (by decide) ?_); try dsimp only) | ((with_reducible refine ite_neg (by decide) ?_); try dsimp only) | ((fail_if_success (with_reducible show wpAny _ _ (subscriptTail _ _ _ _) _ _ _)); (fail_if_success (with_reducible show wpAny _ _ (call (Value.ref _) _ _) _ _ _)); (fail_if_success (with_reducible show wpAny _ _ (exec (Stmt.For _ _ _ _ _) _) _ _ _)); (fail_if_success (with_reducible show wpAny _ _ (exec (Stmt.While _ _ _ _) _) _ _ _)); (fail_if_success (with_reducible show wpAny _ _ (pyIter _) _ _ _)); (fail_if_success (with_reducible show wpAny _ _ (eval (PySem.Expr.Lambda _ _ _ _) _) _ _ _)); (fail_if_success (with_reducible show wpAny _ _ (call (Value.type _) _ _) _ _ _)); (fail_if_success (with_reducible show wpAny _ _ (exec (Stmt.Assign _ (PySem.Expr.ListComp _ _ _ _) _) _) _ _ _)); (fail_if_success (with_reducible refine ite_pos ?_ ?_)); walk1; try dsimp only))
  (with_reducible refine bl2 sg ?csite ?cl hrI (by rw [R.len]; exact Nat.le_trans R.le16 (by decide)) R.sorted ?_)
  (case csite => exact (site_of B (by assumption) X T hA rfl rfl hd hu hh (by omega)))
  (case cl => exact gr.at fun o e => Fr.keep (by assumption) _ _ e)
  intro left t7 h7 tk7 k7 hleft
  rename Fr _ _ _ _ => Fx
  rename News _ _ _ _ => Nx
  have F7 := fr_keep Fx k7
  have N7 := news_keep Nx k7
  clear Fx Nx
  try dsimp only
  repeat (first | (k_unfold; try dsimp only) | ((with_reducible refine ite_pos (by decide) ?_); try dsimp only) | ((with_reducible refine ite_neg (by decide) ?_); try dsimp only) | ((fail_if_success (with_reducible show wpAny _ _ (subscriptTail _ _ _ _) _ _ _)); (fail_if_success (with_reducible show wpAny _ _ (call (Value.ref _) _ _) _ _ _)); (fail_if_success (with_reducible show wpAny _ _ (exec (Stmt.For _ _ _ _ _) _) _ _ _)); (fail_if_success (with_reducible show wpAny _ _ (exec (Stmt.While _ _ _ _) _) _ _ _)); (fail_if_success (with_reducible show wpAny _ _ (pyIter _) _ _ _)); (fail_if_success (with_reducible show wpAny _ _ (eval (PySem.Expr.Lambda _ _ _ _) _) _ _ _)); (fail_if_success (with_reducible show wpAny _ _ (call (Value.type _) _ _) _ _ _)); (fail_if_success (with_reducible show wpAny _ _ (exec (Stmt.Assign _ (PySem.Expr.ListComp _ _ _ _) _) _) _ _ _)); (fail_if_success (with_reducible refine ite_pos ?_ ?_)); walk1; try dsimp only))
  rename Fr _ _ _ _ => Fx
  rename News _ _ _ _ => Nx
  refine lam_mk Fx Nx T C87 hps hsub (Nat.ne_of_gt (Nat.lt_succ_of_lt (Nat.lt_succ_of_lt n3))) n2 (fun p hp => (off p hp).2.2) rfl rfl rfl ?_
  intro f c' ctv pm ps' add h8 tk8 F8 N8 hcr htab hadd
  clear Fx Nx
  try dsimp only
  repeat (first | (k_unfold; try dsimp only) | ((with_reducible refine ite_pos (by decide) ?_); try dsimp only) | ((with_reducible refine ite_neg (by decide) ?_); try dsimp only) | ((fail_if_success (with_reducible show wpAny _ _ (subscriptTail _ _ _ _) _ _ _)); (fail_if_success (with_reducible show wpAny _ _ (call (Value.ref _) _ _) _ _ _)); (fail_if_success (with_reducible show wpAny _ _ (exec (Stmt.For _ _ _ _ _) _) _ _ _)); (fail_if_success (with_reducible show wpAny _ _ (exec (Stmt.While _ _ _ _) _) _ _ _)); (fail_if_success (with_reducible show wpAny _ _ (pyIter _) _ _ _)); (fail_if_success (with_reducible show wpAny _ _ (eval (PySem.Expr.Lambda _ _ _ _) _) _ _ _)); (fail_if_success (with_reducible show wpAny _ _ (call (Value.type _) _ _) _ _ _)); (fail_if_success (with_reducible show wpAny _ _ (exec (Stmt.Assign _ (PySem.Expr.ListComp _ _ _ _) _) _) _ _ _)); (fail_if_success (with_reducible refine ite_pos ?_ ?_)); walk1; try dsimp only))
  show wpAny _ _ (call (.ref 32) [.ref up, .int (sg : Int) _] [(Str.ofString "key", .ref f)]) _ _ _
  have hfo := (N8 _ (List.Mem.head _)).1
  have hg8 : g.StaysIn h8 := F8.keep
  have hup8 := (N8 (up, listOf us.toArray cu) (.tail _ (.tail _ (.tail _ (.tail _ (List.mem_append_right _ hup)))))).1
  have hc8 := (N8 (L' + 1, o2) (.tail _ (.tail _ (.tail _ (.tail _ (List.mem_append_right _ hcl)))))).1
  refine brk_gen (n := count) (ks := ns) (fo := _) ?csite hfo rfl ⟨_, hup8, rfl, _, rfl⟩ hus (Nat.le_trans R.le16 (by decide)) R.len R.sorted ?_ ?_
  (case csite => exact (site_of B (by assumption) X T hA rfl rfl hd hu hh (by omega)))
  · intro u t A' s' Q' E' hu' S' hst hQ'
    have hu4096 : u < 2 ^ 4096 := Nat.lt_of_lt_of_le hu' (Nat.le_trans R.le16 (by decide))
    refine wpAny_call (enterL (d := 0) S' (hst _ _ hfo) (hcr.keeps hst) rfl (locs rfl) rfl rfl rfl (by decide) ?_)
    intro L9 h9 F9 N9 X9
    show wpAny _ _ _ _ _ _
    iterate 6 (walk1; try dsimp only)
    k_dflt (refine' nameFr (F9.keep _ _ (hst _ _ hc8)) d2 ?nfc ?_ ?nfk ?nfx ?nfb ?nfn; (case nfc => exact rfl); (case nfk => exact rfl); (case nfx => exact rfl); (case nfb => decide); (case nfn => decide))
    try dsimp only
    walk1
    try dsimp only
    refine subAt (gl.at fun o e => F9.keep _ _ (hst _ _ (hg8 _ _ e))) hlI _ rfl (by rw [R.llen]; exact hu') (by rw [R.llen]; exact Nat.le_trans R.le16 (by decide)) (fun t11 => ?_)
    walk1
    try dsimp only
    rw [(R.low u hu').2]
    exact ⟨F9.keep, hQ' _ _ _ F9.keep⟩
  · intro right t10 h10 tk10 k10 hright
    have F10 := fr_keep F8 k10
    have N10 := news_keep N8 k10
    clear F8
    have hleft2 := R.left_eq hsu hleft
    have hright2 := R.right_eq hsu (by rw [R.len]; exact hright)
    have hrow1000 : ns.length ≤ 1000 := by rw [R.len]; exact Nat.le_trans R.le16 (by decide)
    try dsimp only
    repeat (first | (k_unfold; try dsimp only) | ((with_reducible refine ite_pos (by decide) ?_); try dsimp only) | ((with_reducible refine ite_neg (by decide) ?_); try dsimp only) | ((fail_if_success (with_reducible show wpAny _ _ (callWith _ (Value.ref _) _ _ _) _ _ _)); (fail_if_success (with_reducible show wpAny _ _ (newList _) _ _ _)); (fail_if_success (with_reducible show wpAny _ _ (subscriptTail _ _ _ _) _ _ _)); (fail_if_success (with_reducible show wpAny _ _ (call (Value.ref _) _ _) _ _ _)); (fail_if_success (with_reducible show wpAny _ _ (exec (Stmt.For _ _ _ _ _) _) _ _ _)); (fail_if_success (with_reducible show wpAny _ _ (exec (Stmt.While _ _ _ _) _) _ _ _)); (fail_if_success (with_reducible show wpAny _ _ (pyIter _) _ _ _)); (fail_if_success (with_reducible show wpAny _ _ (eval (PySem.Expr.Lambda _ _ _ _) _) _ _ _)); (fail_if_success (with_reducible show wpAny _ _ (call (Value.type _) _ _) _ _ _)); (fail_if_success (with_reducible show wpAny _ _ (exec (Stmt.Assign _ (PySem.Expr.ListComp _ _ _ _) _) _) _ _ _)); (fail_if_success (with_reducible refine ite_pos ?_ ?_)); walk1; try dsimp only))
    rename Fr _ _ _ _ => Fx
    rename News _ _ _ _ => Nx
    have Ny : News g L' _ ((L' + 1 + 1, o3) :: (lk, listOf lv.toArray nl) :: (85, tabObj ps') :: (add ++ ex)) := fun p hp => Nx p (.tail _ hp)
    refine newList_K Fx Ny ?_ (by rw [sizeLine_eq]; exact Nat.le_of_ble_eq_true rfl)
    intro a h11 F11 N11' lt11
    obtain ⟨v3, hv3I, N11⟩ : ∃ v3, IntsAre v3 (casts [sg, left, right]) ∧ News g L' h11 ((a, listOf (List.toArray v3) 0) :: (L' + 1 + 1, o3) :: (lk, listOf lv.toArray nl) :: (85, tabObj ps') :: (add ++ ex)) := ⟨_, .cons _ _ (.cons _ _ (.cons _ _ .nil)), N11'⟩
    clear Fx Nx Ny N11'
    have hofx : ∀ p ∈ add ++ ex, p.1 ≠ lk := fun p hp => (List.mem_append.mp hp).elim (fun q => (hadd p q).2.1) fun q => (off p q).2.1
    try dsimp only
    walk1
    try dsimp only
    refine append_K F11 N11 (.tail (Nat.ne_of_gt (lt11 _ (.tail _ (.head _)))) (.tail (Ne.symm n1) (.head (fun p hp => by
      rcases List.mem_cons.mp hp with rfl | hp
      · exact Ne.symm n2
      · exact hofx p hp)))) ?_ (by rw [List.size_toArray, sizeLine_eq]; exact Nat.le_trans hlv (by decide))
    intro h12 F12 N12
    rw [List.push_toArray] at N12
    clear F11 N11
    have hleft3 : (left : Int) ≤ (ns.length : Int) := (hleft.2 (by rw [R.len]; exact Int.natCast_nonneg _)).2.1
    try dsimp only
    repeat (first | (k_unfold; try dsimp only) | ((with_reducible refine ite_pos (by decide) ?_); try dsimp only) | ((with_reducible refine ite_neg (by decide) ?_); try dsimp only) | ((fail_if_success (with_reducible show wpAny _ _ (subscriptTail _ _ _ _) _ _ _)); (fail_if_success (with_reducible show wpAny _ _ (call (Value.ref _) _ _) _ _ _)); (fail_if_success (with_reducible show wpAny _ _ (exec (Stmt.For _ _ _ _ _) _) _ _ _)); (fail_if_success (with_reducible show wpAny _ _ (exec (Stmt.While _ _ _ _) _) _ _ _)); (fail_if_success (with_reducible show wpAny _ _ (pyIter _) _ _ _)); (fail_if_success (with_reducible show wpAny _ _ (eval (PySem.Expr.Lambda _ _ _ _) _) _ _ _)); (fail_if_success (with_reducible show wpAny _ _ (call (Value.type _) _ _) _ _ _)); (fail_if_success (with_reducible show wpAny _ _ (exec (Stmt.Assign _ (PySem.Expr.ListComp _ _ _ _) _) _) _ _ _)); (fail_if_success (with_reducible refine ite_pos ?_ ?_)); walk1; try dsimp only))
    (with_reducible refine bl4 sg 0 ((left : Int) - 1) ?csite ?cl hrI hrow1000 R.sorted ?c0 ?c1 ?_)
    (case csite => exact (site_of B (by assumption) X T hA rfl rfl hd hu hh (by omega)))
    (case cl => exact gr.at fun o e => Fr.keep (by assumption) _ _ e)
    (case c0 => exact rfl)
    (case c1 => omega)
    intro lo4 t13 h13 tk13 k13 hlo4
    rename Fr _ _ _ _ => Fx
    rename News _ _ _ _ => Nx
    have F13 := fr_keep Fx k13
    have N13 := news_keep Nx k13
    clear Fx Nx
    try dsimp only
    repeat (first | (k_unfold; try dsimp only) | ((with_reducible refine ite_pos (by decide) ?_); try dsimp only) | ((with_reducible refine ite_neg (by decide) ?_); try dsimp only) | ((fail_if_success (with_reducible show wpAny _ _ (subscriptTail _ _ _ _) _ _ _)); (fail_if_success (with_reducible show wpAny _ _ (call (Value.ref _) _ _) _ _ _)); (fail_if_success (with_reducible show wpAny _ _ (exec (Stmt.For _ _ _ _ _) _) _ _ _)); (fail_if_success (with_reducible show wpAny _ _ (exec (Stmt.While _ _ _ _) _) _ _ _)); (fail_if_success (with_reducible show wpAny _ _ (pyIter _) _ _ _)); (fail_if_success (with_reducible show wpAny _ _ (eval (PySem.Expr.Lambda _ _ _ _) _) _ _ _)); (fail_if_success (with_reducible show wpAny _ _ (call (Value.type _) _ _) _ _ _)); (fail_if_success (with_reducible show wpAny _ _ (exec (Stmt.Assign _ (PySem.Expr.ListComp _ _ _ _) _) _) _ _ _)); (fail_if_success (with_reducible refine ite_pos ?_ ?_)); walk1; try dsimp only))
    (with_reducible refine br3 sg (left + 1) ?csite ?cl hrI hrow1000 R.sorted ?_)
    (case csite => exact (site_of B (by assumption) X T hA rfl rfl hd hu hh (by omega)))
    (case cl => exact gr.at fun o e => Fr.keep (by assumption) _ _ e)
    intro hi4 t14 h14 tk14 k14 hhi4
    rename Fr _ _ _ _ => Fx
    rename News _ _ _ _ => Nx
    have F14 := fr_keep Fx k14
    have N14 := news_keep Nx k14
    clear Fx Nx
    try dsimp only
    obtain ⟨hne1, hne2⟩ := R.near_ne hsu hleft hlo4 hhi4
    repeat (first | (k_unfold; try dsimp only) | ((with_reducible refine ite_pos (by decide) ?_); try dsimp only) | ((with_reducible refine ite_neg (by decide) ?_); try dsimp only) | ((fail_if_success (with_reducible show wpAny _ _ (subscriptTail _ _ _ _) _ _ _)); (fail_if_success (with_reducible show wpAny _ _ (call (Value.ref _) _ _) _ _ _)); (fail_if_success (with_reducible show wpAny _ _ (exec (Stmt.For _ _ _ _ _) _) _ _ _)); (fail_if_success (with_reducible show wpAny _ _ (exec (Stmt.While _ _ _ _) _) _ _ _)); (fail_if_success (with_reducible show wpAny _ _ (pyIter _) _ _ _)); (fail_if_success (with_reducible show wpAny _ _ (eval (PySem.Expr.Lambda _ _ _ _) _) _ _ _)); (fail_if_success (with_reducible show wpAny _ _ (call (Value.type _) _ _) _ _ _)); (fail_if_success (with_reducible show wpAny _ _ (exec (Stmt.Assign _ (PySem.Expr.ListComp _ _ _ _) _) _) _ _ _)); (fail_if_success (with_reducible refine ite_pos ?_ ?_)); walk1; try dsimp only))
    refine slice_list (s := { s with heap := h14, toks := _ }) F14 N14 (gr.at fun o e => F14.keep _ _ e) (.int _ _) (.int _ _) ?_ (by with_unfolding_all rfl) (by intro _; with_unfolding_all rfl) (by rw [List.size_toArray, casts_length hrI, sizeLine_eq]; exact Nat.le_trans hrow1000 (by decide))
    intro h15 F15 N15
    clear F14 N14
    dsimp only at N15
    dsimp only
    have hnI := slice_casts hrI lo4 hi4
    generalize (slicePick vr.toArray (some (lo4 : Int)) (some (hi4 : Int)) none) = nv at N15 hnI
    generalize h14.objs.size + 1 = nr at *
    obtain ⟨nvl, rfl⟩ : ∃ l : List Value, nv = l.toArray := ⟨nv.toList, by simp⟩
    rw [List.toList_toArray] at hnI
    have hnl := casts_length hnI
    have hnl2 : ((ns.take hi4).drop lo4).length ≤ 1000 := by
      rw [List.length_drop, List.length_take]
      exact Nat.le_trans (Nat.sub_le _ _) (Nat.le_trans (Nat.min_le_right _ _) hrow1000)
    have hnpos : 0 < ((ns.take hi4).drop lo4).length := by
      rw [List.length_drop, List.length_take, R.len]
      clear hq4096 hr4096 ht4096
      omega
    repeat (first | (k_unfold; try dsimp only) | ((with_reducible refine ite_pos (by decide) ?_); try dsimp only) | ((with_reducible refine ite_neg (by decide) ?_); try dsimp only) | ((fail_if_success (with_reducible show wpAny _ _ (subscriptTail _ _ _ _) _ _ _)); (fail_if_success (with_reducible show wpAny _ _ (call (Value.ref _) _ _) _ _ _)); (fail_if_success (with_reducible show wpAny _ _ (exec (Stmt.For _ _ _ _ _) _) _ _ _)); (fail_if_success (with_reducible show wpAny _ _ (exec (Stmt.While _ _ _ _) _) _ _ _)); (fail_if_success (with_reducible show wpAny _ _ (pyIter _) _ _ _)); (fail_if_success (with_reducible show wpAny _ _ (eval (PySem.Expr.Lambda _ _ _ _) _) _ _ _)); (fail_if_success (with_reducible show wpAny _ _ (call (Value.type _) _ _) _ _ _)); (fail_if_success (with_reducible show wpAny _ _ (exec (Stmt.Assign _ (PySem.Expr.ListComp _ _ _ _) _) _) _ _ _)); (fail_if_success (with_reducible refine ite_pos ?_ ?_)); walk1; try dsimp only))
    rename Fr _ _ _ _ => Fx
    rename News _ _ _ _ => Nx
    refine LCg.CompSrc.ledger hh Fx Nx (List.Mem.head _) (by rw [List.size_toArray, hnl, sizeLine_eq]; exact Nat.le_trans hnl2 (by decide)) ?_
    intro g16
    refine comp_all (fun i y => ∃ k t, ((ns.take hi4).drop lo4)[i]? = some k ∧ y = Value.int ((sg ^^^ k : Nat) : Int) t) (.inr ⟨_, List.Mem.head _, rfl, _, rfl⟩) ?_ ?_
    · intro i v I oI C oC D ys m₂ h17 tk17 E' hi17 hP hC hx F17 N17
      obtain ⟨k, t17, hk17, rfl⟩ := casts_at hnI hP
      show wpAny _ _ _ _ _ _
      k_fold
      repeat (first | (k_unfold; try dsimp only) | ((with_reducible refine ite_pos (by decide) ?_); try dsimp only) | ((with_reducible refine ite_neg (by decide) ?_); try dsimp only) | ((fail_if_success (with_reducible show wpAny _ _ (subscriptTail _ _ _ _) _ _ _)); (fail_if_success (with_reducible show wpAny _ _ (call (Value.ref _) _ _) _ _ _)); (fail_if_success (with_reducible show wpAny _ _ (exec (Stmt.For _ _ _ _ _) _) _ _ _)); (fail_if_success (with_reducible show wpAny _ _ (exec (Stmt.While _ _ _ _) _) _ _ _)); (fail_if_success (with_reducible show wpAny _ _ (pyIter _) _ _ _)); (fail_if_success (with_reducible show wpAny _ _ (eval (PySem.Expr.Lambda _ _ _ _) _) _ _ _)); (fail_if_success (with_reducible show wpAny _ _ (call (Value.type _) _ _) _ _ _)); (fail_if_success (with_reducible show wpAny _ _ (exec (Stmt.Assign _ (PySem.Expr.ListComp _ _ _ _) _) _) _ _ _)); (fail_if_success (with_reducible refine ite_pos ?_ ?_)); walk1; try dsimp only))
      exact ElEnd.intro (by assumption) (by assumption) ⟨k, _, hk17, rfl⟩
    · intro ys hyl hys
      have hyI : IntsAre ys (casts (((ns.take hi4).drop lo4).map fun y => sg ^^^ y)) := ints_of (by rw [List.length_map, hyl, List.size_toArray, hnl]) (fun i y hiy => by
        obtain ⟨k, t18, hk18, rfl⟩ := hys i y hiy
        exact ⟨_, t18, by rw [List.getElem?_map, hk18]; rfl, rfl⟩)
      unfold LCg.FinE
      intro D h18 tk18 F18 N18 off18
      walk1
      try dsimp only
      refine min_list_N hh F18 N18 (News.isList N18 (List.Mem.head _)) hyI (by rw [casts_len, List.length_map]; exact hnpos) ?_
      intro h19 M t19 tk19 F19 N19 hM hmin
      obtain ⟨Mn, hMn, rfl⟩ := casts_mem hM
      have hres := R.near_min hsu hleft hlo4 hhi4 hMn fun y hy => Int.ofNat_le.mp (hmin _ (mem_casts hy))
      clear F18 N18 Fx Nx
      try dsimp only
      walk1
      try dsimp only
      rw [hres]
      repeat (first | (k_unfold; try dsimp only) | ((with_reducible refine ite_pos (by decide) ?_); try dsimp only) | ((with_reducible refine ite_neg (by decide) ?_); try dsimp only) | ((fail_if_success (with_reducible show wpAny _ _ (subscriptTail _ _ _ _) _ _ _)); (fail_if_success (with_reducible show wpAny _ _ (call (Value.ref _) _ _) _ _ _)); (fail_if_success (with_reducible show wpAny _ _ (exec (Stmt.For _ _ _ _ _) _) _ _ _)); (fail_if_success (with_reducible show wpAny _ _ (exec (Stmt.While _ _ _ _) _) _ _ _)); (fail_if_success (with_reducible show wpAny _ _ (pyIter _) _ _ _)); (fail_if_success (with_reducible show wpAny _ _ (eval (PySem.Expr.Lambda _ _ _ _) _) _ _ _)); (fail_if_success (with_reducible show wpAny _ _ (call (Value.type _) _ _) _ _ _)); (fail_if_success (with_reducible show wpAny _ _ (exec (Stmt.Assign _ (PySem.Expr.ListComp _ _ _ _) _) _) _ _ _)); (fail_if_success (with_reducible refine ite_pos ?_ ?_)); walk1; try dsimp only))
      rename Fr _ _ _ _ => F20
      rename News _ _ _ _ => N20
      rw [hsg, ← hleft2, ← hright2]
      refine ⟨rfl, _, _, _, o3, a, v3, 0, ps', (a, listOf (List.toArray v3) 0) :: add, nl + 1, rfl, F20, (fun p hp => N20 p ?_), ⟨_, d3⟩, List.Mem.head _, hv3I, htab.mono (fun p hp => .tail _ hp), ?_, _, _, rfl, rfl, rfl, rfl, rfl, rfl, rfl, rfl, rfl, trivial⟩
      · simp only [List.mem_cons, List.cons_append] at hp ⊢
        rcases hp with rfl | rfl | rfl | rfl | hp
        · exact .inr (.inr (.inr (.inl rfl)))
        · exact .inr (.inr (.inr (.inr (.inl rfl))))
        · exact .inr (.inr (.inr (.inr (.inr (.inl rfl)))))
        · exact .inr (.inr (.inl rfl))
        · exact .inr (.inr (.inr (.inr (.inr (.inr hp)))))
      · intro p hp
        rcases List.mem_cons.mp hp with rfl | hp
        · exact ⟨Nat.ne_of_gt (lt11 _ (.head _)), Nat.ne_of_gt (lt11 _ (.tail _ (.head _))), Nat.ne_of_gt (lt11 _ (.tail _ (.tail _ (.head _)))), fun q hq => Nat.ne_of_gt (lt11 q (.tail _ (.tail _ (.tail _ (List.mem_append_right _ hq)))))⟩
        · exact hadd p hp

def turns (z : Nat) : Nat := 7 / z + 1
theorem turns_range {z : Nat} (h1 : 1 ≤ z) (h4 : z ≤ 4) : Builtin.Range.small 0 8 (z : Int) = true ∧ Builtin.Range.rangeSize 0 8 (z : Int) = ((turns z : Nat) : Int) := by
  have : z = 1 ∨ z = 2 ∨ z = 3 ∨ z = 4 := by omega
  rcases this with rfl | rfl | rfl | rfl <;> decide
theorem turns_lt {z i : Nat} (h1 : 1 ≤ z) (h4 : z ≤ 4) (hi : i < turns z) : i * z < 8 := by
  have : z = 1 ∨ z = 2 ∨ z = 3 ∨ z = 4 := by omega
  unfold turns at hi
  rcases this with rfl | rfl | rfl | rfl <;> omega
theorem turns_le {z : Nat} (h1 : 1 ≤ z) (h4 : z ≤ 4) : turns z ≤ 8 := by
  have : z = 1 ∨ z = 2 ∨ z = 3 ∨ z = 4 := by omega
  unfold turns
  rcases this with rfl | rfl | rfl | rfl <;> omega
/-- the lists that looked holds -/
def LkOk (lv : List Value) (tr : List (Nat × Nat × Nat)) (ex : List (Addr × Obj)) : Prop :=
  lv.length = tr.length ∧ ∀ (i : Nat) (v : Value), lv[i]? = some v → ∃ a v3 n3 x l r, v = .ref a ∧ (a, listOf (List.toArray v3) n3) ∈ ex ∧ tr[i]? = some (x, l, r) ∧ IntsAre v3 (casts [x, l, r])
theorem LkOk.nil (ex : List (Addr × Obj)) : LkOk [] [] ex := ⟨rfl, fun i v h => by simp at h⟩
theorem LkOk.mono {lv : List Value} {tr : List (Nat × Nat × Nat)} {ex ex' : List (Addr × Obj)} (h : LkOk lv tr ex) (sub : ∀ p ∈ ex, p ∈ ex') : LkOk lv tr ex' :=
  ⟨h.1, fun i v hv => let ⟨a, v3, n3, x, l, r, e, hm, q⟩ := h.2 i v hv; ⟨a, v3, n3, x, l, r, e, sub _ hm, q⟩⟩
theorem LkOk.snoc {lv : List Value} {tr : List (Nat × Nat × Nat)} {ex : List (Addr × Obj)} {a : Addr} {v3 : List Value} {n3 x l r : Nat} (h : LkOk lv tr ex) (hm : (a, listOf (List.toArray v3) n3) ∈ ex) (hI : IntsAre v3 (casts [x, l, r])) : LkOk (lv ++ [.ref a]) (tr ++ [(x, l, r)]) ex := by
  refine ⟨by simp [h.1], fun i v hv => ?_⟩
  by_cases hi : i < lv.length
  · rw [List.getElem?_append_left hi] at hv
    obtain ⟨a', v3', n3', x', l', r', e, hm', ht, hI'⟩ := h.2 i v hv
    exact ⟨a', v3', n3', x', l', r', e, hm', by rw [List.getElem?_append_left (by rw [← h.1]; exact hi)]; exact ht, hI'⟩
  · rw [List.getElem?_append_right (by omega)] at hv
    have hz : i - lv.length = 0 := by
      cases hq : i - lv.length with
      | zero => rfl
      | succ q => rw [hq] at hv; simp at hv
    rw [hz] at hv
    simp at hv
    refine ⟨a, v3, n3, x, l, r, hv.symm, hm, ?_, hI⟩
    rw [List.getElem?_append_right (by rw [← h.1]; omega), ← h.1, hz]; rfl
/-- what the state's numbers keep within -/
def StOk (st : WSt) : Prop := st.1 < 2 ^ 32 ∧ st.2.1 < 2 ^ (4 * st.2.2.length)
theorem StOk.step {lows : List Nat} {octet size at' : Nat} {st : WSt} (h : StOk st) (h4 : size ≤ 4) : StOk (stepW lows octet size at' st) := by
  have hw : min size (8 - at') ≤ 4 := Nat.le_trans (Nat.min_le_left _ _) h4
  have hu := sought_upper (octet := octet) (at' := at') h.1 hw
  unfold stepW StOk
  dsimp only
  refine ⟨rest_lt hu, ?_⟩
  rw [List.length_append, List.length_singleton, Nat.mul_add, Nat.mul_one]
  refine Nat.or_lt_two_pow ?_ ?_
  · rw [Nat.shiftLeft_eq, Nat.pow_add]
    exact Nat.lt_of_lt_of_le (Nat.mul_lt_mul_of_pos_right h.2 (Nat.two_pow_pos _)) (Nat.mul_le_mul_left _ (Nat.pow_le_pow_right (by decide) hw))
  · exact Nat.lt_of_lt_of_le hu (Nat.pow_le_pow_right (by decide) (by omega))
theorem StOk.inner {lows : List Nat} {octet size : Nat} {st : WSt} (h : StOk st) (h4 : size ≤ 4) : ∀ n, StOk (innerW lows octet size n st)
  | 0 => h
  | n + 1 => (StOk.inner h h4 n).step h4
theorem innerW_len (lows : List Nat) (octet size : Nat) (st : WSt) : ∀ n, (innerW lows octet size n st).2.2.length = st.2.2.length + n
  | 0 => rfl
  | n + 1 => by show (stepW lows octet size (n * size) (innerW lows octet size n st)).2.2.length = _; unfold stepW; dsimp only; rw [List.length_append, innerW_len lows octet size st n]; rfl

theorem lk_with {K : Frag} {a : Addr} {o o' : Obj} {P : Prop} (h : K.lookup a = some o) (k : K.lookup a = some o') (p : o = o' → P) : P := p (by rw [k] at h; cases h; rfl)
section
variable {prog : Program} {w : World} {A : Around} {E : Value → Shared → Prop} {s : Shared} {env : Env} {h₀ : Heap} {x : Str} {body : List Stmt} {Q : Flow → Shared → Prop}
/-- a loop over a range; the iterator is told too -/
theorem loopR2 {r : Addr} {a b c : Int} {t u v : Tok} {n : Nat} {m₀ : Str → Option Value} {news : List (Addr × Obj)}
    (hh : A.handled = none) (hr : IsRange s.heap r a b c t u v) (hsm : Builtin.Range.small a b c = true) (hn : Builtin.Range.rangeSize a b c = ((n : Nat) : Int))
    (F : Fr h₀ env.locals s.heap m₀) (N : News h₀ env.locals s.heap news)
    (J : Nat → (Str → Option Value) → List (Addr × Obj) → Prop) (hj : J 0 m₀ news)
    (turn : ∀ i t m₁ news₁ h tk own I, i < n → J i m₁ news₁ → (∀ p ∈ news₁, p.1 ≠ I) → (∀ p ∈ own, p.1 = I) → (∃ o, (I, o) ∈ own) →
      Fr h₀ env.locals h (fun y => if y = x then some (.int (a + i * c) t) else m₁ y) → News h₀ env.locals h (news₁ ++ own) →
      wpAny (model prog w) A (execs body env) (TurnEnd h₀ env.locals I own s (J (i + 1))) E { s with heap := h, toks := tk })
    (done : ∀ m₁ news₁ h tk, J n m₁ news₁ → Fr h₀ env.locals h m₁ → News h₀ env.locals h news₁ → Q .next { s with heap := h, toks := tk }) :
    wpAny (model prog w) A (pyIter (.ref r)) (fun it s₂ => LoopAtV prog w A h₀ env x body Q E it s₂) E s := by
  refine wpAny_pyIter_range hr hsm ?_
  have hlt : ∀ b o, s.heap.get? b = some o → b ≠ s.heap.objs.size := fun b o e => Nat.ne_of_lt (Heap.lt_size e)
  have hI0 : h₀.get? s.heap.objs.size = none := next_is_new F
  refine ⟨s.heap.objs.size, [s.heap.objs.size], [s.heap.objs.size], n, _, _, m₀, news, J, rfl, Walks.range hh s.heap.objs.size a c n, ?_, ?_, ?_, (by show IsRangeIter _ _ _ _ _; rw [hn]; simpa using Heap.get?_push_size _ rfl), F.push _,
    (fun p hp => ⟨Heap.get?_push_of_some _ (N p hp).1, (N p hp).2⟩), hj, ?_, ?_⟩
  · intro hm; exact absurd F.ns.lt ((List.mem_singleton.mp hm) ▸ Nat.lt_irrefl _)
  · intro b hb; rw [List.mem_singleton.mp hb]; exact hI0
  · intro p hp hb; exact hlt _ _ (N p hp).1 (List.mem_singleton.mp hb)
  · rintro i v m₁ news₁ s₁ own ⟨h, tk, rfl⟩ hi ⟨t, rfl⟩ hJ hoff hown _ hall hst F₁ N₁
    refine wpAny_mono (turn i t m₁ news₁ h tk own _ hi hJ (fun p hp e => hoff p hp (List.mem_singleton.mpr e)) (fun p hp => List.mem_singleton.mp (hown p hp)) ⟨_, hall _ (List.mem_singleton.mpr rfl) hI0 _ hst⟩ F₁
      (fun p hp => N₁ p ((List.mem_append.mp hp).elim (fun q => List.mem_append_right _ q) fun q => List.mem_append_left _ q))) (fun f s₂ hf => ?_) fun _ _ e => e
    obtain ⟨rfl, h', tk', m₂, news₂, rfl, F₂, N₂, off₂, hJ₂⟩ := hf
    exact .next ⟨rfl, h', tk', m₂, news₂, rfl, F₂, (fun p hp => N₂ p ((List.mem_append.mp hp).elim (fun q => List.mem_append_right _ q) fun q => List.mem_append_left _ q)), (fun p hp hb => off₂ p hp (List.mem_singleton.mp hb)), hJ₂⟩
  · intro h' tk m' news' F' N' off hJ
    exact done m' news' h' tk hJ F' N'
end

def octOf (o : Obj) : List Stmt := stAt (fnBody o) 4
def OEnd (g : Heap) (L' lk rs : Addr) (s : Shared) (ex ex' : List (Addr × Obj)) (rn : List Nat) (st : WSt) (P : (Str → Option Value) → Prop) (f : Flow) (s₂ : Shared) : Prop :=
  f = .next ∧ ∃ h' tk' m' oS lv nl ps rv nr add, s₂ = { s with heap := h', toks := tk' } ∧ Fr g L' h' m' ∧
    News g L' h' ((L' + 1 + 1, oS) :: (lk, listOf (List.toArray lv) nl) :: (85, tabObj ps) :: (rs, listOf (List.toArray rv) nr) :: (add ++ ex)) ∧
    (∃ v, oS.data = .cell v) ∧ LkOk lv st.2.2 (add ++ ex') ∧ IntsAre rv (casts (rn ++ [st.1])) ∧ TabOk ps (add ++ ex') ∧ (∀ p ∈ add, p.1 ≠ L' + 1 + 1 ∧ p.1 ≠ lk ∧ p.1 ≠ 85 ∧ p.1 ≠ rs ∧ ∀ q ∈ ex, p.1 ≠ q.1) ∧ P m'

theorem walk_octet {w : World} {A A₀ : Around} {base g h : Heap} {outer : List Env} {s : Shared} {tk : Nat} {L' lr ll up lk rs : Addr} {mean : ExcName → Option Value} {mg mb m₁ : Str → Option Value} {o' oS o2 : Obj} {vr vl us lv rv : List Value} {cu nl nr : Nat} {ps : Array Value} {ns lows rn : List Nat} {common count : Nat}
    {ex ex' : List (Addr × Obj)} {tc : Tok} {q octet size : Nat} {tr : List (Nat × Nat × Nat)} {t2 t3 t4 : Tok} (hk : (hd.heap_39 w.params).lookup 88 = some o')
    (B : Below A₀ base outer g) (X : (hd.heap_39 w.params).In g) (T : Top vw lo mean mg mb g) (hA : A.frames = some (envOfC (Str.ofString "_law_walk") (fnScope o') L' 88 (.ref 87) :: outer))
    (W : WEnv w A g o' L' lr ll up vr vl us cu ns lows common count)
    (F : Fr g L' h m₁) (N : News g L' h ((L' + 1 + 1, oS) :: (lk, listOf lv.toArray nl) :: (85, tabObj ps) :: (rs, listOf rv.toArray nr) :: ex)) (off : ∀ p ∈ ex, p.1 ≠ L' + 1 + 1 ∧ p.1 ≠ lk ∧ p.1 ≠ 85 ∧ p.1 ≠ rs) (n1 : lk ≠ L' + 1 + 1) (n2 : lk ≠ 85) (n3 : 85 < L')
    (r1 : rs ≠ L' + 1 + 1) (r2 : rs ≠ lk) (r3 : rs ≠ 85)
    (hoS : ∃ v, oS.data = .cell v) (hcl : (L' + 1, o2) ∈ ex) (d2 : o2.data = .cell (some (.ref ll))) (hup : (up, listOf us.toArray cu) ∈ ex) (hps : TabOk ps ex') (hsub : ∀ p ∈ ex', p ∈ ex) (hlk : LkOk lv tr ex') (htr : tr.length ≤ 80) (hrv : IntsAre rv (casts rn)) (hrn : 1 ≤ rn.length) (hrn2 : rn.length ≤ 20)
    (K1 : Kn m₁ [(Str.ofString "row", .ref lr), (Str.ofString "common", .int (common : Int) tc), (Str.ofString "uppers", .ref up), (Str.ofString "looked", .ref lk), (Str.ofString "rests", .ref rs), (Str.ofString "quotient", .int (q : Int) t2),
      (Str.ofString "octet", .int (octet : Int) t3), (Str.ofString "size", .int (size : Int) t4)])
    (hst : StOk (rn.getD (rn.length - 1) 0, q, tr)) (hs1 : 1 ≤ size) (hs4 : size ≤ 4) (hsc : 2 ^ size ≤ count) :
    wpAny (model prog w) A (execs (octOf o') (envOfC (Str.ofString "_law_walk") (fnScope o') L' 88 (.ref 87)))
      (OEnd g L' lk rs s ex ex' rn (innerW lows octet size (turns size) (rn.getD (rn.length - 1) 0, q, tr)) fun m' => ∃ t2,
        Kn m' [(Str.ofString "row", .ref lr), (Str.ofString "common", .int (common : Int) tc), (Str.ofString "uppers", .ref up), (Str.ofString "looked", .ref lk), (Str.ofString "rests", .ref rs),
          (Str.ofString "quotient", .int (((innerW lows octet size (turns size) (rn.getD (rn.length - 1) 0, q, tr)).2.1 : Nat) : Int) t2)])
      (fun _ _ => False) { s with heap := h, toks := tk } := by
  have inner := fun {h m oS lv nl ps ex ex' s tk rest q at' t1 t2 t5} => @walk_turn w A A₀ base g h outer s tk L' lr ll up lk rs mean mg mb m o' oS o2 vr vl us lv cu nl ps ns lows common count ex ex' tc rest q octet size at' t1 t2 t3 t4 t5 hk B X T hA W
  obtain ⟨R, gr, hrI, gl, hlI, hus, C87, hd, hu, hh⟩ := W
  k_dflt (refine' lk_with hk ?k ?_; (case k => k_is))
  intro e
  subst e
  clear hk
  dsimp only [fnScope, innerOf, octOf, fnBody, stAt, forBody] at hA inner ⊢
  obtain ⟨tr1, tr2⟩ := turns_range hs1 hs4
  generalize hr0 : rn.getD (rn.length - 1) 0 = rest0 at *
  replace F := fr_knows F _ K1
  show wpAny _ _ _ _ _ _
  k_fold
  repeat (first | (k_unfold; try dsimp only) | ((with_reducible refine ite_pos (by decide) ?_); try dsimp only) | ((with_reducible refine ite_neg (by decide) ?_); try dsimp only) | ((fail_if_success (with_reducible show wpAny _ _ (subscriptTail _ _ _ _) _ _ _)); (fail_if_success (with_reducible show wpAny _ _ (call (Value.ref _) _ _) _ _ _)); (fail_if_success (with_reducible show wpAny _ _ (exec (Stmt.For _ _ _ _ _) _) _ _ _)); (fail_if_success (with_reducible show wpAny _ _ (exec (Stmt.While _ _ _ _) _) _ _ _)); (fail_if_success (with_reducible show wpAny _ _ (pyIter _) _ _ _)); (fail_if_success (with_reducible show wpAny _ _ (eval (PySem.Expr.Lambda _ _ _ _) _) _ _ _)); (fail_if_success (with_reducible show wpAny _ _ (call (Value.type _) _ _) _ _ _)); (fail_if_success (with_reducible show wpAny _ _ (exec (Stmt.Assign _ (PySem.Expr.ListComp _ _ _ _) _) _) _ _ _)); (fail_if_success (with_reducible refine ite_pos ?_ ?_)); walk1; try dsimp only))
  refine subNeg (News.isList N (.tail _ (.tail _ (.tail _ (.head _))))) hrv 1 rfl (Nat.le_refl _) hrn (Nat.le_trans hrn2 (by decide)) (fun t5 => ?_)
  rw [hr0]
  repeat (first | (k_unfold; try dsimp only) | ((with_reducible refine ite_pos (by decide) ?_); try dsimp only) | ((with_reducible refine ite_neg (by decide) ?_); try dsimp only) | ((fail_if_success (with_reducible show wpAny _ _ (subscriptTail _ _ _ _) _ _ _)); (fail_if_success (with_reducible show wpAny _ _ (call (Value.ref _) _ _) _ _ _)); (fail_if_success (with_reducible show wpAny _ _ (exec (Stmt.For _ _ _ _ _) _) _ _ _)); (fail_if_success (with_reducible show wpAny _ _ (exec (Stmt.While _ _ _ _) _) _ _ _)); (fail_if_success (with_reducible show wpAny _ _ (pyIter _) _ _ _)); (fail_if_success (with_reducible show wpAny _ _ (eval (PySem.Expr.Lambda _ _ _ _) _) _ _ _)); (fail_if_success (with_reducible show wpAny _ _ (call (Value.type _) _ _) _ _ _)); (fail_if_success (with_reducible show wpAny _ _ (exec (Stmt.Assign _ (PySem.Expr.ListComp _ _ _ _) _) _) _ _ _)); (fail_if_success (with_reducible refine ite_pos ?_ ?_)); walk1; try dsimp only))
  (with_reducible refine For_invV g ?fhx ?fhp ?_ ?fhs ?fhE); (case fhx => exact rfl); (case fhp => exact rfl); (case fhs => intro _; exact rfl); (case fhE => passes_own)
  repeat (first | (k_unfold; try dsimp only) | ((with_reducible refine ite_pos (by decide) ?_); try dsimp only) | ((with_reducible refine ite_neg (by decide) ?_); try dsimp only) | ((fail_if_success (with_reducible show wpAny _ _ (subscriptTail _ _ _ _) _ _ _)); (fail_if_success (with_reducible show wpAny _ _ (call (Value.ref _) _ _) _ _ _)); (fail_if_success (with_reducible show wpAny _ _ (exec (Stmt.For _ _ _ _ _) _) _ _ _)); (fail_if_success (with_reducible show wpAny _ _ (exec (Stmt.While _ _ _ _) _) _ _ _)); (fail_if_success (with_reducible show wpAny _ _ (pyIter _) _ _ _)); (fail_if_success (with_reducible show wpAny _ _ (eval (PySem.Expr.Lambda _ _ _ _) _) _ _ _)); (fail_if_success (with_reducible show wpAny _ _ (call (Value.type _) _ _) _ _ _)); (fail_if_success (with_reducible show wpAny _ _ (exec (Stmt.Assign _ (PySem.Expr.ListComp _ _ _ _) _) _) _ _ _)); (fail_if_success (with_reducible refine ite_pos ?_ ?_)); walk1; try dsimp only))
  rename Fr _ _ _ _ => F2
  rename News _ _ _ _ => N2
  refine call_range_3 (by omega) ?_ (Or.inl (PyProof.noPylong_small (by omega)))
  dsimp only
  have hst0 : StOk (rest0, q, tr) := hst
  have hr80 := turns_le hs1 hs4
  refine loopR2 (n := turns size) hh (IsRange.new ..) tr1 tr2 (F2.push _) (fun p hp => ⟨Heap.get?_push_of_some _ (N2 p hp).1, (N2 p hp).2⟩)
    (fun i m nw => ∃ oS lv nl ps add t1 t2, nw = (L' + 1 + 1, oS) :: (lk, listOf (List.toArray lv) nl) :: (85, tabObj ps) :: (add ++ ((rs, listOf rv.toArray nr) :: ex)) ∧ (∃ v, oS.data = .cell v) ∧ LkOk lv (innerW lows octet size i (rest0, q, tr)).2.2 (add ++ ex') ∧ TabOk ps (add ++ ex') ∧
      (∀ p ∈ add, p.1 ≠ L' + 1 + 1 ∧ p.1 ≠ lk ∧ p.1 ≠ 85 ∧ p.1 ≠ rs ∧ ∀ q ∈ ex, p.1 ≠ q.1) ∧
      Kn m [(Str.ofString "row", .ref lr), (Str.ofString "common", .int (common : Int) tc), (Str.ofString "uppers", .ref up), (Str.ofString "looked", .ref lk), (Str.ofString "rests", .ref rs), (Str.ofString "rest", .int (((innerW lows octet size i (rest0, q, tr)).1 : Nat) : Int) t1),
        (Str.ofString "quotient", .int (((innerW lows octet size i (rest0, q, tr)).2.1 : Nat) : Int) t2), (Str.ofString "octet", .int (octet : Int) t3), (Str.ofString "size", .int (size : Int) t4)])
    ⟨oS, lv, nl, ps, [], _, t2, rfl, hoS, hlk, hps, (fun p hp => nomatch hp), rfl, rfl, rfl, rfl, rfl, rfl, rfl, rfl, rfl, trivial⟩ ?_ ?_
  · rintro i t m₁ news₁ h3 tk3 own I hi ⟨oS, lv, nl, ps, add, t6, t7, rfl, hoS, hlk, hps, hadd, K3⟩ hoff hown hlive F₁ N₁
    have e0 : (0 : Int) + (i : Int) * (size : Int) = ((i * size : Nat) : Int) := by rw [Int.natCast_mul]; omega
    rw [e0] at F₁
    simp only [List.cons_append] at N₁
    replace F₁ := fr_turn F₁ _ K3
    have sti := hst0.inner (lows := lows) (octet := octet) hs4 i
    have stl := innerW_len lows octet size (rest0, q, tr) i
    generalize hsi : innerW lows octet size i (rest0, q, tr) = st at *
    have hlvl := hlk.1
    have I1 : L' + 1 + 1 ≠ I := hoff _ (.head _)
    have I2 : lk ≠ I := hoff _ (.tail _ (.head _))
    have I3 : 85 ≠ I := hoff _ (.tail _ (.tail _ (.head _)))
    have I4 : ∀ p ∈ add ++ ((rs, listOf rv.toArray nr) :: ex), p.1 ≠ I := fun p hp => hoff p (.tail _ (.tail _ (.tail _ hp)))
    refine wpAny_mono (inner (ex := (add ++ ((rs, listOf rv.toArray nr) :: ex)) ++ own) (ex' := add ++ ex') F₁ N₁ ?_ n1 n2 n3 hoS ?_ d2 ?_ hps ?_ ?_ ⟨rfl, rfl, rfl, rfl, rfl, rfl, rfl, rfl, rfl, rfl, trivial⟩ sti.1 ?_ hs1 hs4 (turns_lt hs1 hs4 hi) hsc) ?_ fun _ _ e => e
    · intro p hp
      rcases List.mem_append.mp hp with hp | hp
      · rcases List.mem_append.mp hp with hp | hp
        · exact ⟨(hadd p hp).1, (hadd p hp).2.1, (hadd p hp).2.2.1⟩
        · rcases List.mem_cons.mp hp with rfl | hp
          · exact ⟨r1, r2, r3⟩
          · exact ⟨(off p hp).1, (off p hp).2.1, (off p hp).2.2.1⟩
      · rw [hown p hp]; exact ⟨Ne.symm I1, Ne.symm I2, Ne.symm I3⟩
    · exact List.mem_append_left _ (List.mem_append_right _ (.tail _ hcl))
    · exact List.mem_append_left _ (List.mem_append_right _ (.tail _ hup))
    · exact fun p hp => List.mem_append_left _ ((List.mem_append.mp hp).elim (fun z => List.mem_append_left _ z) fun z => List.mem_append_right _ (.tail _ (hsub p z)))
    · rw [hlvl, stl]; show tr.length + i ≤ 100; omega
    · refine Nat.lt_of_lt_of_le sti.2 (Nat.pow_le_pow_right (by decide) ?_)
      rw [stl]; show 4 * (tr.length + i) ≤ 4000; omega
    · rintro f s₂ ⟨rfl, h', tk', m', oS', a, v3, n3', ps', add', nl', rfl, F', N', hoS', hm, hI3, hps', hadd', t1', t2', K'⟩
      refine TurnEnd.intro ((L' + 1 + 1, oS') :: (lk, listOf (List.toArray (lv ++ [.ref a])) nl') :: (85, tabObj ps') :: ((add' ++ add) ++ ((rs, listOf rv.toArray nr) :: ex))) F' (fun p hp => N' p ?_) ?_ ⟨oS', _, nl', ps', add' ++ add, t1', t2', rfl, hoS', ?_, ?_, ?_, ?_⟩
      · simp only [List.mem_cons, List.mem_append, List.cons_append] at hp ⊢
        simp only [or_assoc] at hp ⊢
        exact hp
      · intro p hp
        rcases List.mem_cons.mp hp with rfl | hp
        · exact I1
        · rcases List.mem_cons.mp hp with rfl | hp
          · exact I2
          · rcases List.mem_cons.mp hp with rfl | hp
            · exact I3
            · rw [List.append_assoc] at hp
              rcases List.mem_append.mp hp with hp | hp
              · intro z
                have alive : ∃ o, (I, o) ∈ own := hlive
                obtain ⟨o, ho⟩ := alive
                exact (hadd' p hp).2.2.2 (I, o) (List.mem_append_right _ ho) z
              · exact I4 p hp
      · show LkOk _ (stepW lows octet size (i * size) (innerW lows octet size i (rest0, q, tr))).2.2 _
        rw [hsi]
        refine LkOk.snoc (hlk.mono fun p hp => ?_) (List.mem_append_left _ (List.mem_append_left _ hm)) hI3
        rw [List.append_assoc]; exact List.mem_append_right _ hp
      · rw [List.append_assoc]; exact hps'
      · intro p hp
        rcases List.mem_append.mp hp with hp | hp
        · refine ⟨(hadd' p hp).1, (hadd' p hp).2.1, (hadd' p hp).2.2.1, (hadd' p hp).2.2.2 (rs, _) (List.mem_append_left _ (List.mem_append_right _ (.head _))), fun z hz => (hadd' p hp).2.2.2 z (List.mem_append_left _ (List.mem_append_right _ (.tail _ hz)))⟩
        · exact hadd p hp
      · show Kn m' [_, _, _, _, _, (Str.ofString "rest", Value.int (((stepW lows octet size (i * size) (innerW lows octet size i (rest0, q, tr))).1 : Nat) : Int) t1'), (Str.ofString "quotient", Value.int (((stepW lows octet size (i * size) (innerW lows octet size i (rest0, q, tr))).2.1 : Nat) : Int) t2'), _, _]
        rw [hsi]
        exact K'
  · rintro m₁ news₁ h3 tk3 ⟨oS, lv, nl, ps, add, t6, t7, rfl, hoS, hlk, hps, hadd, K3⟩ F₁ N₁
    replace F₁ := fr_knows F₁ _ K3
    have hof : ∀ p ∈ ((L' + 1 + 1, oS) :: (lk, listOf (List.toArray lv) nl) :: (85, tabObj ps) :: (add ++ ex) : List (Addr × Obj)), p.1 ≠ rs := fun p hp => by
      rcases List.mem_cons.mp hp with rfl | hp
      · exact Ne.symm r1
      · rcases List.mem_cons.mp hp with rfl | hp
        · exact Ne.symm r2
        · rcases List.mem_cons.mp hp with rfl | hp
          · exact Ne.symm r3
          · exact (List.mem_append.mp hp).elim (fun z => (hadd p z).2.2.2.1) fun z => (off p z).2.2.2
    have N4 : News g L' h3 ((rs, listOf rv.toArray nr) :: (L' + 1 + 1, oS) :: (lk, listOf (List.toArray lv) nl) :: (85, tabObj ps) :: (add ++ ex)) := fun p hp => N₁ p (by
      simp only [List.mem_cons, List.mem_append] at hp ⊢
      rcases hp with hp | hp | hp | hp | hp | hp
      · exact .inr (.inr (.inr (.inr (.inl hp))))
      · exact .inl hp
      · exact .inr (.inl hp)
      · exact .inr (.inr (.inl hp))
      · exact .inr (.inr (.inr (.inl hp)))
      · exact .inr (.inr (.inr (.inr (.inr hp)))))
    clear N₁ inner
    repeat (first | (k_unfold; try dsimp only) | ((with_reducible refine ite_pos (by decide) ?_); try dsimp only) | ((with_reducible refine ite_neg (by decide) ?_); try dsimp only) | ((fail_if_success (with_reducible show wpAny _ _ (subscriptTail _ _ _ _) _ _ _)); (fail_if_success (with_reducible show wpAny _ _ (call (Value.ref _) _ _) _ _ _)); (fail_if_success (with_reducible show wpAny _ _ (exec (Stmt.For _ _ _ _ _) _) _ _ _)); (fail_if_success (with_reducible show wpAny _ _ (exec (Stmt.While _ _ _ _) _) _ _ _)); (fail_if_success (with_reducible show wpAny _ _ (pyIter _) _ _ _)); (fail_if_success (with_reducible show wpAny _ _ (eval (PySem.Expr.Lambda _ _ _ _) _) _ _ _)); (fail_if_success (with_reducible show wpAny _ _ (call (Value.type _) _ _) _ _ _)); (fail_if_success (with_reducible show wpAny _ _ (exec (Stmt.Assign _ (PySem.Expr.ListComp _ _ _ _) _) _) _ _ _)); (fail_if_success (with_reducible refine ite_pos ?_ ?_)); walk1; try dsimp only))
    refine append_K (by assumption) (by assumption) (.head hof) ?_ (by rw [List.size_toArray, casts_length hrv, sizeLine_eq]; exact Nat.le_trans hrn2 (by decide))
    intro h5 F5 N5
    rw [List.push_toArray] at N5
    repeat (first | (k_unfold; try dsimp only) | ((with_reducible refine ite_pos (by decide) ?_); try dsimp only) | ((with_reducible refine ite_neg (by decide) ?_); try dsimp only) | ((fail_if_success (with_reducible show wpAny _ _ (subscriptTail _ _ _ _) _ _ _)); (fail_if_success (with_reducible show wpAny _ _ (call (Value.ref _) _ _) _ _ _)); (fail_if_success (with_reducible show wpAny _ _ (exec (Stmt.For _ _ _ _ _) _) _ _ _)); (fail_if_success (with_reducible show wpAny _ _ (exec (Stmt.While _ _ _ _) _) _ _ _)); (fail_if_success (with_reducible show wpAny _ _ (pyIter _) _ _ _)); (fail_if_success (with_reducible show wpAny _ _ (eval (PySem.Expr.Lambda _ _ _ _) _) _ _ _)); (fail_if_success (with_reducible show wpAny _ _ (call (Value.type _) _ _) _ _ _)); (fail_if_success (with_reducible show wpAny _ _ (exec (Stmt.Assign _ (PySem.Expr.ListComp _ _ _ _) _) _) _ _ _)); (fail_if_success (with_reducible refine ite_pos ?_ ?_)); walk1; try dsimp only))
    refine ⟨rfl, h5, _, _, oS, lv, nl, ps, rv ++ [Value.int (((innerW lows octet size (turns size) (rest0, q, tr)).1 : Nat) : Int) t6], nr + 1, add, rfl, F5, (fun p hp => N5 p ?_), hoS, hlk, ?_, hps, hadd, t7, rfl, rfl, rfl, rfl, rfl, rfl, trivial⟩
    · simp only [List.mem_cons] at hp ⊢
      rcases hp with hp | hp | hp | hp | hp
      · exact .inr (.inl hp)
      · exact .inr (.inr (.inl hp))
      · exact .inr (.inr (.inr (.inl hp)))
      · exact .inl hp
      · exact .inr (.inr (.inr (.inr hp)))
    · unfold casts at hrv ⊢
      rw [List.map_append]
      exact hrv.append (.cons _ _ .nil)

theorem addr_ne {a b : Addr} (h : @Ne Nat a b) : a ≠ b := h

theorem ne85 {h : Heap} {l : Addr} {its : Array Value} {ps : Array Value} (h85 : h.get? 85 = some (tabObj ps)) (hl : h.IsList l its) : l ≠ 85 := by
  rintro rfl
  obtain ⟨o, e, hc, _⟩ := hl
  rw [h85] at e; cases e; cases hc

def outW (lows os sz : List Nat) : Nat → List Nat × Nat × List (Nat × Nat × Nat)
  | 0 => ([2 ^ 32 - 1], 0, [])
  | i + 1 =>
    let p := outW lows os sz i
    let st := innerW lows (os.getD i 0) (sz.getD i 0) (turns (sz.getD i 0)) (p.1.getD (p.1.length - 1) 0, p.2.1, p.2.2)
    (p.1 ++ [st.1], st.2.1, st.2.2)
theorem outW_len (lows os sz : List Nat) : ∀ i, (outW lows os sz i).1.length = i + 1
  | 0 => rfl
  | i + 1 => by show (_ ++ [_]).length = _; rw [List.length_append, outW_len lows os sz i]; rfl
theorem outW_ok (lows os sz : List Nat) (hs : ∀ i, i < os.length → 1 ≤ sz.getD i 0 ∧ sz.getD i 0 ≤ 4) : ∀ i, i ≤ os.length →
    StOk ((outW lows os sz i).1.getD i 0, (outW lows os sz i).2.1, (outW lows os sz i).2.2) ∧ (outW lows os sz i).2.2.length ≤ 8 * i
  | 0, _ => by
    unfold outW StOk
    refine ⟨⟨?_, ?_⟩, ?_⟩ <;> decide
  | i + 1, hi => by
    obtain ⟨a, b⟩ := outW_ok lows os sz hs i (by omega)
    have l := outW_len lows os sz i
    obtain ⟨s1, s4⟩ := hs i (by omega)
    have e : (outW lows os sz i).1.length - 1 = i := by omega
    have st := a.inner (lows := lows) (octet := os.getD i 0) s4 (turns (sz.getD i 0))
    have ln := innerW_len lows (os.getD i 0) (sz.getD i 0) ((outW lows os sz i).1.getD i 0, (outW lows os sz i).2.1, (outW lows os sz i).2.2) (turns (sz.getD i 0))
    have t8 := turns_le s1 s4
    unfold outW
    dsimp only
    rw [e]
    refine ⟨?_, by rw [ln]; show (outW lows os sz i).2.2.length + _ ≤ _; omega⟩
    have g : ((outW lows os sz i).1 ++ [(innerW lows (os.getD i 0) (sz.getD i 0) (turns (sz.getD i 0)) ((outW lows os sz i).1.getD i 0, (outW lows os sz i).2.1, (outW lows os sz i).2.2)).1]).getD (i + 1) 0
        = (innerW lows (os.getD i 0) (sz.getD i 0) (turns (sz.getD i 0)) ((outW lows os sz i).1.getD i 0, (outW lows os sz i).2.1, (outW lows os sz i).2.2)).1 := by
      rw [List.getD_eq_getElem?_getD, List.getElem?_append_right (by omega), l, Nat.sub_self]; rfl
    rw [g]
    exact st
/-- the lists that looked holds, as the heap has them -/
def LkAt (h h0 : Heap) (lv : List Value) (tr : List (Nat × Nat × Nat)) : Prop :=
  lv.length = tr.length ∧ ∀ (i : Nat) (v : Value), lv[i]? = some v → ∃ a v3 n3 x l r, v = .ref a ∧ h.get? a = some (listOf (List.toArray v3) n3) ∧ h0.get? a = none ∧ tr[i]? = some (x, l, r) ∧ IntsAre v3 (casts [x, l, r])

theorem law_walk {w : World} {A : Around} {s : Shared} {Q E : Value → Shared → Prop} {lr ll lo' ls : Addr} {vr vl vo vz : List Value} {ns lows os sz : List Nat} (common count : Nat) {tc : Tok} (S : SiteM w 4 A s.heap 85) (h85 : s.heap.get? 85 = some (tabObj #[]))
    (hr : s.heap.IsList lr vr.toArray) (hrI : IntsAre vr (casts ns)) (hl : s.heap.IsList ll vl.toArray) (hlI : IntsAre vl (casts lows)) (ho : s.heap.IsList lo' vo.toArray) (hoI : IntsAre vo (casts os)) (hz : s.heap.IsList ls vz.toArray) (hzI : IntsAre vz (casts sz))
    (R : RowOk common count ns lows) (hos : os.length ≤ 10) (hsl : sz.length = os.length) (hsz : ∀ z ∈ sz, 1 ≤ z ∧ z ≤ 4 ∧ 2 ^ z ≤ count)
    (hQ : ∀ tp rs lk rv nr lv nl tq h' tk', (∀ b o, b ≠ 85 → s.heap.get? b = some o → h'.get? b = some o) → (∃ ps, h'.get? 85 = some (tabObj ps)) → s.heap.get? tp = none → s.heap.get? rs = none → s.heap.get? lk = none →
      h'.get? tp = some { cls := .type "tuple", data := .seq #[.ref rs, .ref lk, .int (((outW lows os sz os.length).2.1 : Nat) : Int) tq] } → h'.get? rs = some (listOf (List.toArray rv) nr) → IntsAre rv (casts (outW lows os sz os.length).1) →
      h'.get? lk = some (listOf (List.toArray lv) nl) → LkAt h' s.heap lv (outW lows os sz os.length).2.2 → Q (.ref tp) { s with heap := h', toks := tk' }) :
    wpAny (model prog w) A (call (.ref 88) [.ref lr, .int (common : Int) tc, .ref ll, .ref lo', .ref ls]) Q E s := by
  refine wpAny_call ?_
  k_dflt (refine' lk_intro (K := hd.heap_39 w.params) (a := 88) ?k0 ?_; (case k0 => k_is))
  intro hk88
  k_dflt (refine' enterCM (d := 3) S h85 ?k6 ?k7 ?k9 ?kB ?c5 ?c2 ?c3 ?c4 ?_; (case k6 => k_is); (case k7 => k_is); (case k9 => exact BindsTo.of_eq rfl); (case kB => exact rfl); (case c5 => decide +kernel); (case c2 => exact rfl); (case c3 => exact rfl); (case c4 => exact rfl))
  intro base outer g L' h₁ tk mean mg mb cells F N Y hrL gk B X T hd hu hA hh
  k_cells Y
  rename_i o1 o2 d1 d2
  replace d1 : o1.data = .cell none := d1
  replace d2 : o2.data = .cell (some (.ref ll)) := d2
  replace F := fr_knows F [(Str.ofString "row", .ref lr), (Str.ofString "common", .int (common : Int) tc), (Str.ofString "octets", .ref lo'), (Str.ofString "sizes", .ref ls)] ⟨rfl, rfl, rfl, rfl, trivial⟩
  have gr : g.IsList lr vr.toArray := hr.at fun o e => gk _ _ (ne85 h85 hr) e
  have gl : g.IsList ll vl.toArray := hl.at fun o e => gk _ _ (ne85 h85 hl) e
  have go : g.IsList lo' vo.toArray := ho.at fun o e => gk _ _ (ne85 h85 ho) e
  have gz : g.IsList ls vz.toArray := hz.at fun o e => gk _ _ (ne85 h85 hz) e
  have C87 : CodeHd g 87 85 := codeHd_of_K X (by kernel_rfl)
  simp only [List.cons_append, List.nil_append] at N
  have oct := fun {h m oS lv rv nl nr ps rn ex ex' s tk q octet size tr t2 t3 t4} up us cu hus lk rs => @walk_octet w _ _ base g h outer s tk L' lr ll up lk rs mean mg mb m _ oS o2 vr vl us lv rv cu nl nr ps ns lows rn common count ex ex' tc q octet size tr t2 t3 t4 hk88 B X T hA ⟨R, gr, hrI, gl, hlI, hus, C87, hd, hu, hh⟩
  dsimp only [fnScope, octOf, fnBody, stAt, forBody] at oct
  show wpAny _ _ _ _ _ _
  k_fold
  repeat (first | (k_unfold; try dsimp only) | ((with_reducible refine ite_pos (by decide) ?_); try dsimp only) | ((with_reducible refine ite_neg (by decide) ?_); try dsimp only) | ((fail_if_success (with_reducible show wpAny _ _ (callWith _ (Value.ref _) _ _ _) _ _ _)); (fail_if_success (with_reducible show wpAny _ _ (newList _) _ _ _)); (fail_if_success (with_reducible show wpAny _ _ (subscriptTail _ _ _ _) _ _ _)); (fail_if_success (with_reducible show wpAny _ _ (call (Value.ref _) _ _) _ _ _)); (fail_if_success (with_reducible show wpAny _ _ (exec (Stmt.For _ _ _ _ _) _) _ _ _)); (fail_if_success (with_reducible show wpAny _ _ (exec (Stmt.While _ _ _ _) _) _ _ _)); (fail_if_success (with_reducible show wpAny _ _ (pyIter _) _ _ _)); (fail_if_success (with_reducible show wpAny _ _ (eval (PySem.Expr.Lambda _ _ _ _) _) _ _ _)); (fail_if_success (with_reducible show wpAny _ _ (call (Value.type _) _ _) _ _ _)); (fail_if_success (with_reducible show wpAny _ _ (exec (Stmt.Assign _ (PySem.Expr.ListComp _ _ _ _) _) _) _ _ _)); (fail_if_success (with_reducible refine ite_pos ?_ ?_)); walk1; try dsimp only))
  (with_reducible refine lenN (vs := vr) count ?lnl ?lnk ?lnb ?_)
  (case lnl => exact gr.at fun o e => F.keep _ _ e)
  (case lnk => rw [casts_length hrI]; exact R.len)
  (case lnb => have := R.le16; omega)
  dsimp only
  walk1
  try dsimp only
  have hc16 := R.le16
  have hsm : Builtin.Range.small 0 (count : Int) 1 = true := small_one (by decide) (by decide) (by omega) (by omega)
  have hrs : Builtin.Range.rangeSize 0 (count : Int) 1 = ((count : Nat) : Int) := by rw [rangeSize_one]; split <;> omega
  refine call_range_1 ?_
  dsimp only
  walk1
  try dsimp only
  refine kll_range hh (F.push _) (fun p hp => ⟨Heap.get?_push_of_some _ (N p hp).1, (N p hp).2⟩) (IsRange.new ..) hsm hrs (by omega) ?_
  intro up us cu h2 tk2 F2 N2 lt2 hus
  replace hus : IntsAre us (casts (List.range count)) := by
    have e : rangeKs 0 count = casts (List.range count) := by
      unfold rangeKs casts
      apply List.map_congr_left
      intro i _
      omega
    rw [← e]; exact hus
  clear F N
  try dsimp only
  repeat (first | (k_unfold; try dsimp only) | ((with_reducible refine ite_pos (by decide) ?_); try dsimp only) | ((with_reducible refine ite_neg (by decide) ?_); try dsimp only) | ((fail_if_success (with_reducible show wpAny _ _ (callWith _ (Value.ref _) _ _ _) _ _ _)); (fail_if_success (with_reducible show wpAny _ _ (newList _) _ _ _)); (fail_if_success (with_reducible show wpAny _ _ (subscriptTail _ _ _ _) _ _ _)); (fail_if_success (with_reducible show wpAny _ _ (call (Value.ref _) _ _) _ _ _)); (fail_if_success (with_reducible show wpAny _ _ (exec (Stmt.For _ _ _ _ _) _) _ _ _)); (fail_if_success (with_reducible show wpAny _ _ (exec (Stmt.While _ _ _ _) _) _ _ _)); (fail_if_success (with_reducible show wpAny _ _ (pyIter _) _ _ _)); (fail_if_success (with_reducible show wpAny _ _ (eval (PySem.Expr.Lambda _ _ _ _) _) _ _ _)); (fail_if_success (with_reducible show wpAny _ _ (call (Value.type _) _ _) _ _ _)); (fail_if_success (with_reducible show wpAny _ _ (exec (Stmt.Assign _ (PySem.Expr.ListComp _ _ _ _) _) _) _ _ _)); (fail_if_success (with_reducible refine ite_pos ?_ ?_)); walk1; try dsimp only))
  rename Fr _ _ _ _ => Fx
  rename News _ _ _ _ => Nx
  refine newList_K Fx Nx ?_ (by rw [sizeLine_eq]; exact Nat.le_of_ble_eq_true rfl)
  intro rs h3 F3 N3 lt3
  clear Fx Nx
  try dsimp only
  repeat (first | (k_unfold; try dsimp only) | ((with_reducible refine ite_pos (by decide) ?_); try dsimp only) | ((with_reducible refine ite_neg (by decide) ?_); try dsimp only) | ((fail_if_success (with_reducible show wpAny _ _ (callWith _ (Value.ref _) _ _ _) _ _ _)); (fail_if_success (with_reducible show wpAny _ _ (newList _) _ _ _)); (fail_if_success (with_reducible show wpAny _ _ (subscriptTail _ _ _ _) _ _ _)); (fail_if_success (with_reducible show wpAny _ _ (call (Value.ref _) _ _) _ _ _)); (fail_if_success (with_reducible show wpAny _ _ (exec (Stmt.For _ _ _ _ _) _) _ _ _)); (fail_if_success (with_reducible show wpAny _ _ (exec (Stmt.While _ _ _ _) _) _ _ _)); (fail_if_success (with_reducible show wpAny _ _ (pyIter _) _ _ _)); (fail_if_success (with_reducible show wpAny _ _ (eval (PySem.Expr.Lambda _ _ _ _) _) _ _ _)); (fail_if_success (with_reducible show wpAny _ _ (call (Value.type _) _ _) _ _ _)); (fail_if_success (with_reducible show wpAny _ _ (exec (Stmt.Assign _ (PySem.Expr.ListComp _ _ _ _) _) _) _ _ _)); (fail_if_success (with_reducible refine ite_pos ?_ ?_)); walk1; try dsimp only))
  rename Fr _ _ _ _ => Fx
  rename News _ _ _ _ => Nx
  refine newList_K Fx Nx ?_ (by rw [sizeLine_eq]; exact Nat.le_of_ble_eq_true rfl)
  intro lk h4 F4 N4 lt4
  clear Fx Nx
  try dsimp only
  repeat (first | (k_unfold; try dsimp only) | ((with_reducible refine ite_pos (by decide) ?_); try dsimp only) | ((with_reducible refine ite_neg (by decide) ?_); try dsimp only) | ((fail_if_success (with_reducible show wpAny _ _ (callWith _ (Value.ref _) _ _ _) _ _ _)); (fail_if_success (with_reducible show wpAny _ _ (newList _) _ _ _)); (fail_if_success (with_reducible show wpAny _ _ (subscriptTail _ _ _ _) _ _ _)); (fail_if_success (with_reducible show wpAny _ _ (call (Value.ref _) _ _) _ _ _)); (fail_if_success (with_reducible show wpAny _ _ (exec (Stmt.For _ _ _ _ _) _) _ _ _)); (fail_if_success (with_reducible show wpAny _ _ (exec (Stmt.While _ _ _ _) _) _ _ _)); (fail_if_success (with_reducible show wpAny _ _ (pyIter _) _ _ _)); (fail_if_success (with_reducible show wpAny _ _ (eval (PySem.Expr.Lambda _ _ _ _) _) _ _ _)); (fail_if_success (with_reducible show wpAny _ _ (call (Value.type _) _ _) _ _ _)); (fail_if_success (with_reducible show wpAny _ _ (exec (Stmt.Assign _ (PySem.Expr.ListComp _ _ _ _) _) _) _ _ _)); (fail_if_success (with_reducible refine ite_pos ?_ ?_)); walk1; try dsimp only))
  (with_reducible refine wpAny_For ?_ ?fhs)
  (case fhs => intro _; exact rfl)
  repeat (first | (k_unfold; try dsimp only) | ((with_reducible refine ite_pos (by decide) ?_); try dsimp only) | ((with_reducible refine ite_neg (by decide) ?_); try dsimp only) | ((fail_if_success (with_reducible show wpAny _ _ (subscriptTail _ _ _ _) _ _ _)); (fail_if_success (with_reducible show wpAny _ _ (call (Value.ref _) _ _) _ _ _)); (fail_if_success (with_reducible show wpAny _ _ (exec (Stmt.For _ _ _ _ _) _) _ _ _)); (fail_if_success (with_reducible show wpAny _ _ (exec (Stmt.While _ _ _ _) _) _ _ _)); (fail_if_success (with_reducible show wpAny _ _ (pyIter _) _ _ _)); (fail_if_success (with_reducible show wpAny _ _ (eval (PySem.Expr.Lambda _ _ _ _) _) _ _ _)); (fail_if_success (with_reducible show wpAny _ _ (call (Value.type _) _ _) _ _ _)); (fail_if_success (with_reducible show wpAny _ _ (exec (Stmt.Assign _ (PySem.Expr.ListComp _ _ _ _) _) _) _ _ _)); (fail_if_success (with_reducible refine ite_pos ?_ ?_)); walk1; try dsimp only))
  rename Fr _ _ _ _ => F5
  rename News _ _ _ _ => N5
  rename_i h5
  have go5 : h5.IsList lo' vo.toArray := go.at fun o e => F5.keep _ _ e
  have gz5 : h5.IsList ls vz.toArray := gz.at fun o e => F5.keep _ _ e
  refine call_zip_2 go5 gz5 ?_
  intro h6 z1 z2 z3 z4 z5 z6 k6
  try dsimp only
  repeat (first | (k_unfold; try dsimp only) | ((with_reducible refine ite_pos (by decide) ?_); try dsimp only) | ((with_reducible refine ite_neg (by decide) ?_); try dsimp only) | ((fail_if_success (with_reducible show wpAny _ _ (subscriptTail _ _ _ _) _ _ _)); (fail_if_success (with_reducible show wpAny _ _ (call (Value.ref _) _ _) _ _ _)); (fail_if_success (with_reducible show wpAny _ _ (exec (Stmt.For _ _ _ _ _) _) _ _ _)); (fail_if_success (with_reducible show wpAny _ _ (exec (Stmt.While _ _ _ _) _) _ _ _)); (fail_if_success (with_reducible show wpAny _ _ (pyIter _) _ _ _)); (fail_if_success (with_reducible show wpAny _ _ (eval (PySem.Expr.Lambda _ _ _ _) _) _ _ _)); (fail_if_success (with_reducible show wpAny _ _ (call (Value.type _) _ _) _ _ _)); (fail_if_success (with_reducible show wpAny _ _ (exec (Stmt.Assign _ (PySem.Expr.ListComp _ _ _ _) _) _) _ _ _)); (fail_if_success (with_reducible refine ite_pos ?_ ?_)); walk1; try dsimp only))
  refine wpAny_pyIter_zip z1 ?_
  have lt5 : ∀ p ∈ [(lk, listOf #[] 0), (rs, _), (up, listOf us.toArray cu), (L' + 1 + 1, o1), (L' + 1, o2), (85, tabObj #[])], p.1 < h5.objs.size := fun p hp => Heap.lt_size (N5 p hp).1
  have l5k : @LT.lt Nat instLTNat (lk) (h5.objs.size) := lt5 _ (.head _)
  have l5r : @LT.lt Nat instLTNat (rs) (h5.objs.size) := lt5 _ (.tail _ (.head _))
  have l5u : @LT.lt Nat instLTNat (up) (h5.objs.size) := lt5 _ (.tail _ (.tail _ (.head _)))
  have l5c : @LT.lt Nat instLTNat (L' + 1 + 1) (h5.objs.size) := lt5 _ (.tail _ (.tail _ (.tail _ (.head _))))
  clear lt5
  have ltk1 : @LT.lt Nat instLTNat (rs) (lk) := lt4 _ (.head _)
  have ltk2 : @LT.lt Nat instLTNat (L' + 1 + 1) (lk) := lt4 _ (.tail _ (.tail _ (.head _)))
  have ltr2 : @LT.lt Nat instLTNat (L' + 1 + 1) (rs) := lt3 _ (.tail _ (.head _))
  have ltr3 : @LT.lt Nat instLTNat (up) (rs) := lt3 _ (.head _)
  have ltk3 : @LT.lt Nat instLTNat (up) (lk) := lt4 _ (.tail _ (.head _))
  have ltu : @LT.lt Nat instLTNat (L' + 1 + 1) (up) := lt2 _ (.head _)
  have o5 : ∃ o, h5.get? lo' = some o := by obtain ⟨o, e, _⟩ := go5; exact ⟨o, e⟩
  have s5 : ∃ o, h5.get? ls = some o := by obtain ⟨o, e, _⟩ := gz5; exact ⟨o, e⟩
  have l5o : @LT.lt Nat instLTNat (lo') (h5.objs.size) := o5.elim fun o e => Heap.lt_size e
  have l5s : @LT.lt Nat instLTNat (ls) (h5.objs.size) := s5.elim fun o e => Heap.lt_size e
  have gon : ∃ o, g.get? lo' = some o := by obtain ⟨o, e, _⟩ := go; exact ⟨o, e⟩
  have gzn : ∃ o, g.get? ls = some o := by obtain ⟨o, e, _⟩ := gz; exact ⟨o, e⟩
  have n0 : ∀ a o, g.get? a = none → g.get? lo' = some o → lo' ≠ a := fun a o e f q => by rw [q, e] at f; cases f
  have m0 : ∀ a o, g.get? a = none → g.get? ls = some o → ls ≠ a := fun a o e f q => by rw [q, e] at f; cases f
  have gnk : g.get? lk = none := (N5 _ (.head _)).2.2
  have gnr : g.get? rs = none := (N5 _ (.tail _ (.head _))).2.2
  have gnc : g.get? (L' + 1 + 1) = none := (N5 _ (.tail _ (.tail _ (.tail _ (.head _))))).2.2
  have gn8 : g.get? 85 = none := (N5 _ (.tail _ (.tail _ (.tail _ (.tail _ (.tail _ (.head _))))))).2.2
  obtain ⟨ogo, gon⟩ := gon
  obtain ⟨ogz, gzn⟩ := gzn
  have hrL' : @LT.lt Nat instLTNat 85 L' := hrL
  have off7 : ∀ a, a ∈ [lo', ls, h5.objs.size + 2] → a ≠ L' + 1 + 1 ∧ a ≠ lk ∧ a ≠ 85 ∧ a ≠ rs := fun a ha => by
    simp only [List.mem_cons, List.not_mem_nil, or_false] at ha
    rcases ha with rfl | rfl | rfl
    · exact ⟨n0 _ _ gnc gon, n0 _ _ gnk gon, n0 _ _ gn8 gon, n0 _ _ gnr gon⟩
    · exact ⟨m0 _ _ gnc gzn, m0 _ _ gnk gzn, m0 _ _ gn8 gzn, m0 _ _ gnr gzn⟩
    · refine ⟨?_, ?_, ?_, ?_⟩ <;> refine addr_ne ?_ <;> omega
  have gsz : @LE.le Nat instLENat g.objs.size L' := F5.above
  have gnw : ∀ b ∈ [h5.objs.size + 4, h5.objs.size + 3, h5.objs.size, h5.objs.size + 1], g.get? b = none := fun b hb => by
    simp only [List.mem_cons, List.not_mem_nil, or_false] at hb
    refine Heap.get?_none_of_le ?_
    show @LE.le Nat instLENat _ _
    rcases hb with rfl | rfl | rfl | rfl <;> omega
  have hmin : min vo.toArray.size vz.toArray.size = os.length := by rw [List.size_toArray, List.size_toArray, casts_length hoI, casts_length hzI, hsl, Nat.min_self]
  have hsD : ∀ i, i < os.length → 1 ≤ sz.getD i 0 ∧ sz.getD i 0 ≤ 4 := fun i hi => by
    have : sz.getD i 0 ∈ sz := by rw [List.getD_eq_getElem?_getD, List.getElem?_eq_getElem (by omega)]; exact List.getElem_mem _
    exact ⟨(hsz _ this).1, (hsz _ this).2.1⟩
  replace F5 := fr_knows F5 [(Str.ofString "row", .ref lr), (Str.ofString "common", .int (common : Int) tc), (Str.ofString "uppers", .ref up), (Str.ofString "looked", .ref lk), (Str.ofString "rests", .ref rs), (Str.ofString "quotient", .int ((0 : Nat) : Int) _)] ⟨rfl, rfl, rfl, rfl, rfl, rfl, trivial⟩
  have F6 := fr_keep F5 k6
  have N6 : News g L' h6 ((L' + 1 + 1, o1) :: (lk, listOf (List.toArray []) 0) :: (85, tabObj #[]) :: (rs, listOf (List.toArray [_]) 0) :: ([] ++ [(up, listOf us.toArray cu), (L' + 1, o2)])) := fun p hp => news_keep N5 k6 p (by
    simp only [List.mem_cons, List.not_mem_nil, or_false, List.nil_append] at hp ⊢
    rcases hp with hp | hp | hp | hp | hp | hp
    · exact .inr (.inr (.inr (.inl hp)))
    · exact .inl hp
    · exact .inr (.inr (.inr (.inr (.inr hp))))
    · exact .inr (.inl hp)
    · exact .inr (.inr (.inl hp))
    · exact .inr (.inr (.inr (.inr (.inl hp)))))
  refine loopZ (TI := h5.objs.size + 2) (TO := h5.objs.size + 3) (i1 := h5.objs.size) (i2 := h5.objs.size + 1) (l1 := lo') (l2 := ls) (xs := vo.toArray) (ys := vz.toArray) hh
    (by constructor <;> refine addr_ne ?_ <;> omega) ⟨z1, z2, ⟨_, _, z3⟩, z4, z5, go5.at fun o e => k6 _ _ e, gz5.at fun o e => k6 _ _ e⟩ rfl rfl rfl ?hLf gnw ?hnw F6 N6
    (fun i m nw => ∃ oS lv nl ps rv nr add t2, nw = (L' + 1 + 1, oS) :: (lk, listOf (List.toArray lv) nl) :: (85, tabObj ps) :: (rs, listOf (List.toArray rv) nr) :: (add ++ [(up, listOf us.toArray cu), (L' + 1, o2)]) ∧ (∃ v, oS.data = .cell v) ∧
      LkOk lv (outW lows os sz i).2.2 add ∧ IntsAre rv (casts (outW lows os sz i).1) ∧ TabOk ps add ∧ (∀ p ∈ add, p.1 ≠ L' + 1 + 1 ∧ p.1 ≠ lk ∧ p.1 ≠ 85 ∧ p.1 ≠ rs) ∧
      Kn m [(Str.ofString "row", .ref lr), (Str.ofString "common", .int (common : Int) tc), (Str.ofString "uppers", .ref up), (Str.ofString "looked", .ref lk), (Str.ofString "rests", .ref rs), (Str.ofString "quotient", .int (((outW lows os sz i).2.1 : Nat) : Int) t2)])
    ⟨o1, [], 0, #[], _, 0, [], _, rfl, ⟨_, d1⟩, LkOk.nil _, .cons _ _ .nil, ?htab, (fun p hp => nomatch hp), rfl, rfl, rfl, rfl, rfl, rfl, trivial⟩ ?step ?done ?pass
  case hLf =>
    show ¬ (L' ∈ _)
    intro hm
    have gnL : g.get? L' = none := Heap.get?_none_of_le gsz
    simp only [List.mem_cons, List.not_mem_nil, or_false] at hm
    rcases hm with hm | hm | hm | hm | hm | hm | hm
    · exact addr_ne (by omega) hm
    · exact addr_ne (by omega) hm
    · exact addr_ne (by omega) hm
    · exact addr_ne (by omega) hm
    · exact addr_ne (by omega) hm
    · exact n0 _ _ gnL gon hm.symm
    · exact m0 _ _ gnL gzn hm.symm
  case hnw =>
    have lo5 : ∀ a : Addr, @LT.lt Nat instLTNat a h5.objs.size → a ∉ [h5.objs.size + 4, h5.objs.size + 3, h5.objs.size, h5.objs.size + 1] := fun a ha hm => by
      simp only [List.mem_cons, List.not_mem_nil, or_false] at hm
      rcases hm with hm | hm | hm | hm <;> exact addr_ne (by omega) hm
    intro p hp
    simp only [List.mem_cons, List.not_mem_nil, or_false, List.nil_append] at hp
    rcases hp with rfl | rfl | rfl | rfl | rfl | rfl
    · exact lo5 _ l5c
    · exact lo5 _ l5k
    · exact lo5 _ (by show @LT.lt Nat instLTNat 85 _; omega)
    · exact lo5 _ l5r
    · exact lo5 _ l5u
    · exact lo5 _ (by show @LT.lt Nat instLTNat (L' + 1) _; omega)
  case htab => exact .inl rfl
  case pass => passes_own
  case step =>
    rintro i v0 v1 m₁ news₁ h tk7 own hv0 hv1 ⟨oS, lv, nl, ps, rv, nr, add, t7, rfl, hoS, hlk, hrv, hps, hadd, K7⟩ hnw hown hlive F₁ N₁
    obtain ⟨octet, t3, ho3, rfl⟩ := casts_at hoI hv0
    obtain ⟨size, t4, ho4, rfl⟩ := casts_at hzI hv1
    have hi : i < os.length := (List.getElem?_eq_some_iff.mp ho3).1
    have eo : os.getD i 0 = octet := by rw [List.getD_eq_getElem?_getD, ho3]; rfl
    have es : sz.getD i 0 = size := by rw [List.getD_eq_getElem?_getD, ho4]; rfl
    obtain ⟨hs1, hs4, hsc⟩ := hsz size (List.mem_of_getElem? ho4)
    have ok := outW_ok lows os sz hsD i (Nat.le_of_lt hi)
    have olen := outW_len lows os sz i
    have esucc : outW lows os sz (i + 1) = ((outW lows os sz i).1 ++ [(innerW lows octet size (turns size) ((outW lows os sz i).1.getD ((outW lows os sz i).1.length - 1) 0, (outW lows os sz i).2.1, (outW lows os sz i).2.2)).1], (innerW lows octet size (turns size) ((outW lows os sz i).1.getD ((outW lows os sz i).1.length - 1) 0, (outW lows os sz i).2.1, (outW lows os sz i).2.2)).2) := by
      rw [← eo, ← es]; rfl
    replace F₁ := fr_knows F₁ [(Str.ofString "row", .ref lr), (Str.ofString "common", .int (common : Int) tc), (Str.ofString "uppers", .ref up), (Str.ofString "looked", .ref lk), (Str.ofString "rests", .ref rs), (Str.ofString "quotient", .int (((outW lows os sz i).2.1 : Nat) : Int) t7), (Str.ofString "octet", .int (octet : Int) t3), (Str.ofString "size", .int (size : Int) t4)]
      ⟨K7.1, K7.2.1, K7.2.2.1, K7.2.2.2.1, K7.2.2.2.2.1, K7.2.2.2.2.2.1, rfl, rfl, trivial⟩
    have hoff : ∀ p ∈ own, p.1 ≠ L' + 1 + 1 ∧ p.1 ≠ lk ∧ p.1 ≠ 85 ∧ p.1 ≠ rs := fun p hp => by
      have wo : p.1 ∈ [h5.objs.size + 4, h5.objs.size + 3, h5.objs.size, h5.objs.size + 1] → p.1 ≠ L' + 1 + 1 ∧ p.1 ≠ lk ∧ p.1 ≠ 85 ∧ p.1 ≠ rs := fun hm =>
        ⟨fun e => hnw _ (.head _) (e ▸ hm), fun e => hnw _ (.tail _ (.head _)) (e ▸ hm), fun e => hnw _ (.tail _ (.tail _ (.head _))) (e ▸ hm), fun e => hnw _ (.tail _ (.tail _ (.tail _ (.head _)))) (e ▸ hm)⟩
      have := hown p hp
      simp only [List.mem_cons, List.not_mem_nil, or_false] at this
      rcases this with e | e | e | e | e | e | e
      · exact wo (by rw [e]; exact .head _)
      · exact off7 _ (by rw [e]; exact .tail _ (.tail _ (.head _)))
      · exact wo (by rw [e]; exact .tail _ (.head _))
      · exact wo (by rw [e]; exact .tail _ (.tail _ (.head _)))
      · exact wo (by rw [e]; exact .tail _ (.tail _ (.tail _ (.head _))))
      · exact off7 _ (by rw [e]; exact .head _)
      · exact off7 _ (by rw [e]; exact .tail _ (.head _))
    simp only [List.cons_append] at N₁
    refine wpAny_mono (oct (ex := (add ++ [(up, listOf us.toArray cu), (L' + 1, o2)]) ++ own) (ex' := add) (rn := (outW lows os sz i).1) (tr := (outW lows os sz i).2.2) up us cu hus lk rs F₁ N₁ ?_ (addr_ne (by omega)) (addr_ne (by omega)) hrL (addr_ne (by omega)) (addr_ne (by omega)) (addr_ne (by omega)) hoS ?_ d2 ?_ hps ?_ hlk ?_ hrv ?_ ?_ ⟨rfl, rfl, rfl, rfl, rfl, rfl, rfl, rfl, trivial⟩ ?_ hs1 hs4 hsc) ?_ fun _ _ e => e.elim
    · intro p hp
      rcases List.mem_append.mp hp with hp | hp
      · rcases List.mem_append.mp hp with hp | hp
        · exact hadd p hp
        · simp only [List.mem_cons, List.not_mem_nil, or_false] at hp
          rcases hp with rfl | rfl <;> refine ⟨?_, ?_, ?_, ?_⟩ <;> refine addr_ne ?_ <;> dsimp only <;> omega
      · exact hoff p hp
    · exact List.mem_append_left _ (List.mem_append_right _ (.tail _ (.head _)))
    · exact List.mem_append_left _ (List.mem_append_right _ (.head _))
    · exact fun p hp => List.mem_append_left _ (List.mem_append_left _ hp)
    · have := ok.2; omega
    · omega
    · omega
    · rw [olen]; exact ok.1
    · rintro f s₂ ⟨rfl, h', tk', m', oS', lv', nl', ps', rv', nr', add', rfl, F', N', hoS', hlk', hrv', hps', hadd', t2', K'⟩
      refine ⟨rfl, h', tk', m', (L' + 1 + 1, oS') :: (lk, listOf (List.toArray lv') nl') :: (85, tabObj ps') :: (rs, listOf (List.toArray rv') nr') :: ((add' ++ add) ++ [(up, listOf us.toArray cu), (L' + 1, o2)]), rfl, F', (fun p hp => N' p ?_), ?_, oS', lv', nl', ps', rv', nr', add' ++ add, t2', rfl, hoS', ?_, ?_, hps', ?_, ?_⟩
      · simp only [List.mem_cons, List.mem_append, List.cons_append, List.not_mem_nil] at hp ⊢
        simp only [or_assoc] at hp ⊢
        exact hp
      · intro p hp
        rcases List.mem_cons.mp hp with rfl | hp
        · exact hnw (L' + 1 + 1, oS) (.head _)
        · rcases List.mem_cons.mp hp with rfl | hp
          · exact hnw (lk, listOf (List.toArray lv) nl) (.tail _ (.head _))
          · rcases List.mem_cons.mp hp with rfl | hp
            · exact hnw (85, tabObj ps) (.tail _ (.tail _ (.head _)))
            · rcases List.mem_cons.mp hp with rfl | hp
              · exact hnw (rs, listOf (List.toArray rv) nr) (.tail _ (.tail _ (.tail _ (.head _))))
              · rw [List.append_assoc] at hp
                rcases List.mem_append.mp hp with hp | hp
                · intro hm
                  obtain ⟨o, ho⟩ := hlive p.1 hm
                  exact (hadd' p hp).2.2.2.2 (p.1, o) (List.mem_append_right _ ho) rfl
                · exact hnw p (.tail _ (.tail _ (.tail _ (.tail _ hp))))
      · rw [esucc]; exact hlk'
      · rw [esucc]; exact hrv'
      · intro p hp
        rcases List.mem_append.mp hp with hp | hp
        · exact ⟨(hadd' p hp).1, (hadd' p hp).2.1, (hadd' p hp).2.2.1, (hadd' p hp).2.2.2.1⟩
        · exact hadd p hp
      · rw [esucc]; exact K'
  case done =>
    rintro h7 tk7 m7 nw7 F7 N7 ⟨oS, lv, nl, ps, rv, nr, add, t7, rfl, hoS, hlk, hrv, hps, hadd, K7⟩
    rw [hmin] at hlk hrv K7
    clear oct
    replace F7 := fr_knows F7 _ K7
    repeat (first | (k_unfold; try dsimp only) | ((with_reducible refine ite_pos (by decide) ?_); try dsimp only) | ((with_reducible refine ite_neg (by decide) ?_); try dsimp only) | ((fail_if_success (with_reducible show wpAny _ _ (subscriptTail _ _ _ _) _ _ _)); (fail_if_success (with_reducible show wpAny _ _ (call (Value.ref _) _ _) _ _ _)); (fail_if_success (with_reducible show wpAny _ _ (exec (Stmt.For _ _ _ _ _) _) _ _ _)); (fail_if_success (with_reducible show wpAny _ _ (exec (Stmt.While _ _ _ _) _) _ _ _)); (fail_if_success (with_reducible show wpAny _ _ (pyIter _) _ _ _)); (fail_if_success (with_reducible show wpAny _ _ (eval (PySem.Expr.Lambda _ _ _ _) _) _ _ _)); (fail_if_success (with_reducible show wpAny _ _ (call (Value.type _) _ _) _ _ _)); (fail_if_success (with_reducible show wpAny _ _ (exec (Stmt.Assign _ (PySem.Expr.ListComp _ _ _ _) _) _) _ _ _)); (fail_if_success (with_reducible refine ite_pos ?_ ?_)); walk1; try dsimp only))
    rename Fr _ _ _ _ => F8
    rename News _ _ _ _ => N8
    rename_i tp h8 lt8
    show RetM _ _ _ _ _ _
    refine RetM.intro F8 fun keep => ?_
    have fresh : ∀ a, a ≠ 85 → g.get? a = none → s.heap.get? a = none := fun a ha hn => by
      cases q : s.heap.get? a with
      | none => rfl
      | some o => rw [gk _ _ ha q] at hn; cases hn
    show Q (.ref tp) _
    refine hQ tp rs lk rv nr lv nl t7 h8 tk7 keep ⟨ps, (N8 _ (.tail _ (.tail _ (.tail _ (.head _))))).1⟩ (fresh tp (Ne.symm (Nat.ne_of_lt lt8.2.2.1)) (N8 _ (.head _)).2.2) (fresh rs (addr_ne (by omega)) gnr) (fresh lk (addr_ne (by omega)) gnk)
      (N8 _ (.head _)).1 (N8 _ (.tail _ (.tail _ (.tail _ (.tail _ (.head _)))))).1 hrv (N8 _ (.tail _ (.tail _ (.head _)))).1 ⟨hlk.1, fun i v hv => ?_⟩
    obtain ⟨a, v3, n3, x, l, r, e1, hm, e2, e3⟩ := hlk.2 i v hv
    have na := N8 (a, listOf (List.toArray v3) n3) (.tail _ (.tail _ (.tail _ (.tail _ (.tail _ (List.mem_append_left _ hm))))))
    exact ⟨a, v3, n3, x, l, r, e1, na.1, fresh a (hadd _ hm).2.2.1 na.2.2, e2, e3⟩

structure LEnv (w : World) (A A₀ : Around) (base g : Heap) (outer : List Env) (mean : ExcName → Option Value) (mg mb : Str → Option Value) (L fa : Addr) (cd : Value) (o' : Obj) (sc : Addr) (vs : List Value) (ws : List Int) : Prop where
  hk : (hd.heap_39 w.params).lookup 107 = some o'
  B : Below A₀ base outer g
  X : (hd.heap_39 w.params).In g
  T : Top vw lo mean mg mb g
  hA : A.frames = some (envOfC (Str.ofString "law") (fnScope o') L fa cd :: outer)
  hd : A.depth + 9 < recursionLimit
  hu : A.units + 8 * 9 < cLine
  hh : A.handled = none
  sc : g.IsList sc vs.toArray
  hI : IntsAre vs ws
  h63 : ws.length ≤ 63
  h85 : @LT.lt Nat instLTNat (85) (L)
def numsOf (ws : List Int) : List Int := 592 :: 587 :: ws.take 8
def octsOf (ws : List Int) : List Nat := (numsOf ws).map fun z => (z % 256).toNat
def widestOf (ws : List Int) : Nat := 2 + (ws.take 8).length / 3
def sizesOf (ws : List Int) : List Nat := (List.range (numsOf ws).length).map fun k => widestOf ws - (((numsOf ws).getD k 0 / 256 + k) % 2).toNat

theorem law_1 {w : World} {A A₀ : Around} {base g h : Heap} {outer : List Env} {s : Shared} {tk : Nat} {mean : ExcName → Option Value} {mg mb m : Str → Option Value} {L fa : Addr} {cd : Value} {o' : Obj} {sc : Addr} {vs : List Value} {ws : List Int} {o1 o2 o3 o4 : Obj} {Q : Flow → Shared → Prop} {E : Value → Shared → Prop}
    (Z : LEnv w A A₀ base g outer mean mg mb L fa cd o' sc vs ws) (F : Fr g L h m) (K1 : Kn m [(Str.ofString "script", .ref sc)])
    (N : News g L h [(L + 1 + 1 + 1 + 1, o4), (L + 1 + 1 + 1, o3), (L + 1 + 1, o2), (L + 1, o1), (85, tabObj #[])]) (d1 : o1.data = .cell none) (d2 : o2.data = .cell none) (d3 : o3.data = .cell none) (d4 : o4.data = .cell none)
    (next : ∀ oc ov on sz zv zn nu nv nn tw o1 o2 h' tk' m', Fr g L h' m' → Kn m' [(Str.ofString "octets", .ref oc), (Str.ofString "sizes", .ref sz)] →
      News g L h' [(sz, listOf (List.toArray zv) zn), (oc, listOf (List.toArray ov) on), (nu, listOf (List.toArray nv) nn), (L + 1 + 1 + 1 + 1, o4), (L + 1 + 1 + 1, o3), (L + 1 + 1, o2), (L + 1, o1), (85, tabObj #[])] →
      o1.data = .cell (some (.ref nu)) → o2.data = .cell (some (.int (widestOf ws : Nat) tw)) → IntsAre ov (casts (octsOf ws)) → IntsAre zv (casts (sizesOf ws)) → IntsAre nv (numsOf ws) →
      (∀ a ∈ [sz, oc, nu], @Ne Nat a 85 ∧ @Ne Nat a (L + 1) ∧ @Ne Nat a (L + 1 + 1) ∧ @Ne Nat a (L + 1 + 1 + 1) ∧ @Ne Nat a (L + 1 + 1 + 1 + 1)) →
      wpAny (model prog w) A (execs ((fnBody o').drop 4) (envOfC (Str.ofString "law") (fnScope o') L fa cd)) Q E { s with heap := h', toks := tk' }) :
    wpAny (model prog w) A (execs (fnBody o') (envOfC (Str.ofString "law") (fnScope o') L fa cd)) Q E { s with heap := h, toks := tk } := by
  obtain ⟨hk, B, X, T, hA, hd, hu, hh, gsc, hI, h63, h85⟩ := Z
  k_dflt (refine' lk_with hk ?k ?_; (case k => k_is))
  intro e
  subst e
  clear hk
  dsimp only [fnScope, fnBody, List.drop] at hA next ⊢
  replace F := fr_knows F _ K1
  show wpAny _ _ _ _ _ _
  repeat (first | (k_unfold; try dsimp only) | ((with_reducible refine ite_pos (by decide) ?_); try dsimp only) | ((with_reducible refine ite_neg (by decide) ?_); try dsimp only) | ((fail_if_success (with_reducible show wpAny _ _ (subscriptTail _ _ _ _) _ _ _)); (fail_if_success (with_reducible show wpAny _ _ (call (Value.ref _) _ _) _ _ _)); (fail_if_success (with_reducible show wpAny _ _ (exec (Stmt.For _ _ _ _ _) _) _ _ _)); (fail_if_success (with_reducible show wpAny _ _ (exec (Stmt.While _ _ _ _) _) _ _ _)); (fail_if_success (with_reducible show wpAny _ _ (pyIter _) _ _ _)); (fail_if_success (with_reducible show wpAny _ _ (eval (PySem.Expr.Lambda _ _ _ _) _) _ _ _)); (fail_if_success (with_reducible show wpAny _ _ (call (Value.type _) _ _) _ _ _)); (fail_if_success (with_reducible show wpAny _ _ (exec (Stmt.Assign _ (PySem.Expr.ListComp _ _ _ _) _) _) _ _ _)); (fail_if_success (with_reducible refine ite_pos ?_ ?_)); walk1; try dsimp only))
  rename Fr _ _ _ _ => Fx
  rename News _ _ _ _ => Nx
  rename_i lit h2 _
  have h8 : (ws.take 8).length ≤ 8 := by rw [List.length_take]; omega
  have hvl := hI.length
  refine kmk_slice_ints (s := { s with heap := h2, toks := _ }) (lo := none) (hi := some 8) (ms := ws.take 8) Fx Nx (gsc.at fun o e => Fx.keep _ _ e) .none (.int _ _) hI (kmk_upto hI (by decide)) rfl ?_ (by with_unfolding_all rfl) (by intro _; with_unfolding_all rfl) (by rw [List.size_toArray, hvl, sizeLine_eq]; exact Nat.le_trans h63 (by decide))
  intro sl sv h3 F3 N3 lt3 hsv _ _
  clear Fx Nx
  dsimp only
  refine kmk_add_ints (ns := [592, 587]) (ms := ws.take 8) F3 N3 (News.isList N3 (.tail _ (.head _))) (News.isList N3 (.head _)) (.cons _ _ (.cons _ _ .nil)) hsv ?_ (by rw [sizeLine_eq]; exact Nat.le_trans (Nat.add_le_add_left h8 2) (by decide))
  intro nu nv h4 F4 N4' lt4 hnv
  replace hnv : IntsAre nv (numsOf ws) := hnv
  have hn10 : (numsOf ws).length ≤ 10 := by show (ws.take 8).length + 1 + 1 ≤ 10; omega
  have hnl : nv.length = (numsOf ws).length := hnv.length
  have N4 : News g L h4 [(nu, listOf (List.toArray nv) 0), (L + 1 + 1 + 1 + 1, o4), (L + 1 + 1 + 1, o3), (L + 1 + 1, o2), (L + 1, o1), (85, tabObj #[])] := fun p hp => N4' p (by
    rcases List.mem_cons.mp hp with rfl | hp
    · exact .head _
    · exact .tail _ (.tail _ (.tail _ hp)))
  have l4 : @LT.lt Nat instLTNat (L + 1 + 1 + 1 + 1) (nu) ∧ @LT.lt Nat instLTNat (L + 1 + 1 + 1) (nu) ∧ @LT.lt Nat instLTNat (L + 1 + 1) (nu) ∧ @LT.lt Nat instLTNat (L + 1) (nu) ∧ @LT.lt Nat instLTNat (85) (nu) := ⟨lt4 _ (.tail _ (.tail _ (.head _))), lt4 _ (.tail _ (.tail _ (.tail _ (.head _)))), lt4 _ (.tail _ (.tail _ (.tail _ (.tail _ (.head _))))), lt4 _ (.tail _ (.tail _ (.tail _ (.tail _ (.tail _ (.head _)))))), lt4 _ (.tail _ (.tail _ (.tail _ (.tail _ (.tail _ (.tail _ (.head _)))))))⟩
  clear F3 N3 N4' lt4 lt3 hsv sv
  dsimp only
  k_dflt (refine' storeX_C F4 N4 ?sc ?su d1 ?_ ?sa ?sb; (case sa => exact rfl); (case sb => exact rfl); (case sc => exact rfl); (case su => k_updF))
  intro h5 o5 F5 N5 d5
  clear F4 N4
  try dsimp only at N5
  try dsimp only
  repeat (first | (k_unfold; try dsimp only) | ((with_reducible refine ite_pos (by decide) ?_); try dsimp only) | ((with_reducible refine ite_neg (by decide) ?_); try dsimp only) | ((fail_if_success (with_reducible show wpAny _ _ (subscriptTail _ _ _ _) _ _ _)); (fail_if_success (with_reducible show wpAny _ _ (call (Value.ref _) _ _) _ _ _)); (fail_if_success (with_reducible show wpAny _ _ (exec (Stmt.For _ _ _ _ _) _) _ _ _)); (fail_if_success (with_reducible show wpAny _ _ (exec (Stmt.While _ _ _ _) _) _ _ _)); (fail_if_success (with_reducible show wpAny _ _ (pyIter _) _ _ _)); (fail_if_success (with_reducible show wpAny _ _ (eval (PySem.Expr.Lambda _ _ _ _) _) _ _ _)); (fail_if_success (with_reducible show wpAny _ _ (call (Value.type _) _ _) _ _ _)); (fail_if_success (with_reducible show wpAny _ _ (exec (Stmt.Assign _ (PySem.Expr.ListComp _ _ _ _) _) _) _ _ _)); (fail_if_success (with_reducible refine ite_pos ?_ ?_)); walk1; try dsimp only))
  k_dflt (refine LCg.Assign_ListComp_U (F₀ := by assumption) (by rfl) (by with_unfolding_all rfl) (by with_unfolding_all rfl) (by decide) (by rfl) (by decide) (by rfl) (by rfl) (by rfl) ?_)
  repeat (first | (k_unfold; try dsimp only) | ((with_reducible refine ite_pos (by decide) ?_); try dsimp only) | ((with_reducible refine ite_neg (by decide) ?_); try dsimp only) | ((fail_if_success (with_reducible show wpAny _ _ (subscriptTail _ _ _ _) _ _ _)); (fail_if_success (with_reducible show wpAny _ _ (call (Value.ref _) _ _) _ _ _)); (fail_if_success (with_reducible show wpAny _ _ (exec (Stmt.For _ _ _ _ _) _) _ _ _)); (fail_if_success (with_reducible show wpAny _ _ (exec (Stmt.While _ _ _ _) _) _ _ _)); (fail_if_success (with_reducible show wpAny _ _ (pyIter _) _ _ _)); (fail_if_success (with_reducible show wpAny _ _ (eval (PySem.Expr.Lambda _ _ _ _) _) _ _ _)); (fail_if_success (with_reducible show wpAny _ _ (call (Value.type _) _ _) _ _ _)); (fail_if_success (with_reducible show wpAny _ _ (exec (Stmt.Assign _ (PySem.Expr.ListComp _ _ _ _) _) _) _ _ _)); (fail_if_success (with_reducible refine ite_pos ?_ ?_)); walk1; try dsimp only))
  refine LCg.CompSrc.ledger hh F5 N5 (List.Mem.head _) (by rw [List.size_toArray, hnl, sizeLine_eq]; exact Nat.le_trans hn10 (by decide)) ?_
  intro g6
  refine comp_all (fun i y => ∃ k t, (octsOf ws)[i]? = some k ∧ y = Value.int ((k : Nat) : Int) t) (.inr ⟨_, List.Mem.head _, rfl, _, rfl⟩) ?_ ?_
  · intro i v I oI C oC D ys m₂ h6 tk6 E' hi6 hP hC hx F6 N6
    obtain ⟨k, t6, rfl, hk6⟩ := hnv.at i v (by simpa using hP)
    show wpAny _ _ _ _ _ _
    k_fold
    repeat (first | (k_unfold; try dsimp only) | ((with_reducible refine ite_pos (by decide) ?_); try dsimp only) | ((with_reducible refine ite_neg (by decide) ?_); try dsimp only) | ((fail_if_success (with_reducible show wpAny _ _ (subscriptTail _ _ _ _) _ _ _)); (fail_if_success (with_reducible show wpAny _ _ (call (Value.ref _) _ _) _ _ _)); (fail_if_success (with_reducible show wpAny _ _ (exec (Stmt.For _ _ _ _ _) _) _ _ _)); (fail_if_success (with_reducible show wpAny _ _ (exec (Stmt.While _ _ _ _) _) _ _ _)); (fail_if_success (with_reducible show wpAny _ _ (pyIter _) _ _ _)); (fail_if_success (with_reducible show wpAny _ _ (eval (PySem.Expr.Lambda _ _ _ _) _) _ _ _)); (fail_if_success (with_reducible show wpAny _ _ (call (Value.type _) _ _) _ _ _)); (fail_if_success (with_reducible show wpAny _ _ (exec (Stmt.Assign _ (PySem.Expr.ListComp _ _ _ _) _) _) _ _ _)); (fail_if_success (with_reducible refine ite_pos ?_ ?_)); walk1; try dsimp only))
    refine ElEnd.intro (by assumption) (by assumption) ⟨(k % 256).toNat, tk6 + 1, ?_, ?_⟩
    · unfold octsOf; rw [List.getElem?_map, hk6]; rfl
    · rw [Int.fmod_eq_emod_of_nonneg _ (by decide), Int.toNat_of_nonneg (Int.emod_nonneg _ (by decide))]
  · intro ys hyl hys
    unfold LCg.FinA
    intro oc h7 tk7 F7 N7 off7
    have hyI : IntsAre ys (casts (octsOf ws)) := ints_of (by rw [hyl, List.size_toArray, hnl]; unfold octsOf; rw [List.length_map]) hys
    dsimp only
    repeat (first | (k_unfold; try dsimp only) | ((with_reducible refine ite_pos (by decide) ?_); try dsimp only) | ((with_reducible refine ite_neg (by decide) ?_); try dsimp only) | ((fail_if_success (with_reducible show wpAny _ _ (subscriptTail _ _ _ _) _ _ _)); (fail_if_success (with_reducible show wpAny _ _ (call (Value.ref _) _ _) _ _ _)); (fail_if_success (with_reducible show wpAny _ _ (exec (Stmt.For _ _ _ _ _) _) _ _ _)); (fail_if_success (with_reducible show wpAny _ _ (exec (Stmt.While _ _ _ _) _) _ _ _)); (fail_if_success (with_reducible show wpAny _ _ (pyIter _) _ _ _)); (fail_if_success (with_reducible show wpAny _ _ (eval (PySem.Expr.Lambda _ _ _ _) _) _ _ _)); (fail_if_success (with_reducible show wpAny _ _ (call (Value.type _) _ _) _ _ _)); (fail_if_success (with_reducible show wpAny _ _ (exec (Stmt.Assign _ (PySem.Expr.ListComp _ _ _ _) _) _) _ _ _)); (fail_if_success (with_reducible refine ite_pos ?_ ?_)); walk1; try dsimp only))
    refine kmk_slice_ints (s := { s with heap := h7, toks := _ }) (lo := none) (hi := some 8) (ms := ws.take 8) F7 N7 (gsc.at fun o e => F7.keep _ _ e) .none (.int _ _) hI (kmk_upto hI (by decide)) rfl ?_ (by with_unfolding_all rfl) (by intro _; with_unfolding_all rfl) (by rw [List.size_toArray, hvl, sizeLine_eq]; exact Nat.le_trans h63 (by decide))
    intro sl sv h8' F8 N8 lt8 hsv _ _
    clear F7 N7
    dsimp only
    repeat (first | (k_unfold; try dsimp only) | ((with_reducible refine ite_pos (by decide) ?_); try dsimp only) | ((with_reducible refine ite_neg (by decide) ?_); try dsimp only) | ((fail_if_success (with_reducible show wpAny _ _ (subscriptTail _ _ _ _) _ _ _)); (fail_if_success (with_reducible show wpAny _ _ (call (Value.ref _) _ _) _ _ _)); (fail_if_success (with_reducible show wpAny _ _ (exec (Stmt.For _ _ _ _ _) _) _ _ _)); (fail_if_success (with_reducible show wpAny _ _ (exec (Stmt.While _ _ _ _) _) _ _ _)); (fail_if_success (with_reducible show wpAny _ _ (pyIter _) _ _ _)); (fail_if_success (with_reducible show wpAny _ _ (eval (PySem.Expr.Lambda _ _ _ _) _) _ _ _)); (fail_if_success (with_reducible show wpAny _ _ (call (Value.type _) _ _) _ _ _)); (fail_if_success (with_reducible show wpAny _ _ (exec (Stmt.Assign _ (PySem.Expr.ListComp _ _ _ _) _) _) _ _ _)); (fail_if_success (with_reducible refine ite_pos ?_ ?_)); walk1; try dsimp only))
    rw [show 2 + (List.take 8 ws).length / 3 = widestOf ws from rfl]
    generalize (tk7 + 1 + 1 + 1 + 1 + 1 + 1 : Tok) = tw
    have N9 : News g L h8' [(oc, LCg.lst ys), (nu, listOf nv.toArray 0), (L + 1 + 1 + 1 + 1, o4), (L + 1 + 1 + 1, o3), (L + 1 + 1, o2), (L + 1, o5), (85, tabObj #[])] := fun p hp => N8 p (.tail _ hp)
    clear N8
    have hoff := off7
    unfold LCg.Off1 LCg.Off1 LCg.Off1 LCg.Off1 LCg.Off1 LCg.Off1 LCg.Off1 at hoff
    k_dflt (refine' storeX_C F8 N9 ?sc ?su d2 ?_ ?sa ?sb; (case sa => exact rfl); (case sb => exact rfl); (case sc => exact rfl); (case su => k_updF))
    intro h9 o9 F9 N9' d9
    clear F8 N9
    try dsimp only at N9'
    try dsimp only
    repeat (first | (k_unfold; try dsimp only) | ((with_reducible refine ite_pos (by decide) ?_); try dsimp only) | ((with_reducible refine ite_neg (by decide) ?_); try dsimp only) | ((fail_if_success (with_reducible show wpAny _ _ (subscriptTail _ _ _ _) _ _ _)); (fail_if_success (with_reducible show wpAny _ _ (call (Value.ref _) _ _) _ _ _)); (fail_if_success (with_reducible show wpAny _ _ (exec (Stmt.For _ _ _ _ _) _) _ _ _)); (fail_if_success (with_reducible show wpAny _ _ (exec (Stmt.While _ _ _ _) _) _ _ _)); (fail_if_success (with_reducible show wpAny _ _ (pyIter _) _ _ _)); (fail_if_success (with_reducible show wpAny _ _ (eval (PySem.Expr.Lambda _ _ _ _) _) _ _ _)); (fail_if_success (with_reducible show wpAny _ _ (call (Value.type _) _ _) _ _ _)); (fail_if_success (with_reducible show wpAny _ _ (exec (Stmt.Assign _ (PySem.Expr.ListComp _ _ _ _) _) _) _ _ _)); (fail_if_success (with_reducible refine ite_pos ?_ ?_)); walk1; try dsimp only))
    k_dflt (refine LCg.Assign_ListComp_U (F₀ := by assumption) (by rfl) (by with_unfolding_all rfl) (by with_unfolding_all rfl) (by decide) (by rfl) (by decide) (by rfl) (by rfl) (by rfl) ?_)
    repeat (first | (k_unfold; try dsimp only) | ((with_reducible refine ite_pos (by decide) ?_); try dsimp only) | ((with_reducible refine ite_neg (by decide) ?_); try dsimp only) | ((fail_if_success (with_reducible show wpAny _ _ (callWith _ (Value.ref _) _ _ _) _ _ _)); (fail_if_success (with_reducible show wpAny _ _ (newList _) _ _ _)); (fail_if_success (with_reducible show wpAny _ _ (subscriptTail _ _ _ _) _ _ _)); (fail_if_success (with_reducible show wpAny _ _ (call (Value.ref _) _ _) _ _ _)); (fail_if_success (with_reducible show wpAny _ _ (exec (Stmt.For _ _ _ _ _) _) _ _ _)); (fail_if_success (with_reducible show wpAny _ _ (exec (Stmt.While _ _ _ _) _) _ _ _)); (fail_if_success (with_reducible show wpAny _ _ (pyIter _) _ _ _)); (fail_if_success (with_reducible show wpAny _ _ (eval (PySem.Expr.Lambda _ _ _ _) _) _ _ _)); (fail_if_success (with_reducible show wpAny _ _ (call (Value.type _) _ _) _ _ _)); (fail_if_success (with_reducible show wpAny _ _ (exec (Stmt.Assign _ (PySem.Expr.ListComp _ _ _ _) _) _) _ _ _)); (fail_if_success (with_reducible refine ite_pos ?_ ?_)); walk1; try dsimp only))
    have hsm : Builtin.Range.small 0 ((numsOf ws).length : Int) 1 = true := small_one (by decide) (by decide) (by omega) (by omega)
    have hrs : Builtin.Range.rangeSize 0 ((numsOf ws).length : Int) 1 = (((numsOf ws).length : Nat) : Int) := by rw [rangeSize_one]; split <;> omega
    refine call_range_1 ?_
    dsimp only
    refine LCg.CompSrc.range hh (F9.push _) (fun p hp => ⟨Heap.get?_push_of_some _ (N9' p hp).1, (N9' p hp).2⟩) (IsRange.new ..) hsm hrs (by rw [sizeLine_eq]; exact Nat.le_trans hn10 (by decide)) ?_
    intro g9
    refine comp_all (fun i y => ∃ k t, (sizesOf ws)[i]? = some k ∧ y = Value.int ((k : Nat) : Int) t) trivial ?_ ?_
    · rintro i v I oI C oC D ys m₂ h6 tk6 E' hi6 ⟨t3, rfl⟩ hC hx F6 N6
      rw [Int.zero_add] at hx
      show wpAny _ _ _ _ _ _
      k_fold
      repeat (first | (k_unfold; try dsimp only) | ((with_reducible refine ite_pos (by decide) ?_); try dsimp only) | ((with_reducible refine ite_neg (by decide) ?_); try dsimp only) | ((fail_if_success (with_reducible show wpAny _ _ (subscriptTail _ _ _ _) _ _ _)); (fail_if_success (with_reducible show wpAny _ _ (call (Value.ref _) _ _) _ _ _)); (fail_if_success (with_reducible show wpAny _ _ (exec (Stmt.For _ _ _ _ _) _) _ _ _)); (fail_if_success (with_reducible show wpAny _ _ (exec (Stmt.While _ _ _ _) _) _ _ _)); (fail_if_success (with_reducible show wpAny _ _ (pyIter _) _ _ _)); (fail_if_success (with_reducible show wpAny _ _ (eval (PySem.Expr.Lambda _ _ _ _) _) _ _ _)); (fail_if_success (with_reducible show wpAny _ _ (call (Value.type _) _ _) _ _ _)); (fail_if_success (with_reducible show wpAny _ _ (exec (Stmt.Assign _ (PySem.Expr.ListComp _ _ _ _) _) _) _ _ _)); (fail_if_success (with_reducible refine ite_pos ?_ ?_)); walk1; try dsimp only))
      refine item_list_intsR (News.isList N6 (.tail _ (.tail _ (.tail _ (.tail _ (.head _)))))) hnv (by omega) (by omega) (by omega) (fun t => ?_)
      repeat (first | (k_unfold; try dsimp only) | ((with_reducible refine ite_pos (by decide) ?_); try dsimp only) | ((with_reducible refine ite_neg (by decide) ?_); try dsimp only) | ((fail_if_success (with_reducible show wpAny _ _ (subscriptTail _ _ _ _) _ _ _)); (fail_if_success (with_reducible show wpAny _ _ (call (Value.ref _) _ _) _ _ _)); (fail_if_success (with_reducible show wpAny _ _ (exec (Stmt.For _ _ _ _ _) _) _ _ _)); (fail_if_success (with_reducible show wpAny _ _ (exec (Stmt.While _ _ _ _) _) _ _ _)); (fail_if_success (with_reducible show wpAny _ _ (pyIter _) _ _ _)); (fail_if_success (with_reducible show wpAny _ _ (eval (PySem.Expr.Lambda _ _ _ _) _) _ _ _)); (fail_if_success (with_reducible show wpAny _ _ (call (Value.type _) _ _) _ _ _)); (fail_if_success (with_reducible show wpAny _ _ (exec (Stmt.Assign _ (PySem.Expr.ListComp _ _ _ _) _) _) _ _ _)); (fail_if_success (with_reducible refine ite_pos ?_ ?_)); walk1; try dsimp only))
      have ev : (widestOf ws : Int) - (((numsOf ws).getD (i : Int).toNat 0).fdiv 256 + (i : Int)).fmod 2 = ((widestOf ws - (((numsOf ws).getD i 0 / 256 + i) % 2).toNat : Nat) : Int) := by
        rw [Int.fmod_eq_emod_of_nonneg _ (by decide), Int.fdiv_eq_ediv_of_nonneg _ (by decide), Int.toNat_natCast]
        have w2 : 2 ≤ widestOf ws := by unfold widestOf; omega
        have e2 := Int.emod_nonneg ((numsOf ws).getD i 0 / 256 + (i : Int)) (show (2 : Int) ≠ 0 by decide)
        have e3 := Int.emod_lt_of_pos ((numsOf ws).getD i 0 / 256 + (i : Int)) (show (0 : Int) < 2 by decide)
        generalize ((numsOf ws).getD i 0 / 256 + (i : Int)) % 2 = q at *
        omega
      rw [ev]
      refine ElEnd.intro (by assumption) (by assumption) ⟨_, _, ?_, rfl⟩
      unfold sizesOf
      rw [List.getElem?_map, List.getElem?_range hi6]; rfl
    · intro zs hzl hzs
      unfold LCg.FinA
      intro sz h10 tk10 F10 N10 off10
      have hzI : IntsAre zs (casts (sizesOf ws)) := ints_of (by rw [hzl]; unfold sizesOf; rw [List.length_map, List.length_range]) hzs
      unfold LCg.Off1 LCg.Off1 LCg.Off1 LCg.Off1 LCg.Off1 LCg.Off1 LCg.Off1 at off10
      dsimp only at off10 hoff ⊢
      refine next oc ys _ sz zs _ nu nv 0 tw o5 o9 h10 tk10 _ F10 ⟨rfl, rfl, trivial⟩ N10 d5 d9 hyI hzI hnv ?_
      intro a ha
      simp only [List.mem_cons, List.not_mem_nil, or_false] at ha
      rcases ha with rfl | rfl | rfl <;> refine ⟨?_, ?_, ?_, ?_, ?_⟩ <;> omega

theorem range_ok {n : Nat} (h : n ≤ 1000) : Builtin.Range.small 0 (n : Int) 1 = true ∧ Builtin.Range.rangeSize 0 (n : Int) 1 = ((n : Nat) : Int) :=
  ⟨small_one (by decide) (by decide) (by omega) (by omega), by rw [rangeSize_one]; split <;> omega⟩

theorem news_more {h₀ h h' : Heap} {L l : Addr} {o : Obj} {m : Str → Option Value} {news : List (Addr × Obj)} (F : Fr h₀ L h m) (N : News h₀ L h news) (k : h.StaysIn h') (h0 : h.get? l = none) (ho : h'.get? l = some o) : News h₀ L h' ((l, o) :: news) := fun p hp => by
  rcases List.mem_cons.mp hp with rfl | hp
  · refine ⟨ho, ?_, ?_⟩
    · rintro rfl
      obtain ⟨⟨oL, _, _, hL, _⟩, _, _⟩ := F
      rw [h0] at hL; cases hL
    · cases q : h₀.get? l with
      | none => rfl
      | some o9 => have := F.keep _ _ q; rw [h0] at this; cases this
  · exact news_keep N k p hp
theorem news_ne {h₀ h : Heap} {L l : Addr} {news : List (Addr × Obj)} (N : News h₀ L h news) (h0 : h.get? l = none) : ∀ p ∈ news, @Ne Nat p.1 l := fun p hp e => by
  have := (N p hp).1; rw [show p.1 = l from e, h0] at this; cases this

def lastOf (l : List Nat) (k : Nat) : Nat := l.getD (l.length - k) 0
def commonOf (os : List Nat) : Nat := turned (lastOf (regs os) 1) 32
def aheadOf (os : List Nat) : Nat := lastOf (regs os) 2 ^^^ lastOf os 1
def lowAt (os : List Nat) (u : Nat) : Nat := turned (genCrc (aheadOf os ^^^ turned u 8)) 32
def lowsOf (os : List Nat) (wd : Nat) : List Nat := (List.range (2 ^ wd)).map (lowAt os)

theorem law_2 {w : World} {A A₀ : Around} {base g h : Heap} {outer : List Env} {s : Shared} {tk : Nat} {mean : ExcName → Option Value} {mg mb m : Str → Option Value} {L fa : Addr} {cd : Value} {o' : Obj} {sc : Addr} {vs : List Value} {ws : List Int} {o1 o2 o3 o4 : Obj} {Q : Flow → Shared → Prop} {E : Value → Shared → Prop}
    {oc sz nu : Addr} {ov zv nv : List Value} {on zn nn : Nat} {tw : Tok} {os : List Nat} {wd : Nat}
    (Z : LEnv w A A₀ base g outer mean mg mb L fa cd o' sc vs ws) (F : Fr g L h m) (K1 : Kn m [(Str.ofString "octets", .ref oc), (Str.ofString "sizes", .ref sz)])
    (N : News g L h [(sz, listOf (List.toArray zv) zn), (oc, listOf (List.toArray ov) on), (nu, listOf (List.toArray nv) nn), (L + 1 + 1 + 1 + 1, o4), (L + 1 + 1 + 1, o3), (L + 1 + 1, o2), (L + 1, o1), (85, tabObj #[])])
    (d2 : o2.data = .cell (some (.int (wd : Nat) tw))) (d3 : o3.data = .cell none) (d4 : o4.data = .cell none) (hov : IntsAre ov (casts os)) (h2 : 2 ≤ os.length) (h10 : os.length ≤ 10) (hw4 : wd ≤ 4)
    (hne : ∀ a ∈ [sz, oc, nu], @Ne Nat a 85 ∧ @Ne Nat a (L + 1) ∧ @Ne Nat a (L + 1 + 1) ∧ @Ne Nat a (L + 1 + 1 + 1) ∧ @Ne Nat a (L + 1 + 1 + 1 + 1))
    (next : ∀ rw wv wn ns ll lv ln rg rv rn o4 tc h' tk' m', Fr g L h' m' → Kn m' [(Str.ofString "octets", .ref oc), (Str.ofString "sizes", .ref sz), (Str.ofString "registers", .ref rg), (Str.ofString "common", .int (commonOf os : Nat) tc), (Str.ofString "row", .ref rw)] →
      News g L h' [(rw, listOf (List.toArray wv) wn), (ll, listOf (List.toArray lv) ln), (rg, listOf (List.toArray rv) rn), (sz, listOf (List.toArray zv) zn), (oc, listOf (List.toArray ov) on), (L + 1 + 1 + 1 + 1, o4), (L + 1 + 1, o2), (85, tabObj #[])] →
      o4.data = .cell (some (.ref ll)) → IntsAre wv (casts ns) → RowInv (commonOf os) (2 ^ wd) os.sum (2 ^ wd) ns → IntsAre lv (casts (lowsOf os wd)) → IntsAre rv (casts (regs os)) →
      (∀ a ∈ [rw, ll, rg, sz, oc], @Ne Nat a 85) →
      wpAny (model prog w) A (execs ((fnBody o').drop 9) (envOfC (Str.ofString "law") (fnScope o') L fa cd)) Q E { s with heap := h', toks := tk' }) :
    wpAny (model prog w) A (execs ((fnBody o').drop 4) (envOfC (Str.ofString "law") (fnScope o') L fa cd)) Q E { s with heap := h, toks := tk } := by
  obtain ⟨hk, B, X, T, hA, hd, hu, hh, gsc, hI, h63, h85⟩ := Z
  k_dflt (refine' lk_with hk ?k ?_; (case k => k_is))
  intro e
  subst e
  clear hk
  dsimp only [fnScope, fnBody, List.drop] at hA next ⊢
  replace F := fr_knows F _ K1
  obtain ⟨ns1, ns2, ns3, ns4, ns5⟩ := hne sz (.head _)
  obtain ⟨no1, no2, no3, no4, no5⟩ := hne oc (.tail _ (.head _))
  obtain ⟨nn1, nn2, nn3, nn4, nn5⟩ := hne nu (.tail _ (.tail _ (.head _)))
  clear hne
  show wpAny _ _ _ _ _ _
  repeat (first | (k_unfold; try dsimp only) | ((with_reducible refine ite_pos (by decide) ?_); try dsimp only) | ((with_reducible refine ite_neg (by decide) ?_); try dsimp only) | ((fail_if_success (with_reducible show wpAny _ _ (subscriptTail _ _ _ _) _ _ _)); (fail_if_success (with_reducible show wpAny _ _ (call (Value.ref _) _ _) _ _ _)); (fail_if_success (with_reducible show wpAny _ _ (exec (Stmt.For _ _ _ _ _) _) _ _ _)); (fail_if_success (with_reducible show wpAny _ _ (exec (Stmt.While _ _ _ _) _) _ _ _)); (fail_if_success (with_reducible show wpAny _ _ (pyIter _) _ _ _)); (fail_if_success (with_reducible show wpAny _ _ (eval (PySem.Expr.Lambda _ _ _ _) _) _ _ _)); (fail_if_success (with_reducible show wpAny _ _ (call (Value.type _) _ _) _ _ _)); (fail_if_success (with_reducible show wpAny _ _ (exec (Stmt.Assign _ (PySem.Expr.ListComp _ _ _ _) _) _) _ _ _)); (fail_if_success (with_reducible refine ite_pos ?_ ?_)); walk1; try dsimp only))
  (with_reducible refine law_registers ?csite ?cl hov ?c16 ?_)
  (case csite => exact (site_of B (by assumption) X T hA rfl rfl hd hu hh (by omega)))
  (case cl => exact News.isList N (.tail _ (.head _)))
  (case c16 => exact Nat.le_trans h10 (by decide))
  intro rg rv rn h5 tk5 k5 rg0 rgo hrv
  have F5 := fr_keep F k5
  have N5 : News g L h5 ((rg, listOf (List.toArray rv) rn) :: [(sz, listOf (List.toArray zv) zn), (oc, listOf (List.toArray ov) on), (nu, listOf (List.toArray nv) nn), (L + 1 + 1 + 1 + 1, o4), (L + 1 + 1 + 1, o3), (L + 1 + 1, o2), (L + 1, o1), (85, tabObj #[])]) := news_more F N k5 rg0 rgo
  have nr := news_ne N rg0
  have nr1 : @Ne Nat 85 rg := nr _ (.tail _ (.tail _ (.tail _ (.tail _ (.tail _ (.tail _ (.tail _ (.head _))))))))
  have nr2 : @Ne Nat (L + 1) rg := nr _ (.tail _ (.tail _ (.tail _ (.tail _ (.tail _ (.tail _ (.head _)))))))
  have nr3 : @Ne Nat (L + 1 + 1) rg := nr _ (.tail _ (.tail _ (.tail _ (.tail _ (.tail _ (.head _))))))
  have nr4 : @Ne Nat (L + 1 + 1 + 1) rg := nr _ (.tail _ (.tail _ (.tail _ (.tail _ (.head _)))))
  have nr5 : @Ne Nat (L + 1 + 1 + 1 + 1) rg := nr _ (.tail _ (.tail _ (.tail _ (.head _))))
  clear nr F N k5 rg0 rgo
  have hrl : (regs os).length = os.length + 1 := regsFrom_length os _
  try dsimp only
  repeat (first | (k_unfold; try dsimp only) | ((with_reducible refine ite_pos (by decide) ?_); try dsimp only) | ((with_reducible refine ite_neg (by decide) ?_); try dsimp only) | ((fail_if_success (with_reducible show wpAny _ _ (subscriptTail _ _ _ _) _ _ _)); (fail_if_success (with_reducible show wpAny _ _ (call (Value.ref _) _ _) _ _ _)); (fail_if_success (with_reducible show wpAny _ _ (exec (Stmt.For _ _ _ _ _) _) _ _ _)); (fail_if_success (with_reducible show wpAny _ _ (exec (Stmt.While _ _ _ _) _) _ _ _)); (fail_if_success (with_reducible show wpAny _ _ (pyIter _) _ _ _)); (fail_if_success (with_reducible show wpAny _ _ (eval (PySem.Expr.Lambda _ _ _ _) _) _ _ _)); (fail_if_success (with_reducible show wpAny _ _ (call (Value.type _) _ _) _ _ _)); (fail_if_success (with_reducible show wpAny _ _ (exec (Stmt.Assign _ (PySem.Expr.ListComp _ _ _ _) _) _) _ _ _)); (fail_if_success (with_reducible refine ite_pos ?_ ?_)); walk1; try dsimp only))
  refine subNeg (News.isList (by assumption) (.head _)) hrv 1 rfl (Nat.le_refl _) (by omega) (by omega) (fun t6 => ?_)
  repeat (first | (k_unfold; try dsimp only) | ((with_reducible refine ite_pos (by decide) ?_); try dsimp only) | ((with_reducible refine ite_neg (by decide) ?_); try dsimp only) | ((fail_if_success (with_reducible show wpAny _ _ (subscriptTail _ _ _ _) _ _ _)); (fail_if_success (with_reducible show wpAny _ _ (call (Value.ref _) _ _) _ _ _)); (fail_if_success (with_reducible show wpAny _ _ (exec (Stmt.For _ _ _ _ _) _) _ _ _)); (fail_if_success (with_reducible show wpAny _ _ (exec (Stmt.While _ _ _ _) _) _ _ _)); (fail_if_success (with_reducible show wpAny _ _ (pyIter _) _ _ _)); (fail_if_success (with_reducible show wpAny _ _ (eval (PySem.Expr.Lambda _ _ _ _) _) _ _ _)); (fail_if_success (with_reducible show wpAny _ _ (call (Value.type _) _ _) _ _ _)); (fail_if_success (with_reducible show wpAny _ _ (exec (Stmt.Assign _ (PySem.Expr.ListComp _ _ _ _) _) _) _ _ _)); (fail_if_success (with_reducible refine ite_pos ?_ ?_)); walk1; try dsimp only))
  (with_reducible refine law_turnedI (lastOf (regs os) 1) 32 rfl rfl ?csite (Nat.le_refl _) ?_)
  (case csite => exact (site_of B (by assumption) X T hA rfl rfl hd hu hh (by omega)))
  intro t9 h9 tk9 k9; (rename Fr _ _ _ _ => Fx); (rename News _ _ _ _ => Nx); (have F9 := fr_keep Fx k9); (have N9 := news_keep Nx k9); clear Fx Nx; try dsimp only
  rw [show turned (lastOf (regs os) 1) 32 = commonOf os from rfl]
  repeat (first | (k_unfold; try dsimp only) | ((with_reducible refine ite_pos (by decide) ?_); try dsimp only) | ((with_reducible refine ite_neg (by decide) ?_); try dsimp only) | ((fail_if_success (with_reducible show wpAny _ _ (subscriptTail _ _ _ _) _ _ _)); (fail_if_success (with_reducible show wpAny _ _ (call (Value.ref _) _ _) _ _ _)); (fail_if_success (with_reducible show wpAny _ _ (exec (Stmt.For _ _ _ _ _) _) _ _ _)); (fail_if_success (with_reducible show wpAny _ _ (exec (Stmt.While _ _ _ _) _) _ _ _)); (fail_if_success (with_reducible show wpAny _ _ (pyIter _) _ _ _)); (fail_if_success (with_reducible show wpAny _ _ (eval (PySem.Expr.Lambda _ _ _ _) _) _ _ _)); (fail_if_success (with_reducible show wpAny _ _ (call (Value.type _) _ _) _ _ _)); (fail_if_success (with_reducible show wpAny _ _ (exec (Stmt.Assign _ (PySem.Expr.ListComp _ _ _ _) _) _) _ _ _)); (fail_if_success (with_reducible refine ite_pos ?_ ?_)); walk1; try dsimp only))
  refine subNeg (News.isList (by assumption) (.head _)) hrv 2 rfl (by decide) (by omega) (by omega) (fun t7 => ?_)
  repeat (first | (k_unfold; try dsimp only) | ((with_reducible refine ite_pos (by decide) ?_); try dsimp only) | ((with_reducible refine ite_neg (by decide) ?_); try dsimp only) | ((fail_if_success (with_reducible show wpAny _ _ (subscriptTail _ _ _ _) _ _ _)); (fail_if_success (with_reducible show wpAny _ _ (call (Value.ref _) _ _) _ _ _)); (fail_if_success (with_reducible show wpAny _ _ (exec (Stmt.For _ _ _ _ _) _) _ _ _)); (fail_if_success (with_reducible show wpAny _ _ (exec (Stmt.While _ _ _ _) _) _ _ _)); (fail_if_success (with_reducible show wpAny _ _ (pyIter _) _ _ _)); (fail_if_success (with_reducible show wpAny _ _ (eval (PySem.Expr.Lambda _ _ _ _) _) _ _ _)); (fail_if_success (with_reducible show wpAny _ _ (call (Value.type _) _ _) _ _ _)); (fail_if_success (with_reducible show wpAny _ _ (exec (Stmt.Assign _ (PySem.Expr.ListComp _ _ _ _) _) _) _ _ _)); (fail_if_success (with_reducible refine ite_pos ?_ ?_)); walk1; try dsimp only))
  refine subNeg (News.isList (by assumption) (.tail _ (.tail _ (.head _)))) hov 1 rfl (Nat.le_refl _) (by omega) (by omega) (fun t8 => ?_)
  repeat (first | (k_unfold; try dsimp only) | ((with_reducible refine ite_pos (by decide) ?_); try dsimp only) | ((with_reducible refine ite_neg (by decide) ?_); try dsimp only) | ((fail_if_success (with_reducible show wpAny _ _ (subscriptTail _ _ _ _) _ _ _)); (fail_if_success (with_reducible show wpAny _ _ (call (Value.ref _) _ _) _ _ _)); (fail_if_success (with_reducible show wpAny _ _ (exec (Stmt.For _ _ _ _ _) _) _ _ _)); (fail_if_success (with_reducible show wpAny _ _ (exec (Stmt.While _ _ _ _) _) _ _ _)); (fail_if_success (with_reducible show wpAny _ _ (pyIter _) _ _ _)); (fail_if_success (with_reducible show wpAny _ _ (eval (PySem.Expr.Lambda _ _ _ _) _) _ _ _)); (fail_if_success (with_reducible show wpAny _ _ (call (Value.type _) _ _) _ _ _)); (fail_if_success (with_reducible show wpAny _ _ (exec (Stmt.Assign _ (PySem.Expr.ListComp _ _ _ _) _) _) _ _ _)); (fail_if_success (with_reducible refine ite_pos ?_ ?_)); walk1; try dsimp only))
  rename Fr _ _ _ _ => F7
  rename News _ _ _ _ => N7
  rename_i h7 o7 d7
  replace d7 : o7.data = .cell (some (.int (aheadOf os : Nat) _)) := d7
  have hw4096 : wd ≤ 4096 := Nat.le_trans hw4 (by decide)
  have hc16 : 2 ^ wd ≤ 16 := Nat.pow_le_pow_right (n := 2) (by decide) hw4
  (with_reducible refine wpAny_Assign_Name ?_ ?hsw)
  (case hsw => with_unfolding_all rfl)
  k_dflt (refine LCg.ListComp_U (F₀ := by assumption) (by with_unfolding_all rfl) (by decide) (by rfl) (by decide) (by rfl) ?_)
  repeat (first | (k_unfold; try dsimp only) | ((with_reducible refine ite_pos (by decide) ?_); try dsimp only) | ((with_reducible refine ite_neg (by decide) ?_); try dsimp only) | ((fail_if_success (with_reducible show wpAny _ _ (subscriptTail _ _ _ _) _ _ _)); (fail_if_success (with_reducible show wpAny _ _ (call (Value.ref _) _ _) _ _ _)); (fail_if_success (with_reducible show wpAny _ _ (exec (Stmt.For _ _ _ _ _) _) _ _ _)); (fail_if_success (with_reducible show wpAny _ _ (exec (Stmt.While _ _ _ _) _) _ _ _)); (fail_if_success (with_reducible show wpAny _ _ (pyIter _) _ _ _)); (fail_if_success (with_reducible show wpAny _ _ (eval (PySem.Expr.Lambda _ _ _ _) _) _ _ _)); (fail_if_success (with_reducible show wpAny _ _ (call (Value.type _) _ _) _ _ _)); (fail_if_success (with_reducible show wpAny _ _ (exec (Stmt.Assign _ (PySem.Expr.ListComp _ _ _ _) _) _) _ _ _)); (fail_if_success (with_reducible refine ite_pos ?_ ?_)); walk1; try dsimp only))
  obtain ⟨hsm, hrs⟩ := range_ok (n := 2 ^ wd) (Nat.le_trans hc16 (by decide))
  refine call_range_1 ?_
  dsimp only
  refine LCg.CompSrc.range hh (F7.push _) (fun p hp => ⟨Heap.get?_push_of_some _ (N7 p hp).1, (N7 p hp).2⟩) (IsRange.new ..) hsm hrs (by rw [sizeLine_eq]; exact Nat.le_trans hc16 (by decide)) ?_
  intro g9
  refine comp_all (fun i y => ∃ k t, (lowsOf os wd)[i]? = some k ∧ y = Value.int ((k : Nat) : Int) t) trivial ?_ ?_
  · rintro i v I oI C oC D ys m₂ h6 tk6 E' hi6 ⟨t3, rfl⟩ hC hx F6 N6
    rw [Int.zero_add] at hx
    show wpAny _ _ _ _ _ _
    k_fold
    repeat (first | (k_unfold; try dsimp only) | ((with_reducible refine ite_pos (by decide) ?_); try dsimp only) | ((with_reducible refine ite_neg (by decide) ?_); try dsimp only) | ((fail_if_success (with_reducible show wpAny _ _ (subscriptTail _ _ _ _) _ _ _)); (fail_if_success (with_reducible show wpAny _ _ (call (Value.ref _) _ _) _ _ _)); (fail_if_success (with_reducible show wpAny _ _ (exec (Stmt.For _ _ _ _ _) _) _ _ _)); (fail_if_success (with_reducible show wpAny _ _ (exec (Stmt.While _ _ _ _) _) _ _ _)); (fail_if_success (with_reducible show wpAny _ _ (pyIter _) _ _ _)); (fail_if_success (with_reducible show wpAny _ _ (eval (PySem.Expr.Lambda _ _ _ _) _) _ _ _)); (fail_if_success (with_reducible show wpAny _ _ (call (Value.type _) _ _) _ _ _)); (fail_if_success (with_reducible show wpAny _ _ (exec (Stmt.Assign _ (PySem.Expr.ListComp _ _ _ _) _) _) _ _ _)); (fail_if_success (with_reducible refine ite_pos ?_ ?_)); walk1; try dsimp only))
    (with_reducible refine law_turnedI i 8 rfl rfl ?csite (by decide) ?_)
    (case csite => exact (site_of B (by assumption) X T hA rfl rfl hd hu hh (by omega)))
    intro t9 h9 tk9 k9; (rename Fr _ _ _ _ => Fx); (rename News _ _ _ _ => Nx); (have F9 := fr_keep Fx k9); (have N9 := news_keep Nx k9); clear Fx Nx; try dsimp only
    repeat (first | (k_unfold; try dsimp only) | ((with_reducible refine ite_pos (by decide) ?_); try dsimp only) | ((with_reducible refine ite_neg (by decide) ?_); try dsimp only) | ((fail_if_success (with_reducible show wpAny _ _ (subscriptTail _ _ _ _) _ _ _)); (fail_if_success (with_reducible show wpAny _ _ (call (Value.ref _) _ _) _ _ _)); (fail_if_success (with_reducible show wpAny _ _ (exec (Stmt.For _ _ _ _ _) _) _ _ _)); (fail_if_success (with_reducible show wpAny _ _ (exec (Stmt.While _ _ _ _) _) _ _ _)); (fail_if_success (with_reducible show wpAny _ _ (pyIter _) _ _ _)); (fail_if_success (with_reducible show wpAny _ _ (eval (PySem.Expr.Lambda _ _ _ _) _) _ _ _)); (fail_if_success (with_reducible show wpAny _ _ (call (Value.type _) _ _) _ _ _)); (fail_if_success (with_reducible show wpAny _ _ (exec (Stmt.Assign _ (PySem.Expr.ListComp _ _ _ _) _) _) _ _ _)); (fail_if_success (with_reducible refine ite_pos ?_ ?_)); walk1; try dsimp only))
    (with_reducible refine gen_crc _ _ ?csite ?_)
    (case csite => exact (site_of B (by assumption) X T hA rfl rfl hd hu hh (by omega)))
    intro t9 h9 tk9 k9; (rename Fr _ _ _ _ => Fx); (rename News _ _ _ _ => Nx); (have F9 := fr_keep Fx k9); (have N9 := news_keep Nx k9); clear Fx Nx; try dsimp only
    repeat (first | (k_unfold; try dsimp only) | ((with_reducible refine ite_pos (by decide) ?_); try dsimp only) | ((with_reducible refine ite_neg (by decide) ?_); try dsimp only) | ((fail_if_success (with_reducible show wpAny _ _ (subscriptTail _ _ _ _) _ _ _)); (fail_if_success (with_reducible show wpAny _ _ (call (Value.ref _) _ _) _ _ _)); (fail_if_success (with_reducible show wpAny _ _ (exec (Stmt.For _ _ _ _ _) _) _ _ _)); (fail_if_success (with_reducible show wpAny _ _ (exec (Stmt.While _ _ _ _) _) _ _ _)); (fail_if_success (with_reducible show wpAny _ _ (pyIter _) _ _ _)); (fail_if_success (with_reducible show wpAny _ _ (eval (PySem.Expr.Lambda _ _ _ _) _) _ _ _)); (fail_if_success (with_reducible show wpAny _ _ (call (Value.type _) _ _) _ _ _)); (fail_if_success (with_reducible show wpAny _ _ (exec (Stmt.Assign _ (PySem.Expr.ListComp _ _ _ _) _) _) _ _ _)); (fail_if_success (with_reducible refine ite_pos ?_ ?_)); walk1; try dsimp only))
    (with_reducible refine law_turnedI _ 32 rfl rfl ?csite (by decide) ?_)
    (case csite => exact (site_of B (by assumption) X T hA rfl rfl hd hu hh (by omega)))
    intro t9 h9 tk9 k9; (rename Fr _ _ _ _ => Fx); (rename News _ _ _ _ => Nx); (have F9 := fr_keep Fx k9); (have N9 := news_keep Nx k9); clear Fx Nx; try dsimp only
    repeat (first | (k_unfold; try dsimp only) | ((with_reducible refine ite_pos (by decide) ?_); try dsimp only) | ((with_reducible refine ite_neg (by decide) ?_); try dsimp only) | ((fail_if_success (with_reducible show wpAny _ _ (subscriptTail _ _ _ _) _ _ _)); (fail_if_success (with_reducible show wpAny _ _ (call (Value.ref _) _ _) _ _ _)); (fail_if_success (with_reducible show wpAny _ _ (exec (Stmt.For _ _ _ _ _) _) _ _ _)); (fail_if_success (with_reducible show wpAny _ _ (exec (Stmt.While _ _ _ _) _) _ _ _)); (fail_if_success (with_reducible show wpAny _ _ (pyIter _) _ _ _)); (fail_if_success (with_reducible show wpAny _ _ (eval (PySem.Expr.Lambda _ _ _ _) _) _ _ _)); (fail_if_success (with_reducible show wpAny _ _ (call (Value.type _) _ _) _ _ _)); (fail_if_success (with_reducible show wpAny _ _ (exec (Stmt.Assign _ (PySem.Expr.ListComp _ _ _ _) _) _) _ _ _)); (fail_if_success (with_reducible refine ite_pos ?_ ?_)); walk1; try dsimp only))
    refine ElEnd.intro (by assumption) (by assumption) ⟨lowAt os i, t9, ?_, rfl⟩
    unfold lowsOf
    rw [List.getElem?_map, List.getElem?_range hi6]; rfl
  · intro zs hzl hzs
    unfold LCg.FinE
    intro ll h10 tk10 F10 N10 off10
    have hzI : IntsAre zs (casts (lowsOf os wd)) := ints_of (by rw [hzl]; unfold lowsOf; rw [List.length_map, List.length_range]) hzs
    unfold LCg.Off1 LCg.Off1 LCg.Off1 LCg.Off1 LCg.Off1 LCg.Off1 LCg.Off1 LCg.Off1 LCg.Off1 LCg.Off1 at off10
    dsimp only at off10 ⊢
    repeat (first | (k_unfold; try dsimp only) | ((with_reducible refine ite_pos (by decide) ?_); try dsimp only) | ((with_reducible refine ite_neg (by decide) ?_); try dsimp only) | ((fail_if_success (with_reducible show wpAny _ _ (subscriptTail _ _ _ _) _ _ _)); (fail_if_success (with_reducible show wpAny _ _ (call (Value.ref _) _ _) _ _ _)); (fail_if_success (with_reducible show wpAny _ _ (exec (Stmt.For _ _ _ _ _) _) _ _ _)); (fail_if_success (with_reducible show wpAny _ _ (exec (Stmt.While _ _ _ _) _) _ _ _)); (fail_if_success (with_reducible show wpAny _ _ (pyIter _) _ _ _)); (fail_if_success (with_reducible show wpAny _ _ (eval (PySem.Expr.Lambda _ _ _ _) _) _ _ _)); (fail_if_success (with_reducible show wpAny _ _ (call (Value.type _) _ _) _ _ _)); (fail_if_success (with_reducible show wpAny _ _ (exec (Stmt.Assign _ (PySem.Expr.ListComp _ _ _ _) _) _) _ _ _)); (fail_if_success (with_reducible refine ite_pos ?_ ?_)); walk1; try dsimp only))
    rename Fr _ _ _ _ => F11
    rename News _ _ _ _ => N11

    rename_i h11 o11 d11 _ _
    (with_reducible refine LSm.sum_ints F11 N11 hh (News.isList N11 (List.Mem.tail _ (List.Mem.tail _ (List.Mem.tail _ (List.Mem.head _))))) hov ?_)
    intro h12 tk12 t12 F12 N12
    rw [casts_sum]
    clear F11 N11
    try dsimp only
    repeat (first | (k_unfold; try dsimp only) | ((with_reducible refine ite_pos (by decide) ?_); try dsimp only) | ((with_reducible refine ite_neg (by decide) ?_); try dsimp only) | ((fail_if_success (with_reducible show wpAny _ _ (subscriptTail _ _ _ _) _ _ _)); (fail_if_success (with_reducible show wpAny _ _ (call (Value.ref _) _ _) _ _ _)); (fail_if_success (with_reducible show wpAny _ _ (exec (Stmt.For _ _ _ _ _) _) _ _ _)); (fail_if_success (with_reducible show wpAny _ _ (exec (Stmt.While _ _ _ _) _) _ _ _)); (fail_if_success (with_reducible show wpAny _ _ (pyIter _) _ _ _)); (fail_if_success (with_reducible show wpAny _ _ (eval (PySem.Expr.Lambda _ _ _ _) _) _ _ _)); (fail_if_success (with_reducible show wpAny _ _ (call (Value.type _) _ _) _ _ _)); (fail_if_success (with_reducible show wpAny _ _ (exec (Stmt.Assign _ (PySem.Expr.ListComp _ _ _ _) _) _) _ _ _)); (fail_if_success (with_reducible refine ite_pos ?_ ?_)); walk1; try dsimp only))
    (with_reducible refine law_row (commonOf os) (2 ^ wd) os.sum ?csite ?c0 hc16 ?_)
    (case csite => exact (site_of B (by assumption) X T hA rfl rfl hd hu hh (by omega)))
    (case c0 => exact Nat.two_pow_pos _)
    intro rw wv wn ns h13 tk13 k13 rw0 rwo hwv inv
    have F13 := fr_keep F12 k13
    have N13 := news_more F12 N12 k13 rw0 rwo
    have nw := news_ne N12 rw0
    clear F12 N12
    try dsimp only
    walk1
    try dsimp only
    rename Fr _ _ _ _ => F14
    rename News _ _ _ _ => N14
    refine next rw wv wn ns ll zs zs.length rg rv rn o11 t9 _ _ _ F14 ⟨rfl, rfl, rfl, rfl, rfl, trivial⟩ (fun p hp => N14 p ?_) d11 hwv inv hzI hrv ?_
    · simp only [List.mem_cons, List.not_mem_nil, or_false] at hp ⊢
      rcases hp with hp | hp | hp | hp | hp | hp | hp | hp
      · exact .inl hp
      · exact .inr (.inl hp)
      · exact .inr (.inr (.inl hp))
      · exact .inr (.inr (.inr (.inl hp)))
      · exact .inr (.inr (.inr (.inr (.inl hp))))
      · exact .inr (.inr (.inr (.inr (.inr (.inr (.inl hp))))))
      · exact .inr (.inr (.inr (.inr (.inr (.inr (.inr (.inr (.inl hp))))))))
      · exact .inr (.inr (.inr (.inr (.inr (.inr (.inr (.inr (.inr (.inr hp)))))))))
    · have n8 := nw (85, tabObj #[]) (by simp)
      intro a ha
      simp only [List.mem_cons, List.not_mem_nil, or_false] at ha
      dsimp only at n8
      rcases ha with rfl | rfl | rfl | rfl | rfl <;> omega

theorem LkAt.led {h h0 : Heap} {lv : List Value} {tr : List (Nat × Nat × Nat)} (H : LkAt h h0 lv tr) : ∃ ex : List (Addr × Obj), LkOk lv tr ex ∧ ∀ p ∈ ex, h.get? p.1 = some p.2 ∧ h0.get? p.1 = none := by
  refine ⟨lv.filterMap fun v => match v with | .ref a => (h.get? a).map fun o => (a, o) | _ => none, ⟨H.1, fun i v hv => ?_⟩, fun p hp => ?_⟩
  · obtain ⟨a, v3, n3, x, l, r, rfl, e1, _, e3, e4⟩ := H.2 i v hv
    refine ⟨a, v3, n3, x, l, r, rfl, List.mem_filterMap.mpr ⟨.ref a, List.mem_of_getElem? hv, ?_⟩, e3, e4⟩
    show (h.get? a).map _ = _
    rw [e1]; rfl
  · obtain ⟨v, hv, e⟩ := List.mem_filterMap.mp hp
    obtain ⟨i, hi⟩ := List.getElem?_of_mem hv
    obtain ⟨a, v3, n3, x, l, r, rfl, e1, e2, _, _⟩ := H.2 i v hi
    replace e : (h.get? a).map (fun o => (a, o)) = some p := e
    rw [e1] at e
    cases e
    exact ⟨e1, e2⟩
theorem fresh_of {h₀ h : Heap} {L l : Addr} {m : Str → Option Value} (F : Fr h₀ L h m) (h0 : h.get? l = none) : l ≠ L ∧ h₀.get? l = none := by
  refine ⟨?_, ?_⟩
  · rintro rfl
    obtain ⟨⟨oL, _, _, hL, _⟩, _, _⟩ := F
    rw [h0] at hL; cases hL
  · cases q : h₀.get? l with
    | none => rfl
    | some o9 => have := F.keep _ _ q; rw [h0] at this; cases this

theorem law_3 {w : World} {A A₀ : Around} {base g h : Heap} {outer : List Env} {s : Shared} {tk : Nat} {mean : ExcName → Option Value} {mg mb m : Str → Option Value} {L fa : Addr} {cd : Value} {o' : Obj} {sc : Addr} {vs : List Value} {ws : List Int} {o2 o4 : Obj} {Q : Flow → Shared → Prop} {E : Value → Shared → Prop}
    {oc sz rw ll rg : Addr} {ov zv wv lv rv : List Value} {on zn wn ln rn : Nat} {tw tc : Tok} {os zs ns lows rs0 : List Nat} {wd common : Nat}
    (Z : LEnv w A A₀ base g outer mean mg mb L fa cd o' sc vs ws) (F : Fr g L h m)
    (K1 : Kn m [(Str.ofString "octets", .ref oc), (Str.ofString "sizes", .ref sz), (Str.ofString "registers", .ref rg), (Str.ofString "common", .int (common : Nat) tc), (Str.ofString "row", .ref rw)])
    (N : News g L h [(rw, listOf (List.toArray wv) wn), (ll, listOf (List.toArray lv) ln), (rg, listOf (List.toArray rv) rn), (sz, listOf (List.toArray zv) zn), (oc, listOf (List.toArray ov) on), (L + 1 + 1 + 1 + 1, o4), (L + 1 + 1, o2), (85, tabObj #[])])
    (d2 : o2.data = .cell (some (.int (wd : Nat) tw))) (d4 : o4.data = .cell (some (.ref ll))) (hov : IntsAre ov (casts os)) (hzv : IntsAre zv (casts zs)) (hwv : IntsAre wv (casts ns)) (hlv : IntsAre lv (casts lows)) (hrv : IntsAre rv (casts rs0))
    (h10 : os.length ≤ 10) (hzl : zs.length = os.length) (hz4 : ∀ z ∈ zs, 1 ≤ z ∧ z ≤ 4 ∧ 2 ^ z ≤ 2 ^ wd) (hw4 : wd ≤ 4) (R : RowOk common (2 ^ wd) ns lows)
    (hne : ∀ a ∈ [rw, ll, rg, sz, oc], @Ne Nat a 85)
    (next : ∀ rs sv sn lk kv kn tq ps ex h' tk' m', Fr g L h' m' → Kn m' [(Str.ofString "octets", .ref oc), (Str.ofString "registers", .ref rg), (Str.ofString "row", .ref rw), (Str.ofString "rests", .ref rs), (Str.ofString "looked", .ref lk), (Str.ofString "quotient", .int ((outW lows os zs os.length).2.1 : Nat) tq)] →
      News g L h' ((rs, listOf (List.toArray sv) sn) :: (lk, listOf (List.toArray kv) kn) :: (rw, listOf (List.toArray wv) wn) :: (ll, listOf (List.toArray lv) ln) :: (rg, listOf (List.toArray rv) rn) :: (oc, listOf (List.toArray ov) on) :: (L + 1 + 1 + 1 + 1, o4) :: (L + 1 + 1, o2) :: (85, tabObj ps) :: ex) →
      IntsAre sv (casts (outW lows os zs os.length).1) → LkOk kv (outW lows os zs os.length).2.2 ex →
      wpAny (model prog w) A (execs ((fnBody o').drop 10) (envOfC (Str.ofString "law") (fnScope o') L fa cd)) Q E { s with heap := h', toks := tk' }) :
    wpAny (model prog w) A (execs ((fnBody o').drop 9) (envOfC (Str.ofString "law") (fnScope o') L fa cd)) Q E { s with heap := h, toks := tk } := by
  obtain ⟨hk, B, X, T, hA, hd, hu, hh, gsc, hI, h63, h85⟩ := Z
  k_dflt (refine' lk_with hk ?k ?_; (case k => k_is))
  intro e
  subst e
  clear hk
  dsimp only [fnScope, fnBody, List.drop] at hA next ⊢
  replace F := fr_knows F _ K1
  have g85 := (N (85, tabObj #[]) (by simp)).2.2
  have ne85 : @Ne Nat 85 L := by omega
  show wpAny _ _ _ _ _ _
  repeat (first | (k_unfold; try dsimp only) | ((with_reducible refine ite_pos (by decide) ?_); try dsimp only) | ((with_reducible refine ite_neg (by decide) ?_); try dsimp only) | ((fail_if_success (with_reducible show wpAny _ _ (subscriptTail _ _ _ _) _ _ _)); (fail_if_success (with_reducible show wpAny _ _ (call (Value.ref _) _ _) _ _ _)); (fail_if_success (with_reducible show wpAny _ _ (exec (Stmt.For _ _ _ _ _) _) _ _ _)); (fail_if_success (with_reducible show wpAny _ _ (exec (Stmt.While _ _ _ _) _) _ _ _)); (fail_if_success (with_reducible show wpAny _ _ (pyIter _) _ _ _)); (fail_if_success (with_reducible show wpAny _ _ (eval (PySem.Expr.Lambda _ _ _ _) _) _ _ _)); (fail_if_success (with_reducible show wpAny _ _ (call (Value.type _) _ _) _ _ _)); (fail_if_success (with_reducible show wpAny _ _ (exec (Stmt.Assign _ (PySem.Expr.ListComp _ _ _ _) _) _) _ _ _)); (fail_if_success (with_reducible refine ite_pos ?_ ?_)); walk1; try dsimp only))
  (with_reducible refine law_walk common (2 ^ wd) ?csite ?c85 ?cr hwv ?cl hlv ?co hov ?cz hzv R h10 hzl hz4 ?_)
  (case csite => exact siteM_of B (by assumption) X T hA rfl rfl hd hu hh (by omega) ne85 g85)
  (case c85 => exact (News.get (by assumption) (by simp)))
  (case cr => exact News.isList (by assumption) (List.Mem.head _))
  (case cl => exact News.isList (by assumption) (List.Mem.tail _ (List.Mem.head _)))
  (case co => exact News.isList (by assumption) (List.Mem.tail _ (List.Mem.tail _ (List.Mem.tail _ (List.Mem.tail _ (List.Mem.head _))))))
  (case cz => exact News.isList (by assumption) (List.Mem.tail _ (List.Mem.tail _ (List.Mem.tail _ (List.Mem.head _)))))
  intro tp rs lk rv' nr kv nk tq h5 tk5 k5 ⟨ps, h85p⟩ tp0 rs0' lk0 htp hrs hrsI hlk hlkA
  have F5 := fr_but1 F k5 ne85 g85
  obtain ⟨ex, hex, hexh⟩ := hlkA.led
  have N5 : News g L h5 ((tp, ({ cls := .type "tuple", data := .seq #[.ref rs, .ref lk, .int (((outW lows os zs os.length).2.1 : Nat) : Int) tq] } : Obj)) :: (rs, listOf (List.toArray rv') nr) :: (lk, listOf (List.toArray kv) nk) :: (rw, listOf (List.toArray wv) wn) :: (ll, listOf (List.toArray lv) ln) :: (rg, listOf (List.toArray rv) rn) :: (oc, listOf (List.toArray ov) on) :: (L + 1 + 1 + 1 + 1, o4) :: (L + 1 + 1, o2) :: (85, tabObj ps) :: ex) := fun p hp => by
    have old : p ∈ [(rw, listOf (List.toArray wv) wn), (ll, listOf (List.toArray lv) ln), (rg, listOf (List.toArray rv) rn), (sz, listOf (List.toArray zv) zn), (oc, listOf (List.toArray ov) on), (L + 1 + 1 + 1 + 1, o4), (L + 1 + 1, o2), (85, tabObj #[])] → @Ne Nat p.1 85 → h5.get? p.1 = some p.2 ∧ p.1 ≠ L ∧ g.get? p.1 = none := fun hm hn => ⟨k5 _ _ hn (N p hm).1, (N p hm).2⟩
    simp only [List.mem_cons] at hp
    rcases hp with rfl | rfl | rfl | rfl | rfl | rfl | rfl | rfl | rfl | rfl | hp
    · exact ⟨htp, fresh_of F tp0⟩
    · exact ⟨hrs, fresh_of F rs0'⟩
    · exact ⟨hlk, fresh_of F lk0⟩
    · exact old (by simp) (hne _ (by simp))
    · exact old (by simp) (hne _ (by simp))
    · exact old (by simp) (hne _ (by simp))
    · exact old (by simp) (hne _ (by simp))
    · exact old (by simp) (by dsimp only; omega)
    · exact old (by simp) (by dsimp only; omega)
    · exact ⟨h85p, ne85, g85⟩
    · exact ⟨(hexh p hp).1, fresh_of F (hexh p hp).2⟩
  clear F N k5 h85p tp0 rs0' lk0 htp hrs hlk hlkA hexh hne g85
  try dsimp only
  refine unpackN_ F5 N5 (News.isTup N5 (List.Mem.head _)) hh rfl rfl ?_
  intro h6 F6 N6
  clear F5 N5
  repeat (first | (k_unfold; try dsimp only) | ((with_reducible refine ite_pos (by decide) ?_); try dsimp only) | ((with_reducible refine ite_neg (by decide) ?_); try dsimp only) | ((fail_if_success (with_reducible show wpAny _ _ (execs _ _) _ _ _)); (fail_if_success (with_reducible show wpAny _ _ (subscriptTail _ _ _ _) _ _ _)); (fail_if_success (with_reducible show wpAny _ _ (call (Value.ref _) _ _) _ _ _)); (fail_if_success (with_reducible show wpAny _ _ (exec (Stmt.For _ _ _ _ _) _) _ _ _)); (fail_if_success (with_reducible show wpAny _ _ (exec (Stmt.While _ _ _ _) _) _ _ _)); (fail_if_success (with_reducible show wpAny _ _ (pyIter _) _ _ _)); (fail_if_success (with_reducible show wpAny _ _ (eval (PySem.Expr.Lambda _ _ _ _) _) _ _ _)); (fail_if_success (with_reducible show wpAny _ _ (call (Value.type _) _ _) _ _ _)); (fail_if_success (with_reducible show wpAny _ _ (exec (Stmt.Assign _ (PySem.Expr.ListComp _ _ _ _) _) _) _ _ _)); (fail_if_success (with_reducible refine ite_pos ?_ ?_)); walk1; try dsimp only))
  rename Fr _ _ _ _ => F7
  rename News _ _ _ _ => N7
  refine next rs rv' nr lk kv nk tq ps ex _ _ _ F7 ⟨rfl, rfl, rfl, rfl, rfl, rfl, trivial⟩ (fun p hp => N7 p (.tail _ hp)) hrsI hex

theorem law_4 {w : World} {A A₀ : Around} {base g h : Heap} {outer : List Env} {s : Shared} {tk : Nat} {mean : ExcName → Option Value} {mg mb m : Str → Option Value} {L fa : Addr} {cd : Value} {o' : Obj} {sc : Addr} {vs : List Value} {ws : List Int} {o2 o4 : Obj} {Q : Flow → Shared → Prop} {E : Value → Shared → Prop}
    {oc rw ll rg rs lk : Addr} {ov wv lv rv sv kv : List Value} {on wn ln rn sn kn : Nat} {tw tq : Tok} {ps : Array Value} {ex : List (Addr × Obj)} {os ns lows rs0 rsn : List Nat} {wd q : Nat}
    (Z : LEnv w A A₀ base g outer mean mg mb L fa cd o' sc vs ws) (F : Fr g L h m)
    (K1 : Kn m [(Str.ofString "octets", .ref oc), (Str.ofString "registers", .ref rg), (Str.ofString "row", .ref rw), (Str.ofString "rests", .ref rs), (Str.ofString "looked", .ref lk), (Str.ofString "quotient", .int (q : Nat) tq)])
    (N : News g L h ((rs, listOf (List.toArray sv) sn) :: (lk, listOf (List.toArray kv) kn) :: (rw, listOf (List.toArray wv) wn) :: (ll, listOf (List.toArray lv) ln) :: (rg, listOf (List.toArray rv) rn) :: (oc, listOf (List.toArray ov) on) :: (L + 1 + 1 + 1 + 1, o4) :: (L + 1 + 1, o2) :: (85, tabObj ps) :: ex))
    (d2 : o2.data = .cell (some (.int (wd : Nat) tw))) (d4 : o4.data = .cell (some (.ref ll))) (hov : IntsAre ov (casts os)) (hwv : IntsAre wv (casts ns)) (hlv : IntsAre lv (casts lows)) (hrv : IntsAre rv (casts rs0)) (hsv : IntsAre sv (casts rsn))
    (h10 : os.length ≤ 10) (hw4 : wd ≤ 4) (hq : q < 2 ^ 4096) (hs1 : 1 ≤ rsn.length) (hs2 : rsn.length ≤ 20) (hll : lows.length = 2 ^ wd)
    (P1 : times q ^^^ lastOf rsn 1 = dividend os) (P2 : ns = (List.range (2 ^ wd)).map fun u => u <<< 32 ||| lows.getD u 0) (P3 : rsn.map (fun r => turned r 32) = rs0)
    (next : ∀ h' tk' m', Fr g L h' m' → Kn m' [(Str.ofString "looked", .ref lk)] → News g L h' ((lk, listOf (List.toArray kv) kn) :: (ll, listOf (List.toArray lv) ln) :: (L + 1 + 1 + 1 + 1, o4) :: (85, tabObj ps) :: ex) →
      wpAny (model prog w) A (execs ((fnBody o').drop 13) (envOfC (Str.ofString "law") (fnScope o') L fa cd)) Q E { s with heap := h', toks := tk' }) :
    wpAny (model prog w) A (execs ((fnBody o').drop 10) (envOfC (Str.ofString "law") (fnScope o') L fa cd)) Q E { s with heap := h, toks := tk } := by
  obtain ⟨hk, B, X, T, hA, hd, hu, hh, gsc, hI, h63, h85⟩ := Z
  k_dflt (refine' lk_with hk ?k ?_; (case k => k_is))
  intro e
  subst e
  clear hk
  dsimp only [fnScope, fnBody, List.drop] at hA next ⊢
  replace F := fr_knows F _ K1
  show wpAny _ _ _ _ _ _
  repeat (first | (k_unfold; try dsimp only) | ((with_reducible refine ite_pos (by decide) ?_); try dsimp only) | ((with_reducible refine ite_neg (by decide) ?_); try dsimp only) | ((fail_if_success (with_reducible show wpAny _ _ (subscriptTail _ _ _ _) _ _ _)); (fail_if_success (with_reducible show wpAny _ _ (call (Value.ref _) _ _) _ _ _)); (fail_if_success (with_reducible show wpAny _ _ (exec (Stmt.For _ _ _ _ _) _) _ _ _)); (fail_if_success (with_reducible show wpAny _ _ (exec (Stmt.While _ _ _ _) _) _ _ _)); (fail_if_success (with_reducible show wpAny _ _ (pyIter _) _ _ _)); (fail_if_success (with_reducible show wpAny _ _ (eval (PySem.Expr.Lambda _ _ _ _) _) _ _ _)); (fail_if_success (with_reducible show wpAny _ _ (call (Value.type _) _ _) _ _ _)); (fail_if_success (with_reducible show wpAny _ _ (exec (Stmt.Assign _ (PySem.Expr.ListComp _ _ _ _) _) _) _ _ _)); (fail_if_success (with_reducible refine ite_pos ?_ ?_)); walk1; try dsimp only))
  (with_reducible refine law_times q _ ?csite hq ?_)
  (case csite => exact (site_of B (by assumption) X T hA rfl rfl hd hu hh (by omega)))
  intro t9 h9 tk9 k9; (rename Fr _ _ _ _ => Fx); (rename News _ _ _ _ => Nx); (have F9 := fr_keep Fx k9); (have N9 := news_keep Nx k9); clear Fx Nx; try dsimp only
  repeat (first | (k_unfold; try dsimp only) | ((with_reducible refine ite_pos (by decide) ?_); try dsimp only) | ((with_reducible refine ite_neg (by decide) ?_); try dsimp only) | ((fail_if_success (with_reducible show wpAny _ _ (subscriptTail _ _ _ _) _ _ _)); (fail_if_success (with_reducible show wpAny _ _ (call (Value.ref _) _ _) _ _ _)); (fail_if_success (with_reducible show wpAny _ _ (exec (Stmt.For _ _ _ _ _) _) _ _ _)); (fail_if_success (with_reducible show wpAny _ _ (exec (Stmt.While _ _ _ _) _) _ _ _)); (fail_if_success (with_reducible show wpAny _ _ (pyIter _) _ _ _)); (fail_if_success (with_reducible show wpAny _ _ (eval (PySem.Expr.Lambda _ _ _ _) _) _ _ _)); (fail_if_success (with_reducible show wpAny _ _ (call (Value.type _) _ _) _ _ _)); (fail_if_success (with_reducible show wpAny _ _ (exec (Stmt.Assign _ (PySem.Expr.ListComp _ _ _ _) _) _) _ _ _)); (fail_if_success (with_reducible refine ite_pos ?_ ?_)); walk1; try dsimp only))
  refine subNeg (News.isList (by assumption) (.head _)) hsv 1 rfl (Nat.le_refl _) hs1 (Nat.le_trans hs2 (by decide)) (fun t6 => ?_)
  repeat (first | (k_unfold; try dsimp only) | ((with_reducible refine ite_pos (by decide) ?_); try dsimp only) | ((with_reducible refine ite_neg (by decide) ?_); try dsimp only) | ((fail_if_success (with_reducible show wpAny _ _ (subscriptTail _ _ _ _) _ _ _)); (fail_if_success (with_reducible show wpAny _ _ (call (Value.ref _) _ _) _ _ _)); (fail_if_success (with_reducible show wpAny _ _ (exec (Stmt.For _ _ _ _ _) _) _ _ _)); (fail_if_success (with_reducible show wpAny _ _ (exec (Stmt.While _ _ _ _) _) _ _ _)); (fail_if_success (with_reducible show wpAny _ _ (pyIter _) _ _ _)); (fail_if_success (with_reducible show wpAny _ _ (eval (PySem.Expr.Lambda _ _ _ _) _) _ _ _)); (fail_if_success (with_reducible show wpAny _ _ (call (Value.type _) _ _) _ _ _)); (fail_if_success (with_reducible show wpAny _ _ (exec (Stmt.Assign _ (PySem.Expr.ListComp _ _ _ _) _) _) _ _ _)); (fail_if_success (with_reducible refine ite_pos ?_ ?_)); walk1; try dsimp only))
  (with_reducible refine law_dividend ?csite ?cl hov ?c10 ?_)
  (case csite => exact (site_of B (by assumption) X T hA rfl rfl hd hu hh (by omega)))
  (case cl => exact News.isList (by assumption) (List.Mem.tail _ (List.Mem.tail _ (List.Mem.tail _ (List.Mem.tail _ (List.Mem.tail _ (List.Mem.head _)))))))
  (case c10 => omega)
  intro t9 h9 tk9 k9; (rename Fr _ _ _ _ => Fx); (rename News _ _ _ _ => Nx); (have F9 := fr_keep Fx k9); (have N9 := news_keep Nx k9); clear Fx Nx; try dsimp only
  repeat (first | (k_unfold; try dsimp only) | ((with_reducible refine ite_pos (by decide) ?_); try dsimp only) | ((with_reducible refine ite_neg (by decide) ?_); try dsimp only) | ((fail_if_success (with_reducible show wpAny _ _ (subscriptTail _ _ _ _) _ _ _)); (fail_if_success (with_reducible show wpAny _ _ (call (Value.ref _) _ _) _ _ _)); (fail_if_success (with_reducible show wpAny _ _ (exec (Stmt.For _ _ _ _ _) _) _ _ _)); (fail_if_success (with_reducible show wpAny _ _ (exec (Stmt.While _ _ _ _) _) _ _ _)); (fail_if_success (with_reducible show wpAny _ _ (pyIter _) _ _ _)); (fail_if_success (with_reducible show wpAny _ _ (eval (PySem.Expr.Lambda _ _ _ _) _) _ _ _)); (fail_if_success (with_reducible show wpAny _ _ (call (Value.type _) _ _) _ _ _)); (fail_if_success (with_reducible show wpAny _ _ (exec (Stmt.Assign _ (PySem.Expr.ListComp _ _ _ _) _) _) _ _ _)); (fail_if_success (with_reducible refine ite_pos ?_ ?_)); walk1; try dsimp only))
  refine ite_neg (by rw [show rsn.getD (rsn.length - 1) 0 = lastOf rsn 1 from rfl, P1]; simp) ?_
  have hw4096 : wd ≤ 4096 := Nat.le_trans hw4 (by decide)
  have hc16 : 2 ^ wd ≤ 16 := Nat.pow_le_pow_right (n := 2) (by decide) hw4
  clear hq
  repeat (first | (k_unfold; try dsimp only) | ((with_reducible refine ite_pos (by decide) ?_); try dsimp only) | ((with_reducible refine ite_neg (by decide) ?_); try dsimp only) | ((fail_if_success (with_reducible show wpAny _ _ (subscriptTail _ _ _ _) _ _ _)); (fail_if_success (with_reducible show wpAny _ _ (call (Value.ref _) _ _) _ _ _)); (fail_if_success (with_reducible show wpAny _ _ (exec (Stmt.For _ _ _ _ _) _) _ _ _)); (fail_if_success (with_reducible show wpAny _ _ (exec (Stmt.While _ _ _ _) _) _ _ _)); (fail_if_success (with_reducible show wpAny _ _ (pyIter _) _ _ _)); (fail_if_success (with_reducible show wpAny _ _ (eval (PySem.Expr.Lambda _ _ _ _) _) _ _ _)); (fail_if_success (with_reducible show wpAny _ _ (call (Value.type _) _ _) _ _ _)); (fail_if_success (with_reducible show wpAny _ _ (exec (Stmt.Assign _ (PySem.Expr.ListComp _ _ _ _) _) _) _ _ _)); (fail_if_success (with_reducible refine ite_pos ?_ ?_)); walk1; try dsimp only))
  rename Fr _ _ _ _ => F7
  rename News _ _ _ _ => N7
  obtain ⟨hsm, hrs⟩ := range_ok (n := 2 ^ wd) (Nat.le_trans hc16 (by decide))
  refine call_range_1 ?_
  dsimp only
  refine LCg.CompSrc.range hh (F7.push _) (fun p hp => ⟨Heap.get?_push_of_some _ (N7 p hp).1, (N7 p hp).2⟩) (IsRange.new ..) hsm hrs (by rw [sizeLine_eq]; exact Nat.le_trans hc16 (by decide)) ?_
  intro g9
  refine comp_all (fun i y => ∃ k t, ns[i]? = some k ∧ y = Value.int ((k : Nat) : Int) t) trivial ?_ ?_
  · rintro i v I oI C oC D ys m₂ h6 tk6 E' hi6 ⟨t3, rfl⟩ hC hx F6 N6
    rw [Int.zero_add] at hx
    have hi4096 : i < 2 ^ 4096 := Nat.lt_of_lt_of_le (Nat.lt_of_lt_of_le hi6 hc16) (by decide)
    show wpAny _ _ _ _ _ _
    k_fold
    repeat (first | (k_unfold; try dsimp only) | ((with_reducible refine ite_pos (by decide) ?_); try dsimp only) | ((with_reducible refine ite_neg (by decide) ?_); try dsimp only) | ((fail_if_success (with_reducible show wpAny _ _ (subscriptTail _ _ _ _) _ _ _)); (fail_if_success (with_reducible show wpAny _ _ (call (Value.ref _) _ _) _ _ _)); (fail_if_success (with_reducible show wpAny _ _ (exec (Stmt.For _ _ _ _ _) _) _ _ _)); (fail_if_success (with_reducible show wpAny _ _ (exec (Stmt.While _ _ _ _) _) _ _ _)); (fail_if_success (with_reducible show wpAny _ _ (pyIter _) _ _ _)); (fail_if_success (with_reducible show wpAny _ _ (eval (PySem.Expr.Lambda _ _ _ _) _) _ _ _)); (fail_if_success (with_reducible show wpAny _ _ (call (Value.type _) _ _) _ _ _)); (fail_if_success (with_reducible show wpAny _ _ (exec (Stmt.Assign _ (PySem.Expr.ListComp _ _ _ _) _) _) _ _ _)); (fail_if_success (with_reducible refine ite_pos ?_ ?_)); walk1; try dsimp only))
    refine subAt (News.isList N6 (.tail _ (.tail _ (.tail _ (.tail _ (.tail _ (.tail _ (.head _))))))) ) hlv i rfl (by rw [hll]; exact hi6) (by rw [hll]; exact Nat.le_trans hc16 (by decide)) (fun t => ?_)
    repeat (first | (k_unfold; try dsimp only) | ((with_reducible refine ite_pos (by decide) ?_); try dsimp only) | ((with_reducible refine ite_neg (by decide) ?_); try dsimp only) | ((fail_if_success (with_reducible show wpAny _ _ (subscriptTail _ _ _ _) _ _ _)); (fail_if_success (with_reducible show wpAny _ _ (call (Value.ref _) _ _) _ _ _)); (fail_if_success (with_reducible show wpAny _ _ (exec (Stmt.For _ _ _ _ _) _) _ _ _)); (fail_if_success (with_reducible show wpAny _ _ (exec (Stmt.While _ _ _ _) _) _ _ _)); (fail_if_success (with_reducible show wpAny _ _ (pyIter _) _ _ _)); (fail_if_success (with_reducible show wpAny _ _ (eval (PySem.Expr.Lambda _ _ _ _) _) _ _ _)); (fail_if_success (with_reducible show wpAny _ _ (call (Value.type _) _ _) _ _ _)); (fail_if_success (with_reducible show wpAny _ _ (exec (Stmt.Assign _ (PySem.Expr.ListComp _ _ _ _) _) _) _ _ _)); (fail_if_success (with_reducible refine ite_pos ?_ ?_)); walk1; try dsimp only))
    refine ElEnd.intro (by assumption) (by assumption) ⟨i <<< 32 ||| lows.getD i 0, _, ?_, rfl⟩
    rw [P2, List.getElem?_map, List.getElem?_range hi6]; rfl
  · intro zs hzl hzs
    unfold LCg.FinE
    intro rl h10 tk10 F10 N10 off10
    have hzI : IntsAre zs (casts ns) := ints_of (by rw [hzl, P2, List.length_map, List.length_range]) hzs
    dsimp only
    repeat (first | (k_unfold; try dsimp only) | ((with_reducible refine ite_pos (by decide) ?_); try dsimp only) | ((with_reducible refine ite_neg (by decide) ?_); try dsimp only) | ((fail_if_success (with_reducible show wpAny _ _ (compareOp _ (Value.ref _) (Value.ref _)) _ _ _)); (fail_if_success (with_reducible show wpAny _ _ (eval (PySem.Expr.ListComp _ _ _ _) _) _ _ _)); (fail_if_success (with_reducible show wpAny _ _ (subscriptTail _ _ _ _) _ _ _)); (fail_if_success (with_reducible show wpAny _ _ (call (Value.ref _) _ _) _ _ _)); (fail_if_success (with_reducible show wpAny _ _ (exec (Stmt.For _ _ _ _ _) _) _ _ _)); (fail_if_success (with_reducible show wpAny _ _ (exec (Stmt.While _ _ _ _) _) _ _ _)); (fail_if_success (with_reducible show wpAny _ _ (pyIter _) _ _ _)); (fail_if_success (with_reducible show wpAny _ _ (eval (PySem.Expr.Lambda _ _ _ _) _) _ _ _)); (fail_if_success (with_reducible show wpAny _ _ (call (Value.type _) _ _) _ _ _)); (fail_if_success (with_reducible show wpAny _ _ (exec (Stmt.Assign _ (PySem.Expr.ListComp _ _ _ _) _) _) _ _ _)); (fail_if_success (with_reducible refine ite_pos ?_ ?_)); walk1; try dsimp only))
    refine ke_ne_ints (News.isList (by assumption) (.tail _ (.tail _ (.tail _ (.head _))))) (News.isList (by assumption) (.head _)) hwv hzI (by omega) ?_
    rw [decide_eq_true (rfl : casts ns = casts ns)]
    repeat (first | (k_unfold; try dsimp only) | ((with_reducible refine ite_pos (by decide) ?_); try dsimp only) | ((with_reducible refine ite_neg (by decide) ?_); try dsimp only) | ((fail_if_success (with_reducible show wpAny _ _ (compareOp _ (Value.ref _) (Value.ref _)) _ _ _)); (fail_if_success (with_reducible show wpAny _ _ (eval (PySem.Expr.ListComp _ _ _ _) _) _ _ _)); (fail_if_success (with_reducible show wpAny _ _ (subscriptTail _ _ _ _) _ _ _)); (fail_if_success (with_reducible show wpAny _ _ (call (Value.ref _) _ _) _ _ _)); (fail_if_success (with_reducible show wpAny _ _ (exec (Stmt.For _ _ _ _ _) _) _ _ _)); (fail_if_success (with_reducible show wpAny _ _ (exec (Stmt.While _ _ _ _) _) _ _ _)); (fail_if_success (with_reducible show wpAny _ _ (pyIter _) _ _ _)); (fail_if_success (with_reducible show wpAny _ _ (eval (PySem.Expr.Lambda _ _ _ _) _) _ _ _)); (fail_if_success (with_reducible show wpAny _ _ (call (Value.type _) _ _) _ _ _)); (fail_if_success (with_reducible show wpAny _ _ (exec (Stmt.Assign _ (PySem.Expr.ListComp _ _ _ _) _) _) _ _ _)); (fail_if_success (with_reducible refine ite_pos ?_ ?_)); walk1; try dsimp only))
    k_dflt (refine LCg.ListComp_U (F₀ := by assumption) (by with_unfolding_all rfl) (by decide) (by rfl) (by decide) (by rfl) ?_)
    repeat (first | (k_unfold; try dsimp only) | ((with_reducible refine ite_pos (by decide) ?_); try dsimp only) | ((with_reducible refine ite_neg (by decide) ?_); try dsimp only) | ((fail_if_success (with_reducible show wpAny _ _ (compareOp _ (Value.ref _) (Value.ref _)) _ _ _)); (fail_if_success (with_reducible show wpAny _ _ (eval (PySem.Expr.ListComp _ _ _ _) _) _ _ _)); (fail_if_success (with_reducible show wpAny _ _ (subscriptTail _ _ _ _) _ _ _)); (fail_if_success (with_reducible show wpAny _ _ (call (Value.ref _) _ _) _ _ _)); (fail_if_success (with_reducible show wpAny _ _ (exec (Stmt.For _ _ _ _ _) _) _ _ _)); (fail_if_success (with_reducible show wpAny _ _ (exec (Stmt.While _ _ _ _) _) _ _ _)); (fail_if_success (with_reducible show wpAny _ _ (pyIter _) _ _ _)); (fail_if_success (with_reducible show wpAny _ _ (eval (PySem.Expr.Lambda _ _ _ _) _) _ _ _)); (fail_if_success (with_reducible show wpAny _ _ (call (Value.type _) _ _) _ _ _)); (fail_if_success (with_reducible show wpAny _ _ (exec (Stmt.Assign _ (PySem.Expr.ListComp _ _ _ _) _) _) _ _ _)); (fail_if_success (with_reducible refine ite_pos ?_ ?_)); walk1; try dsimp only))
    have N11 : News g L h10 ((rs, listOf sv.toArray sn) :: (lk, listOf kv.toArray kn) :: (rw, listOf wv.toArray wn) :: (ll, listOf lv.toArray ln) :: (rg, listOf rv.toArray rn) :: (oc, listOf ov.toArray on) :: (L + 1 + 1 + 1 + 1, o4) :: (L + 1 + 1, o2) :: (85, tabObj ps) :: ex) := fun p hp => N10 p (.tail _ hp)
    clear N10 off10
    have hsl := casts_length hsv
    refine LCg.CompSrc.ledger hh F10 N11 (List.Mem.head _) (by rw [List.size_toArray, hsl, sizeLine_eq]; exact Nat.le_trans hs2 (by decide)) ?_
    intro g11
    refine comp_all (fun i y => ∃ k t, rs0[i]? = some k ∧ y = Value.int ((k : Nat) : Int) t) (.inr ⟨_, List.Mem.head _, rfl, _, rfl⟩) ?_ ?_
    · intro i v I oI C oC D ys m₂ h6 tk6 E' hi6 hP hC hx F6 N6
      obtain ⟨k, t6, hk6, rfl⟩ := casts_at hsv hP
      show wpAny _ _ _ _ _ _
      k_fold
      repeat (first | (k_unfold; try dsimp only) | ((with_reducible refine ite_pos (by decide) ?_); try dsimp only) | ((with_reducible refine ite_neg (by decide) ?_); try dsimp only) | ((fail_if_success (with_reducible show wpAny _ _ (subscriptTail _ _ _ _) _ _ _)); (fail_if_success (with_reducible show wpAny _ _ (call (Value.ref _) _ _) _ _ _)); (fail_if_success (with_reducible show wpAny _ _ (exec (Stmt.For _ _ _ _ _) _) _ _ _)); (fail_if_success (with_reducible show wpAny _ _ (exec (Stmt.While _ _ _ _) _) _ _ _)); (fail_if_success (with_reducible show wpAny _ _ (pyIter _) _ _ _)); (fail_if_success (with_reducible show wpAny _ _ (eval (PySem.Expr.Lambda _ _ _ _) _) _ _ _)); (fail_if_success (with_reducible show wpAny _ _ (call (Value.type _) _ _) _ _ _)); (fail_if_success (with_reducible show wpAny _ _ (exec (Stmt.Assign _ (PySem.Expr.ListComp _ _ _ _) _) _) _ _ _)); (fail_if_success (with_reducible refine ite_pos ?_ ?_)); walk1; try dsimp only))
      (with_reducible refine law_turnedI k 32 rfl rfl ?csite (by decide) ?_)
      (case csite => exact (site_of B (by assumption) X T hA rfl rfl hd hu hh (by omega)))
      intro t9 h9 tk9 k9; (rename Fr _ _ _ _ => Fx); (rename News _ _ _ _ => Nx); (have F9 := fr_keep Fx k9); (have N9 := news_keep Nx k9); clear Fx Nx; try dsimp only
      repeat (first | (k_unfold; try dsimp only) | ((with_reducible refine ite_pos (by decide) ?_); try dsimp only) | ((with_reducible refine ite_neg (by decide) ?_); try dsimp only) | ((fail_if_success (with_reducible show wpAny _ _ (subscriptTail _ _ _ _) _ _ _)); (fail_if_success (with_reducible show wpAny _ _ (call (Value.ref _) _ _) _ _ _)); (fail_if_success (with_reducible show wpAny _ _ (exec (Stmt.For _ _ _ _ _) _) _ _ _)); (fail_if_success (with_reducible show wpAny _ _ (exec (Stmt.While _ _ _ _) _) _ _ _)); (fail_if_success (with_reducible show wpAny _ _ (pyIter _) _ _ _)); (fail_if_success (with_reducible show wpAny _ _ (eval (PySem.Expr.Lambda _ _ _ _) _) _ _ _)); (fail_if_success (with_reducible show wpAny _ _ (call (Value.type _) _ _) _ _ _)); (fail_if_success (with_reducible show wpAny _ _ (exec (Stmt.Assign _ (PySem.Expr.ListComp _ _ _ _) _) _) _ _ _)); (fail_if_success (with_reducible refine ite_pos ?_ ?_)); walk1; try dsimp only))
      refine ElEnd.intro (by assumption) (by assumption) ⟨turned k 32, _, ?_, rfl⟩
      rw [← P3, List.getElem?_map, hk6]; rfl
    · intro us hul hus
      unfold LCg.FinE
      intro rl h12 tk12 F12 N12 off12
      have huI : IntsAre us (casts rs0) := ints_of (by rw [hul, ← P3, List.length_map, List.size_toArray, hsl]) hus
      dsimp only
      repeat (first | (k_unfold; try dsimp only) | ((with_reducible refine ite_pos (by decide) ?_); try dsimp only) | ((with_reducible refine ite_neg (by decide) ?_); try dsimp only) | ((fail_if_success (with_reducible show wpAny _ _ (compareOp _ (Value.ref _) (Value.ref _)) _ _ _)); (fail_if_success (with_reducible show wpAny _ _ (eval (PySem.Expr.ListComp _ _ _ _) _) _ _ _)); (fail_if_success (with_reducible show wpAny _ _ (subscriptTail _ _ _ _) _ _ _)); (fail_if_success (with_reducible show wpAny _ _ (call (Value.ref _) _ _) _ _ _)); (fail_if_success (with_reducible show wpAny _ _ (exec (Stmt.For _ _ _ _ _) _) _ _ _)); (fail_if_success (with_reducible show wpAny _ _ (exec (Stmt.While _ _ _ _) _) _ _ _)); (fail_if_success (with_reducible show wpAny _ _ (pyIter _) _ _ _)); (fail_if_success (with_reducible show wpAny _ _ (eval (PySem.Expr.Lambda _ _ _ _) _) _ _ _)); (fail_if_success (with_reducible show wpAny _ _ (call (Value.type _) _ _) _ _ _)); (fail_if_success (with_reducible show wpAny _ _ (exec (Stmt.Assign _ (PySem.Expr.ListComp _ _ _ _) _) _) _ _ _)); (fail_if_success (with_reducible refine ite_pos ?_ ?_)); walk1; try dsimp only))
      refine ke_ne_ints (News.isList (by assumption) (.head _)) (News.isList (by assumption) (.tail _ (.tail _ (.tail _ (.tail _ (.tail _ (.head _)))))) ) huI hrv (by omega) ?_
      rw [decide_eq_true (rfl : casts rs0 = casts rs0)]
      repeat (first | (k_unfold; try dsimp only) | ((with_reducible refine ite_pos (by decide) ?_); try dsimp only) | ((with_reducible refine ite_neg (by decide) ?_); try dsimp only) | ((fail_if_success (with_reducible show wpAny _ _ (execs _ _) _ _ _)); (fail_if_success (with_reducible show wpAny _ _ (subscriptTail _ _ _ _) _ _ _)); (fail_if_success (with_reducible show wpAny _ _ (call (Value.ref _) _ _) _ _ _)); (fail_if_success (with_reducible show wpAny _ _ (exec (Stmt.For _ _ _ _ _) _) _ _ _)); (fail_if_success (with_reducible show wpAny _ _ (exec (Stmt.While _ _ _ _) _) _ _ _)); (fail_if_success (with_reducible show wpAny _ _ (pyIter _) _ _ _)); (fail_if_success (with_reducible show wpAny _ _ (eval (PySem.Expr.Lambda _ _ _ _) _) _ _ _)); (fail_if_success (with_reducible show wpAny _ _ (call (Value.type _) _ _) _ _ _)); (fail_if_success (with_reducible show wpAny _ _ (exec (Stmt.Assign _ (PySem.Expr.ListComp _ _ _ _) _) _) _ _ _)); (fail_if_success (with_reducible refine ite_pos ?_ ?_)); walk1; try dsimp only))
      walk1
      try dsimp only
      refine next _ _ _ F12 ⟨rfl, trivial⟩ (fun p hp => N12 p ?_)
      simp only [List.mem_cons] at hp ⊢
      rcases hp with hp | hp | hp | hp | hp
      · exact .inr (.inr (.inl hp))
      · exact .inr (.inr (.inr (.inr (.inl hp))))
      · exact .inr (.inr (.inr (.inr (.inr (.inr (.inr (.inl hp)))))))
      · exact .inr (.inr (.inr (.inr (.inr (.inr (.inr (.inr (.inr (.inl hp)))))))))
      · exact .inr (.inr (.inr (.inr (.inr (.inr (.inr (.inr (.inr (.inr hp)))))))))

/-- an element of a comprehension over threes is told; the ledger may have grown -/
def El3 (h₀ : Heap) (L : Addr) (m : Str → Option Value) (s : Shared) (I : Addr) (oI : Obj) (C : Addr) (oC : Obj) (D : Addr) (ys : List Value) (led : List (Addr × Obj)) (R : Value → List (Addr × Obj) → Prop) (y : Value) (s' : Shared) : Prop :=
  ∃ h' tk' add, s' = { s with heap := h', toks := tk' } ∧ Fr h₀ L h' m ∧ News h₀ L h' ((I, oI) :: (C, oC) :: (D, LCg.lst ys) :: (add ++ led)) ∧ (∀ p ∈ add, p.1 ≠ I ∧ p.1 ≠ C ∧ p.1 ≠ D) ∧ R y add
def Elt3 (prog : Program) (w : World) (A : Around) (h₀ : Heap) (L : Addr) (m : Str → Option Value) (env : Env) (elt : PySem.Expr) (x1 x2 x3 : Str) (scope : Scope) (cl : List (Str × Addr)) (its : Array Value) (led : List (Addr × Obj)) (J : Nat → List Value → List (Addr × Obj) → Prop) (s : Shared) : Prop :=
  ∀ i t v1 v2 v3 n ys add I oI C oC D m₂ h tk (E' : Value → Shared → Prop), its[i]? = some (.ref t) → (t, listOf #[v1, v2, v3] n) ∈ led → J i ys add → LCg.NsObj oC m₂ → m₂ x1 = some v1 → m₂ x2 = some v2 → m₂ x3 = some v3 → Fr h₀ L h m →
    News h₀ L h ((I, oI) :: (C, oC) :: (D, LCg.lst ys) :: (add ++ led)) →
    wpAny (model prog w) A (eval elt (compEnvC scope cl C env)) (El3 h₀ L m s I oI C oC D ys (add ++ led) fun y add' => J (i + 1) (ys ++ [y]) (add' ++ add)) E' { s with heap := h, toks := tk }

section
variable {prog : Program} {w : World} {A : Around} {E : Value → Shared → Prop} {s : Shared} {h₀ : Heap} {L : Addr} {m : Str → Option Value} {env : Env}
  {elt iter : PySem.Expr} {x1 x2 x3 : Str} {p1 p2 p3 tp : Pos} {kk : Nat} {scope : Scope} {cl : List (Str × Addr)} {pos : Pos} {ax : Addr} {its : Array Value} {kx : Nat} {led : List (Addr × Obj)} {J : Nat → List Value → List (Addr × Obj) → Prop}
theorem block3 {s₂ : Shared} {I : Addr} {RR : Value → Addr → Result → Shared → Prop}
    (hh : A.handled = none) (hcell : ∀ y ∈ scope.names, y.2 ≠ .cell) (hkind : scope.kind = .function) (hx1 : scope.names.lookup x1 = some .local) (hx2 : scope.names.lookup x2 = some .local) (hx3 : scope.names.lookup x3 = some .local)
    (h12 : x1 ≠ x2) (h13 : x1 ≠ x3) (h23 : x2 ≠ x3) (hm : (ax, listOf its kx) ∈ led) (hsz : its.size ≤ sizeLine) (hit : s₂.heap.IsListIter I ax 0)
    (F : Fr h₀ L s₂.heap m) (N : News h₀ L s₂.heap led) (hIL : L ≠ I) (hI0 : h₀.get? I = none) (off : ∀ p ∈ led, p.1 ≠ I)
    (threes : ∀ (i : Nat) v, its[i]? = some v → ∃ t v1 v2 v3 n, v = .ref t ∧ (t, listOf #[v1, v2, v3] n) ∈ led) (j0 : J 0 [] [])
    (el : Elt3 prog w A h₀ L m env elt x1 x2 x3 scope cl its led J s₂)
    (hRR : ∀ D C h tk m' ys add, Fr h₀ L h m → News h₀ L h ((D, LCg.lst ys) :: (add ++ led)) → (∀ p ∈ add ++ led, p.1 ≠ D) → h.Ns C m' → h₀.get? C = none → h₀.get? D = none → C ≠ L → D ≠ L → C ≠ D → (∀ p ∈ add ++ led, p.1 ≠ C) → J its.size ys add →
      RR (.ref D) C (.ok .next) { s₂ with heap := h, toks := tk }) :
    wpAny (model prog w) A (newList []) (fun acc s₃ => wpAny (model prog w) A (newFunctionEnv scope env.globals cl [] env.qual none .none (some env)) (fun cenv s₄ =>
      codeAny (model prog w) A (.compStart (.ListComp elt [⟨.Tuple [.Name x1 p1, .Name x2 p2, .Name x3 p3] kk tp, iter, [], 0⟩] scope pos) 0 (.ref I) acc { cenv with scope := relabel scope env }) (RR acc cenv.locals) s₄) E s₃) E s₂ := by
  have hIo : ∃ o, s₂.heap.get? I = some o := by obtain ⟨o, e, _⟩ := hit; exact ⟨o, e⟩
  have hIlt : I < s₂.heap.objs.size := hIo.elim fun o e => Heap.lt_size e
  have haxlt : ax < s₂.heap.objs.size := Heap.lt_size (N _ hm).1
  have haxI : ax ≠ I := off _ hm
  have W := Walks.list (prog := prog) (w := w) hh I ax haxI its
  refine wpAny_newObj_type (wpAny_newFunctionEnv hcell (by intro y hy; simp at hy) (fun h₁ hns₁ hsb₁ => ?_) hkind)
  dsimp only at hns₁ hsb₁ ⊢
  generalize hH2 : s₂.heap.push { cls := .type "list", dict := none, data := .seq ([] : List Value).toArray } = H2 at hns₁ hsb₁ ⊢
  have hC : H2.objs.size = s₂.heap.objs.size + 1 := by rw [← hH2, Heap.size_push]
  generalize hD : s₂.heap.objs.size = D at *
  generalize hCC : H2.objs.size = C at *
  have lo2 : ∀ b, b < D → b ≠ C ∧ b ≠ D := fun b hb => ⟨by rw [hC]; exact Nat.ne_of_lt (Nat.lt_succ_of_lt hb), Nat.ne_of_lt hb⟩
  have hDC : D ≠ C := by rw [hC]; exact Nat.ne_of_lt (Nat.lt_succ_self _)
  have old : ∀ b o, s₂.heap.get? b = some o → h₁.get? b = some o := fun b o e => hsb₁.extBut b o (lo2 b (hD ▸ Heap.lt_size e)).1 (Heap.get?_push_of_some _ (hH2 ▸ Heap.get?_push_of_some _ e))
  have hacc : h₁.get? D = some (LCg.lst []) := hsb₁.extBut _ _ hDC (Heap.get?_push_of_some _ (by rw [← hH2, ← hD]; exact Heap.get?_push_size _ rfl))
  have hLlt : L < D := hD ▸ F.ns.lt
  have fresh₀ : ∀ a, D ≤ a → h₀.get? a = none := fun a ha => Heap.get?_none_of_le (Nat.le_trans F.above (Nat.le_trans (Nat.le_of_lt hLlt) ha))
  have hD₀ : h₀.get? D = none := fresh₀ _ (Nat.le_refl _)
  have hC₀ : h₀.get? C = none := fresh₀ _ (by rw [hC]; exact Nat.le_succ _)
  have hDL : D ≠ L := Ne.symm (lo2 L hLlt).2
  have hCL : C ≠ L := Ne.symm (lo2 L hLlt).1
  have hCI : I ≠ C := (lo2 I hIlt).1
  have hDI : I ≠ D := (lo2 I hIlt).2
  have haxC : ax ≠ C := (lo2 ax haxlt).1
  have haxD : ax ≠ D := (lo2 ax haxlt).2
  have off₀ : ∀ p ∈ led, p.1 ≠ I ∧ p.1 ≠ C ∧ p.1 ≠ D := fun p hp => ⟨off p hp, lo2 p.1 (hD ▸ Heap.lt_size (N p hp).1)⟩
  have hl₂ : s₂.heap.IsList ax its := News.isList N hm
  have loop : ∀ s₃ : Shared, s₃ = { s₂ with heap := h₁, toks := s₂.toks + ([] : List (Str × Value)).length } →
      codeAny (model prog w) A (.compLoop (.ListComp elt [⟨.Tuple [.Name x1 p1, .Name x2 p2, .Name x3 p3] kk tp, iter, [], 0⟩] scope pos) 0 (.ref I) (.ref D) (compEnvC scope cl C env))
        (RR (.ref D) C) s₃ := by
    rintro s₃ rfl
    refine LCp.codeAny_compLoop_pair
      (fun k s' => ∃ h' tk i ys m' add, s' = { s₂ with heap := h', toks := tk } ∧ i ≤ its.size ∧ k = its.size + 1 - i ∧ ys.length = i ∧ (h'.IsListIter I ax i ∧ h'.IsList ax its) ∧ Fr h₀ L h' m ∧ h'.Ns C m' ∧
        News h₀ L h' ((D, LCg.lst ys) :: (add ++ led)) ∧ (∀ p ∈ add ++ led, p.1 ≠ I ∧ p.1 ≠ C ∧ p.1 ≠ D) ∧ J i ys add) ?_ (its.size + 1)
      ⟨h₁, _, 0, [], _, [], rfl, Nat.zero_le _, rfl, rfl, ⟨hit.at fun o e => old _ _ e, hl₂.at fun o e => old _ _ e⟩, fr_keep F old, hns₁, fun p hp => ?_, off₀, j0⟩
    · rintro k s' ⟨h', tk, i, ys, m', add, rfl, hi, rfl, hyl, hst', F', hn', N', off', hJ⟩
      have N'off : ∀ p ∈ ((D, LCg.lst ys) :: (add ++ led) : List (Addr × Obj)), p.1 ≠ I := fun p hp => by
        rcases List.mem_cons.mp hp with rfl | hp
        · exact Ne.symm hDI
        · exact (off' p hp).1
      by_cases hlt : i < its.size
      · refine W.item i _ _ _ hlt hst' fun v h₂ tk₂ hPv hst₂ hk₂ => ?_
        obtain ⟨t, v1, v2, v3, n, rfl, ht⟩ := threes i v hPv
        have N₂ : News h₀ L h₂ ((D, LCg.lst ys) :: (add ++ led)) := fun p hp => ⟨hk₂ _ _ (by simpa using N'off p hp) (N' p hp).1, (N' p hp).2⟩
        have F₂ : Fr h₀ L h₂ m := ⟨F'.ns.at' fun o e => hk₂ _ o (by simpa using hIL) e, fun b o e => hk₂ b o (by simp; intro q; rw [q, hI0] at e; cases e) (F'.keep b o e), F'.above⟩
        have hn₂ : h₂.Ns C m' := hn'.at' fun o e => hk₂ _ o (by simpa using Ne.symm hCI) e
        refine wpAny_letOwnedTupleGo_listiter hst₂.1 ?_
        have hIo₂ : ∃ o, h₂.get? I = some o := by obtain ⟨o, e, _⟩ := hst₂.1; exact ⟨o, e⟩
        obtain ⟨oI₂, heI₂⟩ := hIo₂
        obtain ⟨oC₂, heC₂, hoC₂⟩ := LCg.ns_obj hn₂
        have N₂' : News h₀ L h₂ ((I, oI₂) :: (C, oC₂) :: (D, LCg.lst ys) :: (add ++ led)) := fun p hp => by
          rcases List.mem_cons.mp hp with rfl | hp
          · exact ⟨heI₂, Ne.symm hIL, hI0⟩
          · rcases List.mem_cons.mp hp with rfl | hp
            · exact ⟨heC₂, hCL, hC₀⟩
            · exact N₂ p hp
        refine kun_list (s := { s₂ with heap := h₂, toks := tk₂ }) F₂ N₂' (News.isList N₂' (List.Mem.tail _ (List.Mem.tail _ (List.Mem.tail _ (List.mem_append_right _ ht))))) hh rfl rfl fun h₅ F₅ N₅ => ?_
        have hn₅ : h₅.Ns C m' := hoC₂.ns (N₅ _ (List.Mem.tail _ (List.Mem.head _))).1
        refine assignInOrder_cons (wpAny_assign_Name (wpAny_storeName_local (lookup_relabel_local hx1) hn₅ (fun h₆ hn₆ hs₆ => ?_) (by simp [compEnvC, relabel, hkind])))
        refine assignInOrder_cons (wpAny_assign_Name (wpAny_storeName_local (lookup_relabel_local hx2) hn₆ (fun h₇ hn₇ hs₇ => ?_) (by simp [compEnvC, relabel, hkind])))
        refine assignInOrder_cons (wpAny_assign_Name (wpAny_storeName_local (lookup_relabel_local hx3) hn₇ (fun h₃ hn₃ hs₃ => ?_) (by simp [compEnvC, relabel, hkind])))
        refine assignInOrder_nil ?_
        have up : ∀ b o, b ≠ C → h₅.get? b = some o → h₃.get? b = some o := fun b o hb e => hs₃.extBut b o hb (hs₇.extBut b o hb (hs₆.extBut b o hb e))
        obtain ⟨oC, heC, hoC⟩ := LCg.ns_obj hn₃
        have F₃ : Fr h₀ L h₃ m := ⟨F₅.ns.at' fun o e => up _ o (Ne.symm hCL) e, fun b o e => up b o (fun q => by rw [q, hC₀] at e; cases e) (F₅.keep b o e), F₅.above⟩
        have N₃ : News h₀ L h₃ ((I, oI₂) :: (C, oC) :: (D, LCg.lst ys) :: (add ++ led)) := fun p hp => by
          rcases List.mem_cons.mp hp with rfl | hp
          · exact ⟨up _ _ hCI (N₅ _ (List.Mem.head _)).1, Ne.symm hIL, hI0⟩
          · rcases List.mem_cons.mp hp with rfl | hp
            · exact ⟨heC, hCL, hC₀⟩
            · refine ⟨up _ _ ?_ (N₅ p (List.Mem.tail _ (List.Mem.tail _ hp))).1, (N₅ p (List.Mem.tail _ (List.Mem.tail _ hp))).2⟩
              rcases List.mem_cons.mp hp with rfl | hp
              · exact hDC
              · exact (off' p hp).2.1
        refine wpAny_mono (el i t v1 v2 v3 n ys add I oI₂ C oC D _ h₃ _ _ hPv ht hJ hoC (by simp [h12, h13]) (by simp [h23]) (by simp) F₃ N₃) (fun y s₄ h₄ => ?_) fun _ _ e => e
        obtain ⟨h₄, tk₄, add₄, rfl, F₄, N₄, off₄, hJ₄⟩ := h₄
        have zI := (N₄ (I, oI₂) (List.Mem.head _)).1
        have zC := (N₄ (C, oC) (List.Mem.tail _ (List.Mem.head _))).1
        have zD := (N₄ (D, LCg.lst ys) (List.Mem.tail _ (List.Mem.tail _ (List.Mem.head _)))).1
        have N₄' : News h₀ L h₄ (add₄ ++ (add ++ led)) := fun p hp => N₄ p (List.Mem.tail _ (List.Mem.tail _ (List.Mem.tail _ hp)))
        have off4 : ∀ p ∈ add₄ ++ (add ++ led), p.1 ≠ I ∧ p.1 ≠ C ∧ p.1 ≠ D := fun p hp => (List.mem_append.mp hp).elim (off₄ p) (off' p)
        refine append_at (hsz := by show ys.toArray.size ≤ sizeLine; rw [List.size_toArray, hyl]; exact Nat.le_trans hi hsz) zD fun h₅' hs₅ hD₅ => ?_
        refine ⟨its.size + 1 - (i + 1), by omega, h₅', tk₄, i + 1, ys ++ [y], _, add₄ ++ add, rfl, hlt, rfl, by rw [List.length_append, List.length_singleton, hyl], ⟨?_, ?_⟩, F₄.change hs₅ hDL hD₀, (hoC.ns zC).sameBut hs₅ (Ne.symm hDC), fun p hp => ?_, ?_, hJ₄⟩
        · obtain ⟨o, e1, e2⟩ := hst₂.1
          rw [heI₂] at e1
          cases e1
          exact ⟨oI₂, hs₅.extBut _ _ hDI zI, e2⟩
        · exact (News.isList (N₄') (List.mem_append_right _ (List.mem_append_right _ hm))).at fun o e => hs₅.extBut _ _ haxD e
        · rw [List.append_assoc] at hp
          rcases List.mem_cons.mp hp with rfl | hp
          · exact ⟨hD₅.trans (congrArg some (LCg.lst_snoc ys y)), hDL, hD₀⟩
          · exact ⟨hs₅.extBut _ _ (off4 p hp).2.2 (N₄' p hp).1, (N₄' p hp).2⟩
        · rw [List.append_assoc]; exact off4
      · obtain rfl : i = its.size := Nat.le_antisymm hi (Nat.not_lt.mp hlt)
        refine W.done _ _ _ hst' fun h₂ tk₂ hk₂ => ?_
        have F₂ : Fr h₀ L h₂ m := ⟨F'.ns.at' fun o e => hk₂ _ o (by simpa using hIL) e, fun b o e => hk₂ b o (by simp; intro q; rw [q, hI0] at e; cases e) (F'.keep b o e), F'.above⟩
        have hn₂ : h₂.Ns C m' := hn'.at' fun o e => hk₂ _ o (by simpa using Ne.symm hCI) e
        exact hRR _ _ h₂ tk₂ _ ys add F₂ (fun p hp => ⟨hk₂ _ _ (by simpa using N'off p hp) (N' p hp).1, (N' p hp).2⟩) (fun p hp => (off' p hp).2.2) hn₂ hC₀ hD₀ hCL hDL (Ne.symm hDC) (fun p hp => (off' p hp).2.1) hJ
    · rcases List.mem_cons.mp hp with rfl | hp
      · exact ⟨hacc, hDL, hD₀⟩
      · exact ⟨old _ _ (N p hp).1, (N p hp).2⟩
  exact codeAny_compStart_list (loop _ rfl) (W.self 0 _ _ _ ⟨hit.at fun o e => old _ _ e, hl₂.at fun o e => old _ _ e⟩ (loop _ rfl))

/-- the list that a comprehension over threes runs through, and what its turns do -/
def Src3 (prog : Program) (w : World) (A : Around) (h₀ : Heap) (L : Addr) (m : Str → Option Value) (env : Env) (elt : PySem.Expr) (x1 x2 x3 : Str) (scope : Scope) (cl : List (Str × Addr)) (Fin : Shared → List Value → List (Addr × Obj) → Prop) (xv : Value) (s₁ : Shared) : Prop :=
  ∃ ax its kx led J, xv = .ref ax ∧ A.handled = none ∧ Fr h₀ L s₁.heap m ∧ News h₀ L s₁.heap led ∧ (ax, listOf its kx) ∈ led ∧ its.size ≤ sizeLine ∧
    (∀ (i : Nat) v, its[i]? = some v → ∃ t v1 v2 v3 n, v = .ref t ∧ (t, listOf #[v1, v2, v3] n) ∈ led) ∧ J 0 [] [] ∧
    ∀ g, Elt3 prog w A h₀ L m env elt x1 x2 x3 scope cl its led J { s₁ with heap := g } ∧ ∀ ys add, J its.size ys add → Fin { s₁ with heap := g } ys (add ++ led)
def FinE3 (h₀ : Heap) (L : Addr) (m : Str → Option Value) (s : Shared) (Q : Value → Shared → Prop) (ys : List Value) (news : List (Addr × Obj)) : Prop :=
  ∀ D h tk, Fr h₀ L h m → News h₀ L h ((D, LCg.lst ys) :: news) → (∀ p ∈ news, p.1 ≠ D) → Q (.ref D) { s with heap := h, toks := tk }
def FinA3 (h₀ : Heap) (L : Addr) (m : Str → Option Value) (s : Shared) (y : Str) (Q : Flow → Shared → Prop) (ys : List Value) (news : List (Addr × Obj)) : Prop :=
  ∀ D h tk, Fr h₀ L h (fun z => if z = y then some (.ref D) else m z) → News h₀ L h ((D, LCg.lst ys) :: news) → (∀ p ∈ news, p.1 ≠ D) → Q .next { s with heap := h, toks := tk }

theorem ListComp3 {Q : Value → Shared → Prop}
    (hclos : closureFor scope env = pure cl) (hcell : ∀ y ∈ scope.names, y.2 ≠ .cell) (hkind : scope.kind = .function)
    (hnames : ∀ y ∈ scope.names, y.2 = .local → scope.names.lookup y.1 = some .local) (hx1 : scope.names.lookup x1 = some .local) (hx2 : scope.names.lookup x2 = some .local) (hx3 : scope.names.lookup x3 = some .local)
    (h12 : x1 ≠ x2) (h13 : x1 ≠ x3) (h23 : x2 ≠ x3)
    (h : wpAny (model prog w) A (eval iter env) (Src3 prog w A h₀ L m env elt x1 x2 x3 scope cl (fun s₂ => FinE3 h₀ L m s₂ Q)) E s)
    (hs : ∀ x, foldedSetIterable iter env x = pure x := by intro _; rfl) :
    wpAny (model prog w) A (eval (.ListComp elt [⟨.Tuple [.Name x1 p1, .Name x2 p2, .Name x3 p3] kk tp, iter, [], 0⟩] scope pos) env) Q E s := by
  rw [eval_ListComp]
  refine wpAny_comprehension_free (use := none) rfl hs hclos hkind hnames (wpAny_mono h (fun xv s₁ h₁ => ?_) fun _ _ e => e)
  obtain ⟨ax, its, kx, led, J, rfl, hh, F, N, hm, hsz, threes, j0, R⟩ := h₁
  have hl := News.isList N hm
  refine wpAny_pyIter_list hl ?_
  have up : ∀ b o, s₁.heap.get? b = some o → (s₁.heap.push { cls := .type "list_iterator", data := .fields #[.ref ax, .int 0 0] }).get? b = some o := fun b o e => Heap.get?_push_of_some _ e
  refine block3 hh hcell hkind hx1 hx2 hx3 h12 h13 h23 hm hsz ⟨_, Heap.get?_push_size _ rfl, rfl, rfl⟩ (fr_keep F up) (news_keep N up) (Nat.ne_of_lt F.ns.lt) (next_is_new F) (fun p hp => Nat.ne_of_lt (Heap.lt_size (N p hp).1)) threes j0 (R _).1 ?_
  intro D C h tk m' ys add F' N' o1 hn hC₀ hD₀ hCL hDL hCD offC fin
  refine ⟨m', hn, fun h'' hs'' => (R s₁.heap).2 ys add fin D h'' tk (F'.change hs'' hCL hC₀) (fun p hp => ?_) o1⟩
  refine ⟨hs''.extBut _ _ ?_ (N' p hp).1, (N' p hp).2⟩
  rcases List.mem_cons.mp hp with rfl | hp
  · exact Ne.symm hCD
  · exact offC p hp
theorem Assign_ListComp3 {y : Str} {py spos : Pos} {Q : Flow → Shared → Prop} (hLe : env.locals = L)
    (hsw : swapsWith (.ListComp elt [⟨.Tuple [.Name x1 p1, .Name x2 p2, .Name x3 p3] kk tp, iter, [], 0⟩] scope pos) (some (.Name y py)) spos.line env = pure true)
    (hclos : closureFor scope env = pure cl) (hcell : ∀ y ∈ scope.names, y.2 ≠ .cell) (hkind : scope.kind = .function)
    (hnames : ∀ y ∈ scope.names, y.2 = .local → scope.names.lookup y.1 = some .local) (hx1 : scope.names.lookup x1 = some .local) (hx2 : scope.names.lookup x2 = some .local) (hx3 : scope.names.lookup x3 = some .local)
    (h12 : x1 ≠ x2) (h13 : x1 ≠ x3) (h23 : x2 ≠ x3)
    (hy : env.kindOf y = some .local) (hp : (env.scope.kind == .class || (env.scope.kind == .module && env.locals != env.globals)) = false)
    (h : wpAny (model prog w) A (eval iter env) (Src3 prog w A h₀ L m env elt x1 x2 x3 scope cl (fun s₂ => FinA3 h₀ L m s₂ y Q)) E s)
    (hs : ∀ x, foldedSetIterable iter env x = pure x := by intro _; rfl) :
    wpAny (model prog w) A (exec (.Assign [.Name y py] (.ListComp elt [⟨.Tuple [.Name x1 p1, .Name x2 p2, .Name x3 p3] kk tp, iter, [], 0⟩] scope pos) spos) env) Q E s := by
  subst hLe
  rw [exec_Assign_Name_used _ _ _ _ hsw]
  refine wpAny_bind (wpAny_standAt (wpAny_bind ?_))
  show wpAny _ A (do let _ ← comprehension (.ListComp elt [⟨.Tuple [.Name x1 p1, .Name x2 p2, .Name x3 p3] kk tp, iter, [], 0⟩] scope pos) scope env _ (newList []) false (eval iter env) (some (assign (.Name y py) env))) _ _ s
  refine wpAny_bind (wpAny_mono (wpAny_comprehension_free (use := some (assign (.Name y py) env)) (Q := fun _ s' => Q .next s') rfl hs hclos hkind hnames
    (wpAny_mono h (fun xv s₁ h₁ => ?_) fun _ _ e => e)) (fun _ s' hq => wpAny_pure (wpAny_pure hq)) fun _ _ e => e)
  obtain ⟨ax, its, kx, led, J, rfl, hh, F, N, hm, hsz, threes, j0, R⟩ := h₁
  have hl := News.isList N hm
  refine wpAny_pyIter_list hl ?_
  have up : ∀ b o, s₁.heap.get? b = some o → (s₁.heap.push { cls := .type "list_iterator", data := .fields #[.ref ax, .int 0 0] }).get? b = some o := fun b o e => Heap.get?_push_of_some _ e
  refine block3 hh hcell hkind hx1 hx2 hx3 h12 h13 h23 hm hsz ⟨_, Heap.get?_push_size _ rfl, rfl, rfl⟩ (fr_keep F up) (news_keep N up) (Nat.ne_of_lt F.ns.lt) (next_is_new F) (fun p hp => Nat.ne_of_lt (Heap.lt_size (N p hp).1)) threes j0 (R _).1 ?_
  intro D C h' tk m' ys add F' N' o1 hn hC₀ hD₀ hCL hDL hCD offC fin
  show wpAny _ A (assign (.Name y py) env (.ref D)) _ _ _
  refine wpAny_assign_Name (wpAny_storeName_local hy F'.ns (fun h₂ hn₂ hs₂ => ?_) hp)
  have hL₀ : h₀.get? env.locals = none := Heap.get?_none_of_le F'.above
  have F₂ : Fr h₀ env.locals h₂ (fun z => if z = y then some (.ref D) else m z) := ⟨hn₂, fun b o e => hs₂.extBut b o (fun q => by rw [q, hL₀] at e; cases e) (F'.keep b o e), F'.above⟩
  refine ⟨m', hn.sameBut hs₂ hCL, fun h'' hs'' => (R s₁.heap).2 ys add fin D h'' _ (F₂.change hs'' hCL hC₀) (fun p hp => ?_) o1⟩
  have z : h₂.get? p.1 = some p.2 := hs₂.extBut _ _ (N' p hp).2.1 (N' p hp).1
  refine ⟨hs''.extBut _ _ ?_ z, (N' p hp).2⟩
  rcases List.mem_cons.mp hp with rfl | hp
  · exact Ne.symm hCD
  · exact offC p hp
end

/-- the pairs that places holds, told as far as they are made -/
def PlOk (tr : List (Nat × Nat × Nat)) (i : Nat) (ys : List Value) (add : List (Addr × Obj)) : Prop :=
  ys.length = i ∧ ∀ (j : Nat) (y : Value), ys[j]? = some y → ∃ a v2 n2 x l r, y = .ref a ∧ (a, listOf (List.toArray v2) n2) ∈ add ∧ tr[j]? = some (x, l, r) ∧ IntsAre v2 (casts [l, r])
theorem PlOk.nil (tr : List (Nat × Nat × Nat)) : PlOk tr 0 [] [] := ⟨rfl, fun j y h => by simp at h⟩
theorem PlOk.snoc {tr : List (Nat × Nat × Nat)} {i : Nat} {ys : List Value} {add add' : List (Addr × Obj)} {a : Addr} {v2 : List Value} {n2 x l r : Nat} (h : PlOk tr i ys add) (hm : (a, listOf (List.toArray v2) n2) ∈ add') (ht : tr[i]? = some (x, l, r)) (hI : IntsAre v2 (casts [l, r])) :
    PlOk tr (i + 1) (ys ++ [.ref a]) (add' ++ add) := by
  refine ⟨by rw [List.length_append, h.1]; rfl, fun j y hy => ?_⟩
  by_cases hj : j < ys.length
  · rw [List.getElem?_append_left hj] at hy
    obtain ⟨a', v2', n2', x', l', r', e, hm', q⟩ := h.2 j y hy
    exact ⟨a', v2', n2', x', l', r', e, List.mem_append_right _ hm', q⟩
  · rw [List.getElem?_append_right (by omega)] at hy
    have hz : j - ys.length = 0 := by
      cases hq : j - ys.length with
      | zero => rfl
      | succ q => rw [hq] at hy; simp at hy
    rw [hz] at hy
    simp at hy
    have hji : j = i := by have := h.1; omega
    subst hji
    exact ⟨a, v2, n2, x, l, r, hy.symm, List.mem_append_left _ hm, ht, hI⟩
theorem LkOk.threes {lv : List Value} {tr : List (Nat × Nat × Nat)} {ex : List (Addr × Obj)} (h : LkOk lv tr ex) (i : Nat) (v : Value) (hv : lv.toArray[i]? = some v) : ∃ t v1 v2 v3 n, v = .ref t ∧ (t, listOf #[v1, v2, v3] n) ∈ ex := by
  obtain ⟨a, v3, n3, x, l, r, rfl, hm, _, hI⟩ := h.2 i v (by simpa using hv)
  cases hI with
  | cons _ _ h1 => cases h1 with
    | cons _ _ h2 => cases h2 with
      | cons _ _ h3 => cases h3; exact ⟨a, _, _, _, n3, rfl, hm⟩

theorem LkOk.at3 {g hp : Heap} {L t : Addr} {lv : List Value} {tr : List (Nat × Nat × Nat)} {ex led : List (Addr × Obj)} {i n : Nat} {v1 v2 v3 : Value} (h : LkOk lv tr ex) (N : News g L hp led) (sub : ∀ p ∈ ex, p ∈ led) (hv : lv.toArray[i]? = some (.ref t)) (ht : (t, listOf #[v1, v2, v3] n) ∈ led) :
    ∃ x l r t1 t2 t3, tr[i]? = some (x, l, r) ∧ v1 = .int ((x : Nat) : Int) t1 ∧ v2 = .int ((l : Nat) : Int) t2 ∧ v3 = .int ((r : Nat) : Int) t3 := by
  obtain ⟨a, w3, n3, x, l, r, e, hm, htr, hI⟩ := h.2 i _ (by simpa using hv)
  cases e
  have e1 := (N _ ht).1
  have e2 := (N _ (sub _ hm)).1
  dsimp only at e1 e2
  rw [e1] at e2
  cases hI with
  | cons _ _ h1 => cases h1 with
    | cons _ _ h2 => cases h2 with
      | cons _ _ h3 => cases h3; cases e2; exact ⟨x, l, r, _, _, _, htr, rfl, rfl, rfl⟩

theorem news_pull {h₀ h : Heap} {L : Addr} {a b c p : Addr × Obj} {rest : List (Addr × Obj)} (N : News h₀ L h (a :: b :: c :: rest)) (hp : p ∈ rest) : News h₀ L h (a :: b :: c :: p :: rest) := fun q hq => by
  simp only [List.mem_cons] at hq
  rcases hq with rfl | rfl | rfl | rfl | hq
  · exact N _ (.head _)
  · exact N _ (.tail _ (.head _))
  · exact N _ (.tail _ (.tail _ (.head _)))
  · exact N _ (.tail _ (.tail _ (.tail _ hp)))
  · exact N _ (.tail _ (.tail _ (.tail _ hq)))
/-- what a list of pairs says -/
def pairD (p : Nat × Nat × Nat) : PyData := .list [.int (p.2.1 : Int), .int (p.2.2 : Int)]
theorem pairs_canLay : ∀ tr : List (Nat × Nat × Nat), PyData.canLayAll0 (tr.map pairD) = true
  | [] => rfl
  | p :: r => by simp [PyData.canLayAll0, PyData.canLay0, pairD, pairs_canLay r]
theorem pairs_depth : ∀ tr : List (Nat × Nat × Nat), PyData.depthAll (tr.map pairD) ≤ 1
  | [] => Nat.zero_le _
  | p :: r => by
    have := pairs_depth r
    simp [PyData.depthAll, PyData.depth, pairD]
    omega
theorem pairs_shaped (tr : List (Nat × Nat × Nat)) : SeqAt.shaped (.list (tr.map pairD)) = true := by
  have := pairs_depth tr
  simp [SeqAt.shaped, PyData.canLay0, PyData.depth, pairs_canLay]
  omega
theorem pairs_eqv : ∀ tr : List (Nat × Nat × Nat), PyData.eqvAll (tr.map pairD) (tr.map pairD) = true
  | [] => rfl
  | p :: r => by simp [PyData.eqvAll, PyData.eqv, pairD, pairs_eqv r]
theorem pairs_reads {h : Heap} : ∀ {ys : List Value} {tr : List (Nat × Nat × Nat)}, ys.length = tr.length → (∀ (j : Nat) (y : Value), ys[j]? = some y → ∃ a v2 n2 x l r, y = .ref a ∧ h.get? a = some (listOf (List.toArray v2) n2) ∧ tr[j]? = some (x, l, r) ∧ IntsAre v2 (casts [l, r])) → ∃ as, ReadsAll h ys (tr.map pairD) as
  | [], [], _, _ => ⟨_, .nil⟩
  | [], _ :: _, e, _ => by simp at e
  | _ :: _, [], e, _ => by simp at e
  | y :: ys, p :: tr, e, hy => by
    obtain ⟨a, v2, n2, x, l, r, rfl, ha, ht, hI⟩ := hy 0 y rfl
    have ep : p = (x, l, r) := Option.some.inj ht
    subst ep
    obtain ⟨as, ih⟩ := pairs_reads (h := h) (ys := ys) (tr := tr) (by simpa using e) fun j z hz => by simpa using hy (j + 1) z (by simpa using hz)
    have rd : Reads h (.ref a) (.list ((casts [l, r]).map PyData.int)) [a] := reads_newData ⟨_, ha, rfl, _, rfl⟩ (ke_carried hI)
    exact ⟨_, ReadsAll.cons rd ih⟩

theorem law_5 {w : World} {A A₀ : Around} {base g h : Heap} {outer : List Env} {s : Shared} {tk : Nat} {mean : ExcName → Option Value} {mg mb m : Str → Option Value} {L fa : Addr} {cd : Value} {o' : Obj} {sc : Addr} {vs : List Value} {ws : List Int} {o4 : Obj} {Q : Flow → Shared → Prop} {E : Value → Shared → Prop}
    {ll lk : Addr} {lv kv : List Value} {ln kc : Nat} {ps : Array Value} {ex : List (Addr × Obj)} {lows : List Nat} {tr : List (Nat × Nat × Nat)}
    (Z : LEnv w A A₀ base g outer mean mg mb L fa cd o' sc vs ws) (F : Fr g L h m) (K1 : Kn m [(Str.ofString "looked", .ref lk)])
    (N : News g L h ((lk, listOf (List.toArray kv) kc) :: (ll, listOf (List.toArray lv) ln) :: (L + 1 + 1 + 1 + 1, o4) :: (85, tabObj ps) :: ex))
    (d4 : o4.data = .cell (some (.ref ll))) (hlv : IntsAre lv (casts lows)) (hkv : LkOk kv tr ex) (ht80 : tr.length ≤ 80) (hl16 : lows.length ≤ 16)
    (P4 : ∀ x l r, (x, l, r) ∈ tr → l = placeL lows x ∧ r = placeR lows x ∧ x >>> 32 < lows.length)
    (hQ : ∀ h' tk' m', Fr g L h' m' → News g L h' [(85, tabObj ps)] → Q (.ret (.bool true)) { s with heap := h', toks := tk' }) :
    wpAny (model prog w) A (execs ((fnBody o').drop 13) (envOfC (Str.ofString "law") (fnScope o') L fa cd)) Q E { s with heap := h, toks := tk } := by
  obtain ⟨hk, B, X, T, hA, hd, hu, hh, gsc, hI, h63, h85⟩ := Z
  k_dflt (refine' lk_with hk ?k ?_; (case k => k_is))
  intro e
  subst e
  clear hk
  dsimp only [fnScope, fnBody, List.drop] at hA ⊢
  replace F := fr_knows F _ K1
  show wpAny _ _ _ _ _ _
  repeat (first | (k_unfold; try dsimp only) | ((with_reducible refine ite_pos (by decide) ?_); try dsimp only) | ((with_reducible refine ite_neg (by decide) ?_); try dsimp only) | ((fail_if_success (with_reducible show wpAny _ _ (subscriptTail _ _ _ _) _ _ _)); (fail_if_success (with_reducible show wpAny _ _ (call (Value.ref _) _ _) _ _ _)); (fail_if_success (with_reducible show wpAny _ _ (exec (Stmt.For _ _ _ _ _) _) _ _ _)); (fail_if_success (with_reducible show wpAny _ _ (exec (Stmt.While _ _ _ _) _) _ _ _)); (fail_if_success (with_reducible show wpAny _ _ (pyIter _) _ _ _)); (fail_if_success (with_reducible show wpAny _ _ (eval (PySem.Expr.Lambda _ _ _ _) _) _ _ _)); (fail_if_success (with_reducible show wpAny _ _ (call (Value.type _) _ _) _ _ _)); (fail_if_success (with_reducible show wpAny _ _ (exec (Stmt.Assign _ (PySem.Expr.ListComp _ _ _ _) _) _) _ _ _)); (fail_if_success (with_reducible refine ite_pos ?_ ?_)); walk1; try dsimp only))
  k_dflt (refine Assign_ListComp3 (h₀ := g) (L := L) (m := kn [(Str.ofString "looked", .ref lk)] m) (by rfl) (by with_unfolding_all rfl) (by with_unfolding_all rfl) (by decide) (by rfl) (by decide) (by rfl) (by rfl) (by rfl) (by decide) (by decide) (by decide) (by rfl) (by rfl) ?_)
  repeat (first | (k_unfold; try dsimp only) | ((with_reducible refine ite_pos (by decide) ?_); try dsimp only) | ((with_reducible refine ite_neg (by decide) ?_); try dsimp only) | ((fail_if_success (with_reducible show wpAny _ _ (subscriptTail _ _ _ _) _ _ _)); (fail_if_success (with_reducible show wpAny _ _ (call (Value.ref _) _ _) _ _ _)); (fail_if_success (with_reducible show wpAny _ _ (exec (Stmt.For _ _ _ _ _) _) _ _ _)); (fail_if_success (with_reducible show wpAny _ _ (exec (Stmt.While _ _ _ _) _) _ _ _)); (fail_if_success (with_reducible show wpAny _ _ (pyIter _) _ _ _)); (fail_if_success (with_reducible show wpAny _ _ (eval (PySem.Expr.Lambda _ _ _ _) _) _ _ _)); (fail_if_success (with_reducible show wpAny _ _ (call (Value.type _) _ _) _ _ _)); (fail_if_success (with_reducible show wpAny _ _ (exec (Stmt.Assign _ (PySem.Expr.ListComp _ _ _ _) _) _) _ _ _)); (fail_if_success (with_reducible refine ite_pos ?_ ?_)); walk1; try dsimp only))
  have hkl : kv.length = tr.length := hkv.1
  refine ⟨lk, kv.toArray, kc, _, PlOk tr, rfl, hh, F, N, List.Mem.head _, by rw [List.size_toArray, hkl, sizeLine_eq]; exact Nat.le_trans ht80 (by decide), ?_, PlOk.nil tr, fun g9 => ⟨?_, ?_⟩⟩
  · intro i v hv
    obtain ⟨t, v1, v2, v3, n, e, hm⟩ := hkv.threes i v hv
    exact ⟨t, v1, v2, v3, n, e, List.Mem.tail _ (List.Mem.tail _ (List.Mem.tail _ (List.Mem.tail _ hm)))⟩
  · intro i t v1 v2 v3 n ys add I oI C oC D m₂ h6 tk6 E' hit ht hJ hC hx1 hx2 hx3 F6 N6
    obtain ⟨x, l, r, t1, t2, t3, htr, rfl, rfl, rfl⟩ := hkv.at3 N6 (fun p hp => List.Mem.tail _ (List.Mem.tail _ (List.Mem.tail _ (List.mem_append_right _ (List.Mem.tail _ (List.Mem.tail _ (List.Mem.tail _ (List.Mem.tail _ hp)))))))) hit
      (List.Mem.tail _ (List.Mem.tail _ (List.Mem.tail _ (List.mem_append_right _ ht))))
    obtain ⟨q1, q2, q3⟩ := P4 x l r (List.mem_of_getElem? htr)
    replace N6 := news_pull (news_pull N6 (List.mem_append_right add (List.Mem.tail _ (List.Mem.head _)))) (List.Mem.tail _ (List.mem_append_right add (List.Mem.tail _ (List.Mem.tail _ (List.Mem.head _)))))
    show wpAny _ _ _ _ _ _
    k_fold
    repeat (first | (k_unfold; try dsimp only) | ((with_reducible refine ite_pos (by decide) ?_); try dsimp only) | ((with_reducible refine ite_neg (by decide) ?_); try dsimp only) | ((fail_if_success (with_reducible show wpAny _ _ (subscriptTail _ _ _ _) _ _ _)); (fail_if_success (with_reducible show wpAny _ _ (call (Value.ref _) _ _) _ _ _)); (fail_if_success (with_reducible show wpAny _ _ (exec (Stmt.For _ _ _ _ _) _) _ _ _)); (fail_if_success (with_reducible show wpAny _ _ (exec (Stmt.While _ _ _ _) _) _ _ _)); (fail_if_success (with_reducible show wpAny _ _ (pyIter _) _ _ _)); (fail_if_success (with_reducible show wpAny _ _ (eval (PySem.Expr.Lambda _ _ _ _) _) _ _ _)); (fail_if_success (with_reducible show wpAny _ _ (call (Value.type _) _ _) _ _ _)); (fail_if_success (with_reducible show wpAny _ _ (exec (Stmt.Assign _ (PySem.Expr.ListComp _ _ _ _) _) _) _ _ _)); (fail_if_success (with_reducible refine ite_pos ?_ ?_)); walk1; try dsimp only))
    (with_reducible refine law_places x ?csite ?cl hlv ?c16 q3 ?_)
    (case csite => exact (site_of B (by assumption) X T hA rfl rfl hd hu hh (by omega)))
    (case cl => exact News.isList (by assumption) (.tail _ (.tail _ (.tail _ (.tail _ (.head _))))))
    (case c16 => exact Nat.le_trans hl16 (by decide))
    intro pr v2 n2 h8 tk8 k8 pr0 pro hv2
    have F8 := fr_keep F6 k8
    have N8 := news_more F6 N6 k8 pr0 pro
    have ne8 := news_ne N6 pr0
    refine ⟨h8, tk8, [(pr, listOf (List.toArray v2) n2)], rfl, F8, fun p hp => N8 p ?_, fun p hp => ?_, hJ.snoc (List.Mem.head _) htr ?_⟩
    · simp only [List.mem_cons, List.mem_append, List.not_mem_nil, or_false] at hp ⊢
      rcases hp with hp | hp | hp | hp | hp
      · exact .inr (.inl hp)
      · exact .inr (.inr (.inl hp))
      · exact .inr (.inr (.inr (.inl hp)))
      · exact .inl hp
      · exact .inr (.inr (.inr (.inr (.inr (.inr hp)))))
    · rw [List.mem_singleton.mp hp]
      exact ⟨Ne.symm (ne8 _ (.head _)), Ne.symm (ne8 _ (.tail _ (.head _))), Ne.symm (ne8 _ (.tail _ (.tail _ (.head _))))⟩
    · rw [q1, q2]; exact hv2
  · intro ys add hJ
    unfold FinA3
    intro pl h7 tk7 F7 N7 off7
    clear F N
    dsimp only
    repeat (first | (k_unfold; try dsimp only) | ((with_reducible refine ite_pos (by decide) ?_); try dsimp only) | ((with_reducible refine ite_neg (by decide) ?_); try dsimp only) | ((fail_if_success (with_reducible show wpAny _ _ (compareOp _ (Value.ref _) (Value.ref _)) _ _ _)); (fail_if_success (with_reducible show wpAny _ _ (eval (PySem.Expr.ListComp _ _ _ _) _) _ _ _)); (fail_if_success (with_reducible show wpAny _ _ (subscriptTail _ _ _ _) _ _ _)); (fail_if_success (with_reducible show wpAny _ _ (call (Value.ref _) _ _) _ _ _)); (fail_if_success (with_reducible show wpAny _ _ (exec (Stmt.For _ _ _ _ _) _) _ _ _)); (fail_if_success (with_reducible show wpAny _ _ (exec (Stmt.While _ _ _ _) _) _ _ _)); (fail_if_success (with_reducible show wpAny _ _ (pyIter _) _ _ _)); (fail_if_success (with_reducible show wpAny _ _ (eval (PySem.Expr.Lambda _ _ _ _) _) _ _ _)); (fail_if_success (with_reducible show wpAny _ _ (call (Value.type _) _ _) _ _ _)); (fail_if_success (with_reducible show wpAny _ _ (exec (Stmt.Assign _ (PySem.Expr.ListComp _ _ _ _) _) _) _ _ _)); (fail_if_success (with_reducible refine ite_pos ?_ ?_)); walk1; try dsimp only))
    have hJ1 := hJ.1
    rw [List.size_toArray, hkl] at hJ1
    have hm7 : ∀ p ∈ ex, p ∈ (pl, LCg.lst ys) :: (add ++ (lk, listOf (List.toArray kv) kc) :: (ll, listOf (List.toArray lv) ln) :: (L + 1 + 1 + 1 + 1, o4) :: (85, tabObj ps) :: ex) := fun p hp => List.Mem.tail _ (List.mem_append_right _ (List.Mem.tail _ (List.Mem.tail _ (List.Mem.tail _ (List.Mem.tail _ hp)))))
    k_dflt (refine ListComp3 (h₀ := g) (L := L) (m := fun z => if z = Str.ofString "places" then some (Value.ref pl) else kn [(Str.ofString "looked", .ref lk)] m z) (by with_unfolding_all rfl) (by decide) (by rfl) (by decide) (by rfl) (by rfl) (by rfl) (by decide) (by decide) (by decide) ?_)
    repeat (first | (k_unfold; try dsimp only) | ((with_reducible refine ite_pos (by decide) ?_); try dsimp only) | ((with_reducible refine ite_neg (by decide) ?_); try dsimp only) | ((fail_if_success (with_reducible show wpAny _ _ (subscriptTail _ _ _ _) _ _ _)); (fail_if_success (with_reducible show wpAny _ _ (call (Value.ref _) _ _) _ _ _)); (fail_if_success (with_reducible show wpAny _ _ (exec (Stmt.For _ _ _ _ _) _) _ _ _)); (fail_if_success (with_reducible show wpAny _ _ (exec (Stmt.While _ _ _ _) _) _ _ _)); (fail_if_success (with_reducible show wpAny _ _ (pyIter _) _ _ _)); (fail_if_success (with_reducible show wpAny _ _ (eval (PySem.Expr.Lambda _ _ _ _) _) _ _ _)); (fail_if_success (with_reducible show wpAny _ _ (call (Value.type _) _ _) _ _ _)); (fail_if_success (with_reducible show wpAny _ _ (exec (Stmt.Assign _ (PySem.Expr.ListComp _ _ _ _) _) _) _ _ _)); (fail_if_success (with_reducible refine ite_pos ?_ ?_)); walk1; try dsimp only))
    refine ⟨lk, kv.toArray, kc, _, PlOk tr, rfl, hh, F7, N7, List.Mem.tail _ (List.mem_append_right _ (List.Mem.head _)), by rw [List.size_toArray, hkl, sizeLine_eq]; exact Nat.le_trans ht80 (by decide), ?_, PlOk.nil tr, fun g9 => ⟨?_, ?_⟩⟩
    · intro i v hv
      obtain ⟨t, v1, v2, v3, n, e, hm⟩ := hkv.threes i v hv
      exact ⟨t, v1, v2, v3, n, e, hm7 _ hm⟩
    · intro i t v1 v2 v3 n ys2 add2 I oI C oC D m₂ h6 tk6 E' hit ht hJ2 hC hx1 hx2 hx3 F6 N6
      obtain ⟨x, l, r, t1, t2, t3, htr, rfl, rfl, rfl⟩ := hkv.at3 N6 (fun p hp => List.Mem.tail _ (List.Mem.tail _ (List.Mem.tail _ (List.mem_append_right _ (hm7 p hp))))) hit
        (List.Mem.tail _ (List.Mem.tail _ (List.Mem.tail _ (List.mem_append_right _ ht))))
      show wpAny _ _ _ _ _ _
      k_fold
      repeat (first | (k_unfold; try dsimp only) | ((with_reducible refine ite_pos (by decide) ?_); try dsimp only) | ((with_reducible refine ite_neg (by decide) ?_); try dsimp only) | ((fail_if_success (with_reducible show wpAny _ _ (subscriptTail _ _ _ _) _ _ _)); (fail_if_success (with_reducible show wpAny _ _ (call (Value.ref _) _ _) _ _ _)); (fail_if_success (with_reducible show wpAny _ _ (exec (Stmt.For _ _ _ _ _) _) _ _ _)); (fail_if_success (with_reducible show wpAny _ _ (exec (Stmt.While _ _ _ _) _) _ _ _)); (fail_if_success (with_reducible show wpAny _ _ (pyIter _) _ _ _)); (fail_if_success (with_reducible show wpAny _ _ (eval (PySem.Expr.Lambda _ _ _ _) _) _ _ _)); (fail_if_success (with_reducible show wpAny _ _ (call (Value.type _) _ _) _ _ _)); (fail_if_success (with_reducible show wpAny _ _ (exec (Stmt.Assign _ (PySem.Expr.ListComp _ _ _ _) _) _) _ _ _)); (fail_if_success (with_reducible refine ite_pos ?_ ?_)); walk1; try dsimp only))
      rename Fr _ _ _ _ => F9
      rename News _ _ _ _ => N9
      rename_i pr h9 lt9
      obtain ⟨lt1, lt2, lt3, _⟩ := lt9
      refine ⟨h9, tk6, [(pr, listOf (List.toArray [Value.int ((l : Nat) : Int) t2, Value.int ((r : Nat) : Int) t3]) 0)], rfl, F9, fun p hp => N9 p ?_, fun p hp => ?_, hJ2.snoc (List.Mem.head _) htr (.cons _ _ (.cons _ _ .nil))⟩
      · simp only [List.mem_cons, List.mem_append, List.not_mem_nil, or_false] at hp ⊢
        rcases hp with hp | hp | hp | hp | hp
        · exact .inr (.inl hp)
        · exact .inr (.inr (.inl hp))
        · exact .inr (.inr (.inr (.inl hp)))
        · exact .inl hp
        · exact .inr (.inr (.inr (.inr hp)))
      · rw [List.mem_singleton.mp hp]
        exact ⟨Ne.symm (Nat.ne_of_lt lt1), Ne.symm (Nat.ne_of_lt lt2), Ne.symm (Nat.ne_of_lt lt3)⟩
    · intro ys2 add2 hJ2
      unfold FinE3
      intro pl2 h8 tk8 F8 N8 off8
      dsimp only
      repeat (first | (k_unfold; try dsimp only) | ((with_reducible refine ite_pos (by decide) ?_); try dsimp only) | ((with_reducible refine ite_neg (by decide) ?_); try dsimp only) | ((fail_if_success (with_reducible show wpAny _ _ (compareOp _ (Value.ref _) (Value.ref _)) _ _ _)); (fail_if_success (with_reducible show wpAny _ _ (eval (PySem.Expr.ListComp _ _ _ _) _) _ _ _)); (fail_if_success (with_reducible show wpAny _ _ (subscriptTail _ _ _ _) _ _ _)); (fail_if_success (with_reducible show wpAny _ _ (call (Value.ref _) _ _) _ _ _)); (fail_if_success (with_reducible show wpAny _ _ (exec (Stmt.For _ _ _ _ _) _) _ _ _)); (fail_if_success (with_reducible show wpAny _ _ (exec (Stmt.While _ _ _ _) _) _ _ _)); (fail_if_success (with_reducible show wpAny _ _ (pyIter _) _ _ _)); (fail_if_success (with_reducible show wpAny _ _ (eval (PySem.Expr.Lambda _ _ _ _) _) _ _ _)); (fail_if_success (with_reducible show wpAny _ _ (call (Value.type _) _ _) _ _ _)); (fail_if_success (with_reducible show wpAny _ _ (exec (Stmt.Assign _ (PySem.Expr.ListComp _ _ _ _) _) _) _ _ _)); (fail_if_success (with_reducible refine ite_pos ?_ ?_)); walk1; try dsimp only))
      have hJ21 := hJ2.1
      rw [List.size_toArray, hkl] at hJ21
      obtain ⟨as1, r1⟩ := pairs_reads (h := h8) (ys := ys2) (tr := tr) hJ21 fun j y hy => by
        obtain ⟨a, v2, n2, x, l, r, e, hm, ht, hI2⟩ := hJ2.2 j y hy
        exact ⟨a, v2, n2, x, l, r, e, (N8 _ (List.Mem.tail _ (List.mem_append_left _ hm))).1, ht, hI2⟩
      obtain ⟨as2, r2⟩ := pairs_reads (h := h8) (ys := ys) (tr := tr) hJ1 fun j y hy => by
        obtain ⟨a, v2, n2, x, l, r, e, hm, ht, hI2⟩ := hJ.2 j y hy
        exact ⟨a, v2, n2, x, l, r, e, (N8 _ (List.Mem.tail _ (List.mem_append_right _ (List.Mem.tail _ (List.mem_append_left _ hm))))).1, ht, hI2⟩
      have g1 : Reads h8 (.ref pl2) (.list (tr.map pairD)) (pl2 :: as1) := reads_list_at (N8 _ (List.Mem.head _)).1 rfl rfl r1
      have g2 : Reads h8 (.ref pl) (.list (tr.map pairD)) (pl :: as2) := reads_list_at (N8 _ (List.Mem.tail _ (List.mem_append_right _ (List.Mem.head _)))).1 rfl rfl r2
      refine eq_dataH g1 g2 (pairs_shaped tr) (pairs_shaped tr) (by omega) ?_
      rw [show PyData.eqv (.list (tr.map pairD)) (.list (tr.map pairD)) = true by simp only [PyData.eqv]; exact pairs_eqv tr]
      refine hQ _ _ _ F8 fun p hp => N8 p ?_
      rw [List.mem_singleton.mp hp]
      exact List.Mem.tail _ (List.mem_append_right _ (List.Mem.tail _ (List.mem_append_right _ (List.Mem.tail _ (List.Mem.tail _ (List.Mem.tail _ (List.Mem.head _)))))))

theorem xor_foldl (n : Nat) : ∀ (l : List Nat) (a : Nat), l.foldl (fun p k => p ^^^ (n <<< k)) a = a ^^^ timesL l n := by
  intro l
  induction l with
  | nil => intro a; show a = a ^^^ 0; rw [Nat.xor_zero]
  | cons k l ih =>
    intro a
    show l.foldl _ (a ^^^ (n <<< k)) = a ^^^ l.foldl _ (0 ^^^ (n <<< k))
    rw [ih, ih, Nat.zero_xor, Nat.xor_assoc]
theorem timesL_cons (k n : Nat) (l : List Nat) : timesL (k :: l) n = (n <<< k) ^^^ timesL l n := by
  show l.foldl _ (0 ^^^ (n <<< k)) = _
  rw [xor_foldl, Nat.zero_xor]
theorem xor4 (a b c d : Nat) : (a ^^^ b) ^^^ (c ^^^ d) = (a ^^^ c) ^^^ (b ^^^ d) := by
  rw [Nat.xor_assoc, Nat.xor_assoc, ← Nat.xor_assoc b, Nat.xor_comm b c, Nat.xor_assoc c]
theorem timesL_xor (a b : Nat) : ∀ l, timesL l (a ^^^ b) = timesL l a ^^^ timesL l b := by
  intro l
  induction l with
  | nil => show 0 = 0 ^^^ 0; rw [Nat.xor_self]
  | cons k l ih => rw [timesL_cons, timesL_cons, timesL_cons, ih, Nat.shiftLeft_xor_distrib, xor4]
theorem timesL_shl (n j : Nat) : ∀ l, timesL l (n <<< j) = timesL l n <<< j := by
  intro l
  induction l with
  | nil => show 0 = 0 <<< j; rw [Nat.zero_shiftLeft]
  | cons k l ih => rw [timesL_cons, timesL_cons, ih, Nat.shiftLeft_xor_distrib, ← Nat.shiftLeft_add, ← Nat.shiftLeft_add, Nat.add_comm j k]
theorem times_xor (a b : Nat) : times (a ^^^ b) = times a ^^^ times b := timesL_xor a b _
theorem times_shl (n j : Nat) : times (n <<< j) = times n <<< j := timesL_shl n j _
def lowPowers : List Nat := [0, 1, 2, 4, 5, 7, 8, 10, 11, 12, 16, 22, 23, 26]
theorem times_split (n : Nat) : times n = timesL lowPowers n ^^^ (n <<< 32) := rfl
theorem timesL_lt {n d : Nat} (hn : n < 2 ^ (d + 1)) : ∀ l : List Nat, (∀ k ∈ l, k ≤ 26) → timesL l n < 2 ^ (32 + d) := by
  intro l
  induction l with
  | nil => intro _; exact Nat.two_pow_pos _
  | cons k l ih =>
    intro h
    rw [timesL_cons]
    refine Nat.xor_lt_two_pow ?_ (ih fun k hk => h k (List.mem_cons_of_mem _ hk))
    have hk := h k (List.mem_cons_self ..)
    rw [Nat.shiftLeft_eq]
    calc n * 2 ^ k < 2 ^ (d + 1) * 2 ^ k := Nat.mul_lt_mul_of_pos_right hn (Nat.two_pow_pos _)
      _ = 2 ^ (d + 1 + k) := (Nat.pow_add ..).symm
      _ ≤ 2 ^ (32 + d) := Nat.pow_le_pow_right (by decide) (by omega)
theorem times_small {n : Nat} (h : times n < 2 ^ 32) : n = 0 := by
  by_cases e : n = 0
  · exact e
  · exfalso
    have h1 : n < 2 ^ (n.log2 + 1) := Nat.lt_log2_self
    have h2 : 2 ^ n.log2 ≤ n := Nat.log2_self_le e
    have h3 := timesL_lt h1 lowPowers (by decide)
    have h4 : n <<< 32 = times n ^^^ timesL lowPowers n := by
      rw [times_split, Nat.xor_comm, ← Nat.xor_assoc, Nat.xor_self, Nat.zero_xor]
    have h5 : n <<< 32 < 2 ^ (32 + n.log2) := by
      rw [h4]
      exact Nat.xor_lt_two_pow (Nat.lt_of_lt_of_le h (Nat.pow_le_pow_right (by decide) (by omega))) h3
    rw [Nat.shiftLeft_eq, Nat.pow_add, Nat.mul_comm] at h5
    exact absurd (Nat.lt_of_mul_lt_mul_left h5) (by omega)

/-- r is what n leaves by P -/
def Rep (n r : Nat) : Prop := r < 2 ^ 32 ∧ ∃ q, times q ^^^ r = n
theorem xor_cancel {a b c d : Nat} (h : a ^^^ b = c ^^^ d) : a ^^^ c = b ^^^ d := by
  have : (a ^^^ b) ^^^ (b ^^^ c) = (c ^^^ d) ^^^ (b ^^^ c) := by rw [h]
  rw [xor4, Nat.xor_comm c d] at this
  have e1 : (a ^^^ b) ^^^ (b ^^^ c) = a ^^^ c := by rw [Nat.xor_assoc, ← Nat.xor_assoc b b, Nat.xor_self, Nat.zero_xor]
  have e2 : (d ^^^ c) ^^^ (b ^^^ c) = b ^^^ d := by rw [xor4, Nat.xor_self, Nat.xor_zero, Nat.xor_comm]
  rw [← xor4, e1, e2] at this
  exact this
theorem Rep.uniq {n r r' : Nat} (h : Rep n r) (h' : Rep n r') : r = r' := by
  obtain ⟨a, q, e⟩ := h
  obtain ⟨b, q', e'⟩ := h'
  have h1 : times q ^^^ times q' = r ^^^ r' := xor_cancel (e.trans e'.symm)
  rw [← times_xor] at h1
  have h2 : q ^^^ q' = 0 := times_small (by rw [h1]; exact Nat.xor_lt_two_pow a b)
  rw [h2, times_zero] at h1
  have : r ^^^ (r ^^^ r') = r ^^^ 0 := by rw [← h1]
  rw [← Nat.xor_assoc, Nat.xor_self, Nat.zero_xor, Nat.xor_zero] at this
  exact this.symm
theorem Rep.xor {n r x : Nat} (h : Rep n r) (hx : x < 2 ^ 32) : Rep (n ^^^ x) (r ^^^ x) := by
  obtain ⟨a, q, e⟩ := h
  exact ⟨Nat.xor_lt_two_pow a hx, q, by rw [← Nat.xor_assoc, e]⟩
/-- one turn of the walk -/
theorem div_step {n r q k b : Nat} (hr : r < 2 ^ 32) (hk : k ≤ 4) (hb : b < 2 ^ k) (e : times q ^^^ r = n) :
    times ((q <<< k) ||| (((r <<< k) ^^^ (b <<< 32)) >>> 32)) ^^^ (((r <<< k) ^^^ (b <<< 32)) ^^^ times (((r <<< k) ^^^ (b <<< 32)) >>> 32)) = (n <<< k) ^^^ (b <<< 32) := by
  generalize hx : (r <<< k) ^^^ (b <<< 32) = x
  have hxl : x < 2 ^ (32 + k) := by
    rw [← hx]
    refine Nat.xor_lt_two_pow ?_ ?_
    · rw [Nat.shiftLeft_eq, Nat.pow_add]; exact Nat.mul_lt_mul_of_pos_right hr (Nat.two_pow_pos _)
    · rw [Nat.shiftLeft_eq, Nat.add_comm, Nat.pow_add]; exact Nat.mul_lt_mul_of_pos_right hb (Nat.two_pow_pos _)
  have hu : x >>> 32 < 2 ^ k := by
    rw [Nat.shiftRight_eq_div_pow, Nat.div_lt_iff_lt_mul (by decide), ← Nat.pow_add, Nat.add_comm]; exact hxl
  have ho : (q <<< k) ||| (x >>> 32) = (q <<< k) ^^^ (x >>> 32) := by
    have h0 : (q <<< k) &&& (x >>> 32) = 0 := by
      apply Nat.eq_of_testBit_eq
      intro j
      rw [Nat.testBit_and, Nat.zero_testBit, Nat.testBit_shiftLeft]
      by_cases hj : k ≤ j
      · rw [Nat.testBit_lt_two_pow (Nat.lt_of_lt_of_le hu (Nat.pow_le_pow_right (by decide) hj)), Bool.and_false]
      · simp [hj]
    have := xor_add_and (q <<< k) (x >>> 32)
    omega
  rw [ho, times_xor, times_shl, Nat.xor_comm x, Nat.xor_assoc, ← Nat.xor_assoc (times (x >>> 32)), Nat.xor_self, Nat.zero_xor]
  rw [← hx, ← Nat.xor_assoc, ← Nat.shiftLeft_xor_distrib, e]
theorem Rep.step {n r k b : Nat} (h : Rep n r) (hk : k ≤ 4) (hb : b < 2 ^ k) : Rep ((n <<< k) ^^^ (b <<< 32)) (((r <<< k) ^^^ (b <<< 32)) ^^^ times (((r <<< k) ^^^ (b <<< 32)) >>> 32)) := by
  obtain ⟨a, q, e⟩ := h
  refine ⟨rest_lt ?_, _, div_step a hk hb e⟩
  rw [Nat.shiftRight_eq_div_pow, Nat.div_lt_iff_lt_mul (by decide)]
  refine Nat.lt_of_lt_of_le (Nat.xor_lt_two_pow (n := 32 + k) ?_ ?_) ?_
  · rw [Nat.shiftLeft_eq, Nat.pow_add]; exact Nat.mul_lt_mul_of_pos_right a (Nat.two_pow_pos _)
  · rw [Nat.shiftLeft_eq, Nat.add_comm, Nat.pow_add]; exact Nat.mul_lt_mul_of_pos_right hb (Nat.two_pow_pos _)
  · calc 2 ^ (32 + k) ≤ 2 ^ 36 := Nat.pow_le_pow_right (by decide) (by omega)
      _ = 16 * 2 ^ 32 := by decide
/-- a register's bit -/
theorem turned_shl1 {c : Nat} (hc : c < 2 ^ 32) : turned c 32 <<< 1 = turned (c >>> 1) 32 ^^^ ((c % 2) <<< 32) := by
  apply Nat.eq_of_testBit_eq
  intro j
  rw [Nat.testBit_xor, Nat.testBit_shiftLeft, Nat.testBit_shiftLeft, turned_testBit, turned_testBit, Nat.testBit_shiftRight]
  by_cases h0 : j = 0
  · subst h0
    have : c.testBit (1 + (32 - 1 - 0)) = false := Nat.testBit_lt_two_pow hc
    rw [this]; rfl
  · by_cases h1 : j < 32
    · have e1 : 32 - 1 - (j - 1) = 1 + (32 - 1 - j) := by omega
      have e2 : j - 1 < 32 := by omega
      have e3 : ¬ 32 ≤ j := by omega
      have e4 : 1 ≤ j := by omega
      rw [e1]; simp [h1, e2, e3, e4]
    · by_cases h2 : j = 32
      · subst h2
        simp [Nat.testBit_zero]
      · have e2 : ¬ j - 1 < 32 := by omega
        have : (c % 2).testBit (j - 32) = false := Nat.testBit_lt_two_pow (by
          have h1 : c % 2 < 2 := Nat.mod_lt _ (by decide)
          have h2 : 2 ^ 1 ≤ 2 ^ (j - 32) := Nat.pow_le_pow_right (by decide) (by omega)
          omega)
        rw [this]
        simp [h1, e2]
theorem genStep_lt {c : Nat} (hc : c < 2 ^ 32) : genStep c < 2 ^ 32 := by
  have h1 : c >>> 1 < 2 ^ 32 := by rw [Nat.shiftRight_eq_div_pow]; omega
  unfold genStep
  split
  · exact Nat.xor_lt_two_pow h1 (by decide)
  · exact h1
theorem turned_poly : turned 3988292384 32 ^^^ (1 <<< 32) = times 1 := by decide +kernel
theorem Rep.genStep {n c : Nat} (h : Rep n (turned c 32)) (hc : c < 2 ^ 32) : Rep (n <<< 1) (turned (genStep c) 32) := by
  have s := h.step (k := 1) (b := 0) (by decide) (by decide)
  rw [Nat.zero_shiftLeft, Nat.xor_zero, Nat.xor_zero] at s
  have up : (turned c 32 <<< 1) >>> 32 = c % 2 := by
    rw [turned_shl1 hc, upper_xor, shr_of_lt (turned_lt 32 _), Nat.zero_xor, Nat.shiftLeft_shiftRight]
  rw [up, turned_shl1 hc] at s
  unfold Mine.genStep
  rcases Nat.mod_two_eq_zero_or_one c with e | e
  · rw [e] at s ⊢
    rw [times_zero, Nat.zero_shiftLeft, Nat.xor_zero, Nat.xor_zero] at s
    exact s
  · rw [e] at s ⊢
    rw [if_pos rfl, turned_xor]
    rw [← turned_poly, Nat.xor_comm (turned 3988292384 32), ← Nat.xor_assoc, Nat.xor_assoc (turned (c >>> 1) 32), Nat.xor_self, Nat.xor_zero] at s
    exact s
theorem genN_lt {c : Nat} (hc : c < 2 ^ 32) : ∀ k, genN k c < 2 ^ 32
  | 0 => hc
  | k + 1 => genStep_lt (genN_lt hc k)
theorem genCrc_lt {c : Nat} (hc : c < 2 ^ 32) : genCrc c < 2 ^ 32 := genN_lt hc 8
theorem Rep.genN {n c : Nat} (h : Rep n (turned c 32)) (hc : c < 2 ^ 32) : ∀ k, Rep (n <<< k) (turned (genN k c) 32)
  | 0 => h
  | k + 1 => by
    have := (Rep.genN h hc k).genStep (genN_lt hc k)
    rw [← Nat.shiftLeft_add] at this
    exact this
theorem turned_octet {o : Nat} (ho : o < 256) : turned o 32 = turned o 8 <<< 24 := by
  apply Nat.eq_of_testBit_eq
  intro j
  rw [Nat.testBit_shiftLeft, turned_testBit, turned_testBit]
  by_cases h1 : 24 ≤ j
  · by_cases h2 : j < 32
    · have e1 : j - 24 < 8 := by omega
      have e2 : 8 - 1 - (j - 24) = 32 - 1 - j := by omega
      simp [h1, h2, e1, e2]
    · have e1 : ¬ j - 24 < 8 := by omega
      simp [h2, e1]
  · have : o.testBit (32 - 1 - j) = false := Nat.testBit_lt_two_pow (Nat.lt_of_lt_of_le (show o < 2 ^ 8 from ho) (Nat.pow_le_pow_right (by decide) (by omega)))
    rw [this]; simp [h1]
theorem Rep.octet {n c o : Nat} (h : Rep n (turned c 32)) (hc : c < 2 ^ 32) (ho : o < 256) : Rep (divStep n o) (turned (genCrc (c ^^^ o)) 32) := by
  have h1 := h.xor (turned_lt 32 o)
  rw [← turned_xor] at h1
  have h2 := h1.genN (Nat.xor_lt_two_pow hc (Nat.lt_trans ho (by decide))) 8
  rw [Nat.shiftLeft_xor_distrib, turned_octet ho, ← Nat.shiftLeft_add] at h2
  exact h2
theorem turned_turned {c : Nat} (hc : c < 2 ^ 32) : turned (turned c 32) 32 = c := by
  apply Nat.eq_of_testBit_eq
  intro j
  rw [turned_testBit, turned_testBit]
  by_cases h : j < 32
  · have e1 : 32 - 1 - (32 - 1 - j) = j := by omega
    have e2 : 32 - 1 - j < 32 := by omega
    rw [e1]; simp [h, e2]
  · have : c.testBit j = false := Nat.testBit_lt_two_pow (Nat.lt_of_lt_of_le hc (Nat.pow_le_pow_right (by decide) (by omega)))
    rw [this]; simp [h]
theorem genStep_xor (a b : Nat) : genStep (a ^^^ b) = genStep a ^^^ genStep b := by
  unfold genStep
  rw [Nat.shiftRight_xor_distrib]
  have hx : (a ^^^ b) % 2 = (a % 2 + b % 2) % 2 := by
    have := @Nat.xor_mod_two_eq_one a b
    omega
  rcases Nat.mod_two_eq_zero_or_one a with ea | ea <;> rcases Nat.mod_two_eq_zero_or_one b with eb | eb <;> rw [hx, ea, eb]
  · rfl
  · show (a >>> 1 ^^^ b >>> 1) ^^^ _ = a >>> 1 ^^^ (b >>> 1 ^^^ _); rw [Nat.xor_assoc]
  · show (a >>> 1 ^^^ b >>> 1) ^^^ _ = (a >>> 1 ^^^ _) ^^^ b >>> 1; rw [Nat.xor_assoc, Nat.xor_assoc, Nat.xor_comm (b >>> 1)]
  · show (a >>> 1 ^^^ b >>> 1) = (a >>> 1 ^^^ 3988292384) ^^^ (b >>> 1 ^^^ 3988292384); rw [xor4, Nat.xor_self, Nat.xor_zero]
theorem genN_xor (a b : Nat) : ∀ k, genN k (a ^^^ b) = genN k a ^^^ genN k b
  | 0 => rfl
  | k + 1 => by show genStep (genN k (a ^^^ b)) = genStep _ ^^^ genStep _; rw [genN_xor a b k, genStep_xor]
theorem genCrc_xor (a b : Nat) : genCrc (a ^^^ b) = genCrc a ^^^ genCrc b := genN_xor a b 8
theorem low_table : ∀ u < 16, (u <<< 32) ^^^ turned (genCrc (turned u 8)) 32 = times u := by decide +kernel
/-- a chunk behind a chunk -/
theorem turned_chunk (o t k : Nat) : turned o (t + k) = (turned o t <<< k) ^^^ turned (o >>> t) k := by
  apply Nat.eq_of_testBit_eq
  intro j
  rw [Nat.testBit_xor, Nat.testBit_shiftLeft, turned_testBit, turned_testBit, turned_testBit, Nat.testBit_shiftRight]
  by_cases h : j < k
  · have e1 : ¬ k ≤ j := by omega
    have e2 : j < t + k := by omega
    have e3 : t + k - 1 - j = t + (k - 1 - j) := by omega
    rw [e3]; simp [h, e1, e2]
  · have e1 : k ≤ j := by omega
    have e3 : t + k - 1 - j = t - 1 - (j - k) := by omega
    have e4 : (decide (j < t + k)) = decide (j - k < t) := by
      apply decide_eq_decide.mpr; omega
    rw [e3, e4]; simp [h, e1]

theorem row_eq {common count turn : Nat} {ns : List Nat} (hc : count = 4 ∨ count = 8 ∨ count = 16) (hcom : common < 2 ^ 32) (inv : RowInv common count turn count ns) : ns = rowL common count := by
  have hp : ns.Perm (rowL common count) := by
    refine inv.2.trans ?_
    have := (perm_turn hc turn).map (fun u => times u ^^^ common)
    rw [List.map_map] at this
    exact this
  have up : ∀ u, u < count → (times u ^^^ common) / 4294967296 = u := fun u hu => by
    have : (times u ^^^ common) >>> 32 = u := by rw [upper_xor, times_upper u (by omega), shr_of_lt hcom, Nat.xor_zero]
    rw [Nat.shiftRight_eq_div_pow] at this
    exact this
  have so : (rowL common count).Pairwise (· ≤ ·) := by
    unfold rowL
    rw [List.pairwise_map]
    refine List.Pairwise.imp_of_mem ?_ (List.pairwise_lt_range (n := count))
    intro a b ha hb hab
    have h1 := up a (List.mem_range.mp ha)
    have h2 := up b (List.mem_range.mp hb)
    omega
  exact hp.eq_of_pairwise (fun a b _ _ h1 h2 => Nat.le_antisymm h1 h2) ((sorted_iff ns).mp inv.1) so

theorem regsFrom_zero (r : Nat) (os : List Nat) : (regsFrom r os).getD 0 0 = r := by cases os <;> rfl
theorem regsFrom_next : ∀ (os : List Nat) (r i : Nat), i < os.length → (regsFrom r os).getD (i + 1) 0 = genCrc ((regsFrom r os).getD i 0 ^^^ os.getD i 0)
  | [], _, _, h => absurd h (Nat.not_lt_zero _)
  | o :: os, r, 0, _ => regsFrom_zero _ _
  | o :: os, r, i + 1, h => regsFrom_next os (genCrc (r ^^^ o)) i (Nat.lt_of_succ_lt_succ h)
theorem regs_len (os : List Nat) : (regs os).length = os.length + 1 := regsFrom_length os _
theorem regs_zero (os : List Nat) : (regs os).getD 0 0 = 2 ^ 32 - 1 := regsFrom_zero _ _
theorem regs_next {os : List Nat} {i : Nat} (h : i < os.length) : (regs os).getD (i + 1) 0 = genCrc ((regs os).getD i 0 ^^^ os.getD i 0) := regsFrom_next os _ i h
theorem getD_lt {os : List Nat} (h256 : ∀ o ∈ os, o < 256) (i : Nat) : os.getD i 0 < 256 := by
  rw [List.getD_eq_getElem?_getD]
  cases e : os[i]? with
  | none => decide
  | some o => exact h256 o (List.mem_of_getElem? e)
theorem regs_lt {os : List Nat} (h256 : ∀ o ∈ os, o < 256) : ∀ i, i ≤ os.length → (regs os).getD i 0 < 2 ^ 32
  | 0, _ => by rw [regs_zero]; decide
  | i + 1, hi => by
    rw [regs_next hi]
    exact genCrc_lt (Nat.xor_lt_two_pow (regs_lt h256 i (Nat.le_of_lt hi)) (Nat.lt_trans (getD_lt h256 i) (by decide)))
theorem last_reg {os : List Nat} (h1 : 1 ≤ os.length) : lastOf (regs os) 1 = genCrc (aheadOf os) := by
  unfold aheadOf lastOf
  rw [regs_len, show os.length + 1 - 1 = (os.length - 1) + 1 by omega, show os.length + 1 - 2 = os.length - 1 by omega]
  exact regs_next (by omega)
theorem shl_or {a b k : Nat} (h : b < 2 ^ k) : (a <<< k) ||| b = (a <<< k) ^^^ b := by
  have h0 : (a <<< k) &&& b = 0 := by
    apply Nat.eq_of_testBit_eq
    intro j
    rw [Nat.testBit_and, Nat.zero_testBit, Nat.testBit_shiftLeft]
    by_cases hj : k ≤ j
    · rw [Nat.testBit_lt_two_pow (Nat.lt_of_lt_of_le h (Nat.pow_le_pow_right (by decide) hj)), Bool.and_false]
    · simp [hj]
  have := xor_add_and (a <<< k) b
  omega
theorem low_eq {os : List Nat} (h1 : 1 ≤ os.length) {u : Nat} (hu : u < 16) : (u <<< 32) ||| lowAt os u = times u ^^^ commonOf os := by
  unfold lowAt commonOf
  rw [shl_or (turned_lt 32 _)]
  rw [last_reg h1, genCrc_xor, turned_xor, ← low_table u hu, Nat.xor_comm (turned (genCrc (aheadOf os)) 32), ← Nat.xor_assoc]
theorem lows_at {os : List Nat} {wd u : Nat} (hu : u < 2 ^ wd) : (lowsOf os wd).getD u 0 = lowAt os u := by
  unfold lowsOf
  rw [List.getD_eq_getElem?_getD, List.getElem?_map, List.getElem?_range hu]; rfl
theorem lows_len (os : List Nat) (wd : Nat) : (lowsOf os wd).length = 2 ^ wd := by
  unfold lowsOf; rw [List.length_map, List.length_range]
theorem wd_cnt {wd : Nat} (h2 : 2 ≤ wd) (h4 : wd ≤ 4) : 2 ^ wd = 4 ∨ 2 ^ wd = 8 ∨ 2 ^ wd = 16 := by
  have : wd = 2 ∨ wd = 3 ∨ wd = 4 := by omega
  rcases this with rfl | rfl | rfl <;> decide
theorem rowOk {os ns : List Nat} {wd turn : Nat} (h1 : 1 ≤ os.length) (h2 : 2 ≤ wd) (h4 : wd ≤ 4) (inv : RowInv (commonOf os) (2 ^ wd) turn (2 ^ wd) ns) : RowOk (commonOf os) (2 ^ wd) ns (lowsOf os wd) := by
  have hc := wd_cnt h2 h4
  have hcom : commonOf os < 2 ^ 32 := turned_lt 32 _
  have e := row_eq hc hcom inv
  have at9 : ∀ u, u < 2 ^ wd → ns.getD u 0 = times u ^^^ commonOf os := fun u hu => by
    rw [e]
    unfold rowL
    rw [List.getD_eq_getElem?_getD, List.getElem?_map, List.getElem?_range hu]; rfl
  refine ⟨hc, hcom, inv.length, at9, lows_len os wd, fun u hu => ?_⟩
  rw [lows_at hu, at9 u hu]
  exact ⟨turned_lt 32 _, low_eq h1 (by omega)⟩
theorem RowOk.p2 {common count : Nat} {ns lows : List Nat} (R : RowOk common count ns lows) : ns = (List.range count).map fun u => u <<< 32 ||| lows.getD u 0 := by
  refine List.ext_getElem (by rw [R.len, List.length_map, List.length_range]) fun i h1 h2 => ?_
  rw [List.getElem_map, List.getElem_range, (R.low i (by rw [← R.len]; exact h1)).2, List.getD_eq_getElem?_getD, List.getElem?_eq_getElem h1]; rfl

/-- the state answers for the dividend so far -/
def DivOk (n : Nat) (st : WSt) : Prop := st.1 < 2 ^ 32 ∧ times st.2.1 ^^^ st.1 = n
theorem DivOk.step {lows : List Nat} {octet size at' n : Nat} {st : WSt} (h : DivOk n st) (h4 : size ≤ 4) :
    DivOk ((n <<< min size (8 - at')) ^^^ (turned (octet >>> at') (min size (8 - at')) <<< 32)) (stepW lows octet size at' st) := by
  have hw : min size (8 - at') ≤ 4 := Nat.le_trans (Nat.min_le_left _ _) h4
  refine ⟨rest_lt (sought_upper h.1 hw), ?_⟩
  exact div_step h.1 hw (turned_lt _ _) h.2
theorem DivOk.inner {lows : List Nat} {octet size n : Nat} {st : WSt} (h : DivOk n st) (h1 : 1 ≤ size) (h4 : size ≤ 4) :
    ∀ k, k ≤ turns size → DivOk ((n <<< min (k * size) 8) ^^^ (turned octet (min (k * size) 8) <<< 32)) (innerW lows octet size k st)
  | 0, _ => by
    rw [Nat.zero_mul, Nat.zero_min, turned_zero, Nat.zero_shiftLeft, Nat.xor_zero]
    exact h
  | k + 1, hk => by
    have hl := turns_lt h1 h4 hk
    have ih := (DivOk.inner (lows := lows) (octet := octet) h h1 h4 k (Nat.le_of_lt hk)).step (lows := lows) (octet := octet) (at' := k * size) h4
    rw [Nat.min_eq_left (Nat.le_of_lt hl)] at ih
    have e : min ((k + 1) * size) 8 = k * size + min size (8 - k * size) := by
      rw [Nat.add_mul, Nat.one_mul]; omega
    rw [e, turned_chunk, Nat.shiftLeft_xor_distrib, ← Nat.xor_assoc, Nat.shiftLeft_add]
    rw [Nat.shiftLeft_xor_distrib, ← Nat.shiftLeft_add (turned octet (k * size)) 32, Nat.add_comm 32, Nat.shiftLeft_add (turned octet (k * size))] at ih
    exact ih
theorem turns_end {z : Nat} (h1 : 1 ≤ z) (h4 : z ≤ 4) : min (turns z * z) 8 = 8 := by
  have : z = 1 ∨ z = 2 ∨ z = 3 ∨ z = 4 := by omega
  rcases this with rfl | rfl | rfl | rfl <;> decide
def divTo (os : List Nat) (i : Nat) : Nat := (os.take i).foldl divStep (2 ^ 32 - 1)
theorem divTo_succ {os : List Nat} {i : Nat} (h : i < os.length) : divTo os (i + 1) = divStep (divTo os i) (os.getD i 0) := by
  unfold divTo
  rw [List.take_add_one, List.foldl_append, List.getD_eq_getElem?_getD, List.getElem?_eq_getElem h]; rfl
theorem outW_last (lows os sz : List Nat) (i : Nat) : (outW lows os sz i).1.getD ((outW lows os sz i).1.length - 1) 0 = (outW lows os sz i).1.getD i 0 := by
  rw [outW_len]; rfl
theorem outW_new (lows os sz : List Nat) (i : Nat) : (outW lows os sz (i + 1)).1.getD (i + 1) 0 = (innerW lows (os.getD i 0) (sz.getD i 0) (turns (sz.getD i 0)) ((outW lows os sz i).1.getD i 0, (outW lows os sz i).2.1, (outW lows os sz i).2.2)).1 := by
  have l := outW_len lows os sz i
  show ((outW lows os sz i).1 ++ [_]).getD (i + 1) 0 = _
  rw [outW_last, List.getD_eq_getElem?_getD, List.getElem?_append_right (by omega), l, Nat.sub_self]; rfl
theorem outW_rest (lows os sz : List Nat) (i : Nat) : (outW lows os sz (i + 1)).2 = (innerW lows (os.getD i 0) (sz.getD i 0) (turns (sz.getD i 0)) ((outW lows os sz i).1.getD i 0, (outW lows os sz i).2.1, (outW lows os sz i).2.2)).2 := by
  rw [← outW_last]; rfl
theorem out_div (lows os sz : List Nat) (hs : ∀ i, i < os.length → 1 ≤ sz.getD i 0 ∧ sz.getD i 0 ≤ 4) : ∀ i, i ≤ os.length →
    DivOk (divTo os i) ((outW lows os sz i).1.getD i 0, (outW lows os sz i).2.1, (outW lows os sz i).2.2)
  | 0, _ => by
    refine ⟨?_, ?_⟩
    · show 2 ^ 32 - 1 < 2 ^ 32; decide
    · show times 0 ^^^ (2 ^ 32 - 1) = 2 ^ 32 - 1; rw [times_zero, Nat.zero_xor]
  | i + 1, hi => by
    obtain ⟨s1, s4⟩ := hs i hi
    have h := (out_div lows os sz hs i (Nat.le_of_lt hi)).inner (lows := lows) (octet := os.getD i 0) s1 s4 _ (Nat.le_refl _)
    rw [turns_end s1 s4] at h
    rw [outW_new, outW_rest, divTo_succ hi]
    exact h
theorem regs_rep {os : List Nat} (h256 : ∀ o ∈ os, o < 256) : ∀ i, i ≤ os.length → Rep (divTo os i) (turned ((regs os).getD i 0) 32)
  | 0, _ => by
    rw [regs_zero, show turned (2 ^ 32 - 1) 32 = 2 ^ 32 - 1 by decide +kernel]
    exact ⟨by decide, 0, by rw [times_zero, Nat.zero_xor]; rfl⟩
  | i + 1, hi => by
    rw [regs_next hi, divTo_succ hi]
    exact (regs_rep h256 i (Nat.le_of_lt hi)).octet (regs_lt h256 i (Nat.le_of_lt hi)) (getD_lt h256 i)
theorem outW_keep (lows os sz : List Nat) (i : Nat) : ∀ k, (outW lows os sz (i + k)).1.getD i 0 = (outW lows os sz i).1.getD i 0
  | 0 => rfl
  | k + 1 => by
    have l := outW_len lows os sz (i + k)
    rw [← outW_keep lows os sz i k]
    show ((outW lows os sz (i + k)).1 ++ [_]).getD i 0 = _
    rw [List.getD_eq_getElem?_getD, List.getElem?_append_left (by omega), List.getD_eq_getElem?_getD]
theorem plain1 (lows os sz : List Nat) (hs : ∀ i, i < os.length → 1 ≤ sz.getD i 0 ∧ sz.getD i 0 ≤ 4) : times (outW lows os sz os.length).2.1 ^^^ lastOf (outW lows os sz os.length).1 1 = dividend os := by
  have h := (out_div lows os sz hs os.length (Nat.le_refl _)).2
  unfold lastOf
  rw [outW_last]
  refine h.trans ?_
  unfold divTo dividend
  rw [List.take_length]
theorem plain3 (lows os sz : List Nat) (h256 : ∀ o ∈ os, o < 256) (hs : ∀ i, i < os.length → 1 ≤ sz.getD i 0 ∧ sz.getD i 0 ≤ 4) : (outW lows os sz os.length).1.map (fun r => turned r 32) = regs os := by
  refine List.ext_getElem (by rw [List.length_map, outW_len, regs_len]) fun i h1 h2 => ?_
  rw [regs_len] at h2
  have hi : i ≤ os.length := by omega
  have hl := outW_len lows os sz os.length
  have e1 : (regs os)[i]'(by rw [regs_len]; exact h2) = (regs os).getD i 0 := by
    rw [List.getD_eq_getElem?_getD, List.getElem?_eq_getElem (by rw [regs_len]; exact h2)]; rfl
  have e2 : (outW lows os sz os.length).1[i]'(by omega) = (outW lows os sz os.length).1.getD i 0 := by
    rw [List.getD_eq_getElem?_getD, List.getElem?_eq_getElem (by omega)]; rfl
  rw [List.getElem_map, e1, e2]
  have e3 : (outW lows os sz os.length).1.getD i 0 = (outW lows os sz i).1.getD i 0 := by
    have := outW_keep lows os sz i (os.length - i)
    rwa [show i + (os.length - i) = os.length by omega] at this
  obtain ⟨d1, d2⟩ := out_div lows os sz hs i hi
  have := (show Rep (divTo os i) ((outW lows os sz i).1.getD i 0) from ⟨d1, _, d2⟩).uniq (regs_rep h256 i hi)
  rw [e3, this, turned_turned (regs_lt h256 i hi)]
def TrOk (lows : List Nat) (count : Nat) (tr : List (Nat × Nat × Nat)) : Prop := ∀ x l r, (x, l, r) ∈ tr → l = placeL lows x ∧ r = placeR lows x ∧ x >>> 32 < count
theorem TrOk.inner {lows : List Nat} {octet size wd : Nat} {st : WSt} (h : TrOk lows (2 ^ wd) st.2.2) (ok : StOk st) (h4 : size ≤ 4) (hw : size ≤ wd) : ∀ n, TrOk lows (2 ^ wd) (innerW lows octet size n st).2.2
  | 0 => h
  | n + 1 => by
    have ih := TrOk.inner (octet := octet) h ok h4 hw n
    have okn := ok.inner (lows := lows) (octet := octet) h4 n
    intro x l r hm
    replace hm : (x, l, r) ∈ (innerW lows octet size n st).2.2 ++ [_] := hm
    rcases List.mem_append.mp hm with hm | hm
    · exact ih x l r hm
    · rw [List.mem_singleton] at hm
      cases hm
      exact ⟨rfl, rfl, sought_upper okn.1 (Nat.le_trans (Nat.min_le_left _ _) hw)⟩
theorem plain4 (lows os sz : List Nat) (wd : Nat) (hs : ∀ i, i < os.length → 1 ≤ sz.getD i 0 ∧ sz.getD i 0 ≤ 4) (hw : ∀ i, i < os.length → sz.getD i 0 ≤ wd) : ∀ i, i ≤ os.length → TrOk lows (2 ^ wd) (outW lows os sz i).2.2
  | 0, _ => fun x l r hm => absurd hm (by show ¬ (x, l, r) ∈ []; simp)
  | i + 1, hi => by
    rw [outW_rest]
    exact (plain4 lows os sz wd hs hw i (Nat.le_of_lt hi)).inner (st := ((outW lows os sz i).1.getD i 0, (outW lows os sz i).2.1, (outW lows os sz i).2.2)) (outW_ok lows os sz hs i (Nat.le_of_lt hi)).1 (hs i hi).2 (hw i hi) _
theorem plainQ (lows os sz : List Nat) (h10 : os.length ≤ 10) (hs : ∀ i, i < os.length → 1 ≤ sz.getD i 0 ∧ sz.getD i 0 ≤ 4) : (outW lows os sz os.length).2.1 < 2 ^ 4096 ∧ (outW lows os sz os.length).2.2.length ≤ 80 := by
  obtain ⟨a, b⟩ := outW_ok lows os sz hs os.length (Nat.le_refl _)
  exact ⟨Nat.lt_of_lt_of_le a.2 (Nat.pow_le_pow_right (by decide) (by show 4 * (outW lows os sz os.length).2.2.length ≤ 4096; omega)), by omega⟩
/-- what the script gives -/
theorem nums_len (ws : List Int) : 2 ≤ (numsOf ws).length ∧ (numsOf ws).length ≤ 10 := by
  have : (numsOf ws).length = (ws.take 8).length + 1 + 1 := rfl
  rw [List.length_take] at this
  omega
theorem octs_len (ws : List Int) : (octsOf ws).length = (numsOf ws).length := by unfold octsOf; rw [List.length_map]
theorem octs_lt (ws : List Int) : ∀ o ∈ octsOf ws, o < 256 := by
  intro o ho
  unfold octsOf at ho
  obtain ⟨z, _, rfl⟩ := List.mem_map.mp ho
  have := Int.emod_lt_of_pos z (show (0 : Int) < 256 by decide)
  have := Int.emod_nonneg z (show (256 : Int) ≠ 0 by decide)
  omega
theorem widest_le (ws : List Int) : 2 ≤ widestOf ws ∧ widestOf ws ≤ 4 := by
  unfold widestOf
  rw [List.length_take]
  omega
theorem sizes_len (ws : List Int) : (sizesOf ws).length = (octsOf ws).length := by unfold sizesOf; rw [List.length_map, List.length_range, octs_len]
theorem sizes_ok (ws : List Int) : ∀ z ∈ sizesOf ws, 1 ≤ z ∧ z ≤ 4 ∧ z ≤ widestOf ws := by
  intro z hz
  unfold sizesOf at hz
  obtain ⟨k, _, rfl⟩ := List.mem_map.mp hz
  obtain ⟨w2, w4⟩ := widest_le ws
  have e2 := Int.emod_nonneg ((numsOf ws).getD k 0 / 256 + (k : Int)) (show (2 : Int) ≠ 0 by decide)
  have e3 := Int.emod_lt_of_pos ((numsOf ws).getD k 0 / 256 + (k : Int)) (show (0 : Int) < 2 by decide)
  generalize ((numsOf ws).getD k 0 / 256 + (k : Int)) % 2 = q at *
  omega
theorem sizes_at (ws : List Int) : ∀ i, i < (octsOf ws).length → 1 ≤ (sizesOf ws).getD i 0 ∧ (sizesOf ws).getD i 0 ≤ 4 ∧ (sizesOf ws).getD i 0 ≤ widestOf ws := by
  intro i hi
  rw [← sizes_len] at hi
  rw [List.getD_eq_getElem?_getD, List.getElem?_eq_getElem hi]
  exact sizes_ok ws _ (List.getElem_mem hi)

theorem law_all {w : World} {A A₀ : Around} {base g h : Heap} {outer : List Env} {s : Shared} {tk : Nat} {mean : ExcName → Option Value} {mg mb m : Str → Option Value} {L fa : Addr} {cd : Value} {o' : Obj} {sc : Addr} {vs : List Value} {ws : List Int} {o1 o2 o3 o4 : Obj} {Q : Flow → Shared → Prop} {E : Value → Shared → Prop} {bd : List Stmt} {sp : Scope}
    (Z : LEnv w A A₀ base g outer mean mg mb L fa cd o' sc vs ws) (hb : fnBody o' = bd) (hs : fnScope o' = sp) (F : Fr g L h m) (K1 : Kn m [(Str.ofString "script", .ref sc)])
    (N : News g L h [(L + 1 + 1 + 1 + 1, o4), (L + 1 + 1 + 1, o3), (L + 1 + 1, o2), (L + 1, o1), (85, tabObj #[])]) (d1 : o1.data = .cell none) (d2 : o2.data = .cell none) (d3 : o3.data = .cell none) (d4 : o4.data = .cell none)
    (hQ : ∀ h' tk' m' ps, Fr g L h' m' → News g L h' [(85, tabObj ps)] → Q (.ret (.bool true)) { s with heap := h', toks := tk' }) :
    wpAny (model prog w) A (execs bd (envOfC (Str.ofString "law") sp L fa cd)) Q E { s with heap := h, toks := tk } := by
  subst hb hs
  refine law_1 Z F K1 N d1 d2 d3 d4 ?_
  intro oc ov on sz zv zn nu nv nn tw p1 p2 h1 tk1 m1 F1 J1 N1 e1 e2 hov hzv hnv hne
  obtain ⟨w2, w4⟩ := widest_le ws
  obtain ⟨l2, l10⟩ := nums_len ws
  rw [← octs_len] at l2 l10
  have hsz := sizes_at ws
  have hs4 : ∀ i, i < (octsOf ws).length → 1 ≤ (sizesOf ws).getD i 0 ∧ (sizesOf ws).getD i 0 ≤ 4 := fun i hi => ⟨(hsz i hi).1, (hsz i hi).2.1⟩
  refine law_2 Z F1 J1 N1 e2 d3 d4 hov l2 l10 w4 hne ?_
  intro rw' wv wn ns ll lv ln rg rv rn p4 tc h2 tk2 m2 F2 J2 N2 e4 hwv inv hlv hrv hne2
  have R := rowOk (Nat.le_trans (by decide) l2) w2 w4 inv
  refine law_3 Z F2 J2 N2 e2 e4 hov hzv hwv hlv hrv l10 (sizes_len ws) (fun z hz => ⟨(sizes_ok ws z hz).1, (sizes_ok ws z hz).2.1, Nat.pow_le_pow_right (by decide) (sizes_ok ws z hz).2.2⟩) w4 R hne2 ?_
  intro rs sv sn lk kv kn' tq ps ex h3 tk3 m3 F3 J3 N3 hsv hkv
  obtain ⟨q1, q2⟩ := plainQ (lowsOf (octsOf ws) (widestOf ws)) (octsOf ws) (sizesOf ws) l10 hs4
  have ol := outW_len (lowsOf (octsOf ws) (widestOf ws)) (octsOf ws) (sizesOf ws) (octsOf ws).length
  refine law_4 Z F3 J3 N3 e2 e4 hov hwv hlv hrv hsv l10 w4 q1 (by omega) (by omega) (lows_len _ _) (plain1 _ _ _ hs4) R.p2 (plain3 _ _ _ (octs_lt ws) hs4) ?_
  intro h4 tk4 m4 F4 J4 N4
  have P4 := plain4 (lowsOf (octsOf ws) (widestOf ws)) (octsOf ws) (sizesOf ws) (widestOf ws) hs4 (fun i hi => (hsz i hi).2.2) (octsOf ws).length (Nat.le_refl _)
  have c16 : 2 ^ widestOf ws ≤ 16 := by rcases wd_cnt w2 w4 with e | e | e <;> omega
  exact law_5 Z F4 J4 N4 e4 hlv hkv q2 (by rw [lows_len]; exact c16) (fun x l r hm => by rw [lows_len]; exact P4 x l r hm) fun h' tk' m' F' N' => hQ h' tk' m' ps F' N'

theorem depth_ok (e : Env) : (callerA.deeper e).depth + 9 < recursionLimit := by rw [depth_deeper]; decide
theorem units_ok (e : Env) : (callerA.deeper e).units + 8 * 9 < cLine := by rw [units_deeper]; decide
theorem holds : PySem.Challenge.rw_ph0072_01.Holds := by
  refine Mine.hd ?_
  k_go0
  rename_i w₀ s₀ s₁ mg mb G Y fa o pm cd doc ho hcd hg X V T B TE TW ws hs hlay0 hL1 hr1 hl2 a8 a7 sc vs a4 hL ra w1 r0 hI hr hc1 hc2 hD h₁ tk₁ o4 o3 o2 o1 d4 d3 d2 d1 X0 X' T' K' F' N' l0
  clear hcd
  k_dflt (refine' law_all (A₀ := callerA) (base := ghostOf s₁.heap [(87, 85)]) (outer := []) (sc := sc) (vs := vs) (ws := ws) ⟨?q1, K', X', T', ?q2, ?q3, ?q4, ?q5, lifted, hI, ?q6, l0⟩ ?q7 ?q8 F' ?q9 N' ?z1 ?z2 ?z3 ?z4 ?z5; (case q1 => k_is))
  case z5 =>
    clear G Y T B TE TW X0 F' N' V hD d1 d2 d3 d4
    intro h' tk' m' ps F9 N9
    refine ⟨?_, ⟨⟨ps, (N9 _ (.head _)).1⟩, trivial⟩⟩
    refine goodW_bool F9 hg (raisesW_false ?_) ?_
    · wrow_none_raised
    · exact postW_of (by wrow_shape) (by wtm_val) (by w_fin)
  case q2 => exact Around.frames_deeper K'.stack
  case q3 => exact depth_ok _
  case q4 => exact units_ok _
  case q5 => rfl
  case q6 => omega
  case q7 => exact rfl
  case q8 => exact rfl
  case q9 => exact ⟨rfl, trivial⟩
  case z1 => exact d1.trans rfl
  case z2 => exact d2.trans rfl
  case z3 => exact d3.trans rfl
  case z4 => exact d4.trans rfl

end Mine

theorem PySem.Challenge.cw_ph0072_01_holds : PySem.Challenge.rw_ph0072_01.Holds := by
  exact Mine.holds
