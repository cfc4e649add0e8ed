import PyProof.Rows.All
import Wide.All
import OpenK.AllK
import Wide.FinOn
import PySem.Challenge.RW_pd0187_01
set_option Elab.async false
section
open PySem PySem.W PyProof.Rows
set_option Elab.async false
set_option maxRecDepth 100000
set_option maxHeartbeats 8000000
#guard_msgs (drop error) in
lay_quick_some 60 Mine.nothingOfThisName
open_top Mine.hd for PySem.Challenge.rw_pd0187_01
end
local macro_rules | `(tactic| walk_at "M.lt") => `(tactic| ((rename (∀ p ∈ _, p.1 < _) => l1); k_lt l1))
local macro_rules | `(tactic| walk_at $s:str) => `(tactic| k_extra $s)
local macro_rules | `(tactic| walk_at "M.lt") => `(tactic| ((rename (∀ p : PySem.Addr × PySem.Obj, p ∈ (_ : List (PySem.Addr × PySem.Obj)) → p.1 < _) => l1); k_lt l1))
section
open PySem PySem.W PySem.Spec PySem.Calls PyProof.Rows
set_option Elab.async false
set_option maxRecDepth 100000
set_option maxHeartbeats 8000000
namespace Mine

abbrev Led := List (Addr × Obj)

/-- everything that stood in g stands in h -/
def Up (g h : Heap) : Prop := ∀ b o, g.get? b = some o → h.get? b = some o
theorem Up.refl (g : Heap) : Up g g := fun _ _ e => e
theorem Up.trans {a b c : Heap} (x : Up a b) (y : Up b c) : Up a c := fun _ _ e => y _ _ (x _ _ e)

/-- the ledger nw stands in h and is new since g -/
def NewIn (g h : Heap) (nw : Led) : Prop := ∀ p ∈ nw, h.get? p.1 = some p.2 ∧ g.get? p.1 = none

/-- a call of a def of the text that changes nothing -/
def PC (w : World) (mean : ExcName → Option Value) (mg mb : Str → Option Value) (n : Nat) (f : Addr) (vs : List Value) (Pre : Heap → Prop) (Res : Led → Value → Prop) : Prop :=
  ∀ (dp un : Nat) (gd : Option (List Code)) (cn : Str) (cs : Scope) (a : Addr) (ccd : Value) (cl : List (Str × Addr)) (outer : List Env) (A₀ : Around) (base h₀ : Heap) (L : Addr) (m : Str → Option Value) (s : Shared) (Q E : Value → Shared → Prop),
    Below A₀ base outer h₀ → Fr h₀ L s.heap m → (Mine.hd.heap_39 w.params).In h₀ →
    Top Mine.hd.view_39 (looseW Mine.hd.view_39 [Str.ofString "_NO_SEP", Str.ofString "b2a_hex", Str.ofString "hexlify"]) mean mg mb h₀ →
    cs.kind = .function → dp + n < recursionLimit → un + 20 * n < cLine → Pre s.heap →
    (∀ r h' tk' nw, Up s.heap h' → NewIn s.heap h' nw → Res nw r → Q r { s with heap := h', toks := tk' }) →
    wpAny (model PySem.Challenge.rw_pd0187_01.row.prog w) (ktrTop dp un gd cn cs L a ccd cl outer) (call (.ref f) vs) Q E s

theorem PC.use {w : World} {mean : ExcName → Option Value} {mg mb : Str → Option Value} {n : Nat} {f : Addr} {vs : List Value} {Pre : Heap → Prop} {Res : Led → Value → Prop} (C : PC w mean mg mb n f vs Pre Res)
    {dp un : Nat} {gd : Option (List Code)} {cn : Str} {cs : Scope} {a : Addr} {ccd : Value} {cl : List (Str × Addr)} {outer : List Env} {A₀ : Around} {base h₀ : Heap} {L : Addr} {m : Str → Option Value} {news : Led} {s : Shared} {Q E : Value → Shared → Prop}
    (B : Below A₀ base outer h₀) (F : Fr h₀ L s.heap m) (X : (Mine.hd.heap_39 w.params).In h₀) (N : News h₀ L s.heap news)
    (T : Top Mine.hd.view_39 (looseW Mine.hd.view_39 [Str.ofString "_NO_SEP", Str.ofString "b2a_hex", Str.ofString "hexlify"]) mean mg mb h₀)
    (hk : cs.kind = .function) (hd : dp + n < recursionLimit) (hu : un + 20 * n < cLine) (pre : Pre s.heap)
    (ret : ∀ r h' tk' nw, Up s.heap h' → NewIn s.heap h' nw → Fr h₀ L h' m → News h₀ L h' (nw ++ news) → Res nw r → Q r { s with heap := h', toks := tk' }) :
    wpAny (model PySem.Challenge.rw_pd0187_01.row.prog w) (ktrTop dp un gd cn cs L a ccd cl outer) (call (.ref f) vs) Q E s := by
  refine C dp un gd cn cs a ccd cl outer A₀ base h₀ L m s Q E B F X T hk hd hu pre fun r h' tk' nw U NI R => ?_
  refine ret r h' tk' nw U NI (F.keeps U) (fun p hp => ?_) R
  rcases List.mem_append.mp hp with hp | hp
  · refine ⟨(NI p hp).1, ?_, ?_⟩
    · intro e
      obtain ⟨oL, _, _, hL, _⟩ := F.ns
      have := (NI p hp).2
      rw [e, hL] at this; cases this
    · cases q : h₀.get? p.1 with
      | none => rfl
      | some o => have := (NI p hp).2; rw [F.keep _ _ q] at this; cases this
  · exact ⟨U _ _ (N p hp).1, (N p hp).2⟩

theorem up_of {s : Heap} {g h : Heap} {L : Addr} {m : Str → Option Value} (G : GSub s g (([] : Led).map (·.1))) (F : Fr g L h m) : Up s h := fun b o e => F.keep b o (G b o e (by simp))
theorem newIn_of {s : Heap} {g h : Heap} {L : Addr} {news : Led} (G : GSub s g (([] : Led).map (·.1))) (N : News g L h news) : NewIn s h news := fun p hp => ⟨(N p hp).1, by
  cases q : s.get? p.1 with
  | none => rfl
  | some o => have := (N p hp).2.2; rw [G _ _ q (by simp)] at this; cases this⟩

/-- entering a def of the text -/
theorem PC.of {w : World} {mean : ExcName → Option Value} {mg mb : Str → Option Value} {n : Nat} {f : Addr} {vs : List Value} {Pre : Heap → Prop} {Res : Led → Value → Prop}
    {name qual : Str} {params : Arguments} {body : List Stmt} {scope : Scope} {dV kV doc pm cdv ct oc : Value} {an od : Option Addr} {osl : Array (Option Value)} (binds : List (Str × Value))
    (hPre : ∀ h h', Up h h' → Pre h → Pre h')
    (ho : (Mine.hd.heap_39 w.params).lookup f = some ⟨oc, od, .func (fnOf name qual params body scope dV kV doc pm an cdv ct), osl⟩) (hcd : codeIn (Mine.hd.heap_39 w.params) cdv qual = true)
    (hbind : ∀ s : Shared, (Mine.hd.heap_39 w.params).In s.heap → BindsTo s (fnOf name qual params body scope dV kV doc pm an cdv ct) ⟨vs, []⟩ binds) (hloc : ∀ y ∈ binds, scope.names.lookup y.1 = some .local)
    (hco : scope.isCoroutine = false) (hgen : scope.isGenerator = false) (hk : scope.kind = .function)
    (hcell : ∀ x ∈ scope.names, x.2 ≠ .cell)
    (h : ∀ (dp un : Nat) (gd : Option (List Code)) (env : Env) (outer : List Env) (A₁ : Around) (base g : Heap) (L' : Addr) (s : Shared) (Q : Value → Shared → Prop),
      Below A₁ base (env :: outer) g → Fr g L' s.heap (fun y => binds.reverse.lookup y) → (Mine.hd.heap_39 w.params).In g →
      Top Mine.hd.view_39 (looseW Mine.hd.view_39 [Str.ofString "_NO_SEP", Str.ofString "b2a_hex", Str.ofString "hexlify"]) mean mg mb g →
      News g L' s.heap [] → Pre g → dp + n < recursionLimit → un + 20 * n < cLine →
      (∀ r h' tk' m' nw, Fr g L' h' m' → News g L' h' nw → Res nw r → Q r { s with heap := h', toks := tk' }) →
      wpAny (model PySem.Challenge.rw_pd0187_01.row.prog w) (ktrTop dp un gd qual scope L' f cdv [] (env :: outer)) (execs body (envX qual scope L' f cdv []))
        (fun fl s' => Q (match fl with | .ret v => v | _ => .none) s') (fun _ _ => False) s) :
    PC w mean mg mb (n + 1) f vs Pre Res := by
  intro dp un gd cn cs a ccd cl outer A₀ base h₀ L m s Q E B F X T hk' hd hu pre hret
  have N : News h₀ L s.heap [] := News.nil
  refine wpAny_call ?_
  refine code_defG B F X N T rfl rfl hk' ho hcd (by show dp < recursionLimit; (first | lia | omega)) (hbind s (X.keeps F.keep)) hloc ?_ hco hgen hk hcell
  intro g L' h₁ FG F' N' B' X' T' G
  refine wpAny_mono (h (dp + 1) (un + 3) gd (envX cn cs L a ccd cl) outer _ base g L' { s with heap := h₁, toks := s.toks + binds.length }
    (fun r s' => ∃ m' nw, ∃ h' tk', s' = { s with heap := h', toks := tk' } ∧ Fr g L' h' m' ∧ News g L' h' nw ∧ Res nw r)
    B' F' X' T' N' (hPre _ _ (fun b o e => G b o e (by simp)) pre) (by (first | lia | omega)) (by (first | lia | omega))
    (fun r h' tk' m' nw F'' N'' R => ⟨m', nw, h', tk', rfl, F'', N'', R⟩)) (fun fl s' hq => ?_) fun _ _ e => e.elim
  obtain ⟨m', nw, h', tk', rfl, F'', N'', R⟩ := hq
  refine leaveK_ F'' N'' fun FF NN => ?_
  exact hret _ h' tk' nw (up_of G F'') (newIn_of G N'') R

/-- entering a def of the text some of whose names are cells -/
theorem PC.ofC {w : World} {mean : ExcName → Option Value} {mg mb : Str → Option Value} {n : Nat} {f : Addr} {vs : List Value} {Pre : Heap → Prop} {Res : Led → Value → Prop}
    {name qual : Str} {params : Arguments} {body : List Stmt} {scope : Scope} {dV kV doc pm cdv ct oc : Value} {an od : Option Addr} {osl : Array (Option Value)} (binds : List (Str × Value))
    (hPre : ∀ h h', Up h h' → Pre h → Pre h')
    (ho : (Mine.hd.heap_39 w.params).lookup f = some ⟨oc, od, .func (fnOf name qual params body scope dV kV doc pm an cdv ct), osl⟩) (hcd : codeIn (Mine.hd.heap_39 w.params) cdv qual = true)
    (hbind : ∀ s : Shared, (Mine.hd.heap_39 w.params).In s.heap → BindsTo s (fnOf name qual params body scope dV kV doc pm an cdv ct) ⟨vs, []⟩ binds)
    (hkind : (binds.all fun y => scope.names.lookup y.1 == some .local || scope.names.lookup y.1 == some .cell) = true)
    (hnd : ((cellsFrom 0 scope.names []).map (·.1)).Nodup)
    (hco : scope.isCoroutine = false) (hgen : scope.isGenerator = false) (hk : scope.kind = .function)
    (h : ∀ (dp un : Nat) (gd : Option (List Code)) (env : Env) (outer : List Env) (A₁ : Around) (base g : Heap) (L' : Addr) (s : Shared) (cells : Led) (Q : Value → Shared → Prop),
      Below A₁ base (env :: outer) g → Fr g L' s.heap (bindL (envOfC qual scope L' f cdv).kindOf binds fun _ => none) → (Mine.hd.heap_39 w.params).In g →
      Top Mine.hd.view_39 (looseW Mine.hd.view_39 [Str.ofString "_NO_SEP", Str.ofString "b2a_hex", Str.ofString "hexlify"]) mean mg mb g →
      News g L' s.heap cells → CellsAre (bindC (envOfC qual scope L' f cdv).kindOf binds fun _ => none) (cellsFrom (L' + 1) scope.names []) cells →
      Pre g → dp + n < recursionLimit → un + 20 * n < cLine →
      (∀ r h' tk' m' nw, Fr g L' h' m' → News g L' h' nw → Res nw r → Q r { s with heap := h', toks := tk' }) →
      wpAny (model PySem.Challenge.rw_pd0187_01.row.prog w) (ktrTop dp un gd qual scope L' f cdv (cellsFrom (L' + 1) scope.names []) (env :: outer)) (execs body (envX qual scope L' f cdv (cellsFrom (L' + 1) scope.names [])))
        (fun fl s' => Q (match fl with | .ret v => v | _ => .none) s') (fun _ _ => False) s) :
    PC w mean mg mb (n + 1) f vs Pre Res := by
  intro dp un gd cn cs a ccd cl outer A₀ base h₀ L m s Q E B F X T hk' hd hu pre hret
  have N : News h₀ L s.heap [] := News.nil
  refine wpAny_call ?_
  obtain ⟨FG, BG, st, lv⟩ := groundX (R := (fun r s' => match r with | .ok (.ret v) => Q v s' | .ok _ => False | .error e => E e s')) (A := ktrTop dp un gd cn cs L a ccd cl outer) (env := envX cn cs L a ccd cl) (outer := outer) B F N rfl rfl hk'
  refine codeAny_call_function (by show dp < recursionLimit; (first | lia | omega)) ((X.keeps F.keep) _ _ ho) rfl hco hgen rfl (codeRec_of (X.keeps F.keep) hcd) (hbind s (X.keeps F.keep) _ _ _ _ ?_)
  refine wpAny_newFunctionEnv_cells hk (kindsX hkind _) fun env' he s' x => ?_
  subst he
  refine ⟨(T.nolimit.keeps F.keep).keeps x.toInCall.keep, codeAny_func ?_⟩
  obtain ⟨h₁, tk, rfl, _⟩ := x.done
  have hk₁ := x.toInCall.keep
  obtain ⟨cells, NC, Y⟩ := Cl.news (h₀ := s.heap) (Nat.le_refl _) fun n c hm => ⟨x.cell n c (lookup_of_mem_nodup (cellsFrom_names scope.names 0 (s.heap.objs.size + 1) [] [] rfl ▸ hnd) hm), x.above n c hm⟩
  refine wpAny_mono (h (dp + 1) (un + 3) gd (envX cn cs L a ccd cl) outer _ base s.heap s.heap.objs.size { s with heap := h₁, toks := tk } cells
    (fun r s' => ∃ m' nw, ∃ h' tk', s' = { s with heap := h', toks := tk' } ∧ Fr s.heap s.heap.objs.size h' m' ∧ News s.heap s.heap.objs.size h' nw ∧ Res nw r)
    BG ⟨x.toInCall.ns, hk₁, Nat.le_refl _⟩ (X.keeps F.keep) (T.keeps F.keep) NC Y pre (by (first | lia | omega)) (by (first | lia | omega))
    (fun r h' tk' m' nw F'' N'' R => ⟨m', nw, h', tk', rfl, F'', N'', R⟩)) (fun fl s' hq => ?_) fun _ _ e => e.elim
  obtain ⟨m', nw, h', tk', rfl, F'', N'', R⟩ := hq
  refine lv _ _ (leaveK_ F'' N'' fun FF NN => ?_)
  refine hret _ h' tk' nw F''.keep (fun p hp => ⟨(N'' p hp).1, (N'' p hp).2.2⟩) R

def Stop (p : Prop) : Prop := p
theorem Stop.mk {p : Prop} (h : Stop p) : p := h

/-- a loop's state told by a datum of one's own -/
def JS {σ : Type} (St : Nat → σ → Prop) (mm : σ → Str → Option Value) (ld : σ → Led) (x : Str) (i : Nat) (m : Str → Option Value) (nx : Led) : Prop :=
  ∃ c, St i c ∧ (∀ z, z ≠ x → m z = mm c z) ∧ nx = ld c

theorem JS.fr {g h : Heap} {L : Addr} {m₁ mc : Str → Option Value} {x : Str} {v : Value} (hm : ∀ z, z ≠ x → m₁ z = mc z) (F : Fr g L h (fun y => if y = x then some v else m₁ y)) :
    Fr g L h (fun y => if y = x then some v else mc y) := by
  have e : (fun y => if y = x then some v else m₁ y) = fun y => if y = x then some v else mc y := by
    funext y
    by_cases h : y = x
    · simp [h]
    · simp only [if_neg h]; exact hm y h
  rw [← e]; exact F
theorem JS.frOut {g h : Heap} {L : Addr} {m₁ mc : Str → Option Value} {x : Str} (hm : ∀ z, z ≠ x → m₁ z = mc z) (F : Fr g L h m₁) :
    Fr g L h (fun y => if y = x then m₁ x else mc y) := by
  have e : m₁ = fun y => if y = x then m₁ x else mc y := by
    funext y
    by_cases h : y = x
    · simp [h]
    · simp only [if_neg h]; exact hm y h
  rw [← e]; exact F

section
variable {prog : Program} {w : World} {A : Around} {E : Value → Shared → Prop} {s : Shared} {env : Env} {h₀ : Heap} {x : Str} {body : List Stmt} {Q : Flow → Shared → Prop}

theorem loop_range {σ : Type} {r : Addr} {b : Int} {t₀ u₀ v₀ : Tok} {n : Nat} {m₀ : Str → Option Value} {news : Led} (St : Nat → σ → Prop) (mm : σ → Str → Option Value) (ld : σ → Led) (c₀ : σ)
    (hh : A.handled = none) (hr : IsRange s.heap r 0 b 1 t₀ u₀ v₀) (hb : b = (n : Int)) (hn : n < 2 ^ 40) (F : Fr h₀ env.locals s.heap m₀) (N : News h₀ env.locals s.heap news)
    (hc₀ : St 0 c₀) (hm₀ : ∀ z, z ≠ x → m₀ z = mm c₀ z) (hl₀ : ∀ p ∈ ld c₀, p ∈ news)
    (turn : ∀ i c t h tk own, i < n → St i c → OwnOff own ((ld c).map (·.1)) → Fr h₀ env.locals h (fun y => if y = x then some (.int (i : Int) t) else mm c y) → News h₀ env.locals h (ld c ++ own) →
      wpAny (model prog w) A (execs body env) (InvPostG h₀ env.locals (JS St mm ld x (i + 1)) own { s with heap := h, toks := tk } Q) E { s with heap := h, toks := tk })
    (done : ∀ c u h tk, St n c → Fr h₀ env.locals h (fun y => if y = x then u else mm c y) → News h₀ env.locals h (ld c) → Q .next { s with heap := h, toks := tk }) :
    wpAny (model prog w) A (pyIter (.ref r)) (fun it s₂ => LoopAtV prog w A h₀ env x body Q E it s₂) E s := by
  subst hb
  have hsz : Builtin.Range.rangeSize 0 (n : Int) 1 = (n : Int) := rangeSize_nat 0 n |> fun e => by simpa using e
  refine wpAny_pyIter_range hr (small_one (by (first | lia | omega)) (by (first | lia | omega)) (by (first | lia | omega)) (by (first | lia | omega))) ?_
  have W : Walks prog w A s.heap.objs.size [s.heap.objs.size] [s.heap.objs.size] n (fun i v => i < n ∧ ∃ t, v = .int (0 + i * 1) t)
      (fun i h => IsRangeIter h s.heap.objs.size (0 + (i : Nat) * 1) ((n : Int) - (i : Nat)) 1) := (Walks.range hh _ 0 1 n).bound
  refine kdr_loop (news := ld c₀) (JS St mm ld x) W (fun _ h => h) (fun _ h => h) ?_ ?_ ?_ ?_ (by show IsRangeIter _ _ _ _ _; rw [hsz]; simpa using Heap.get?_push_size _ rfl) (F.push _) (fun p hp => ⟨Heap.get?_push_of_some _ (N p (hl₀ p hp)).1, (N p (hl₀ p hp)).2⟩) ⟨c₀, hc₀, hm₀, rfl⟩ ?_ ?_
  · intro i h hi b hb
    rw [List.mem_singleton.mp hb]
    exact ⟨_, hi⟩
  · intro hm
    exact absurd F.ns.lt ((List.mem_singleton.mp hm) ▸ Nat.lt_irrefl _)
  · intro b hb
    rw [List.mem_singleton.mp hb]
    exact next_is_new F
  · intro p hp hI
    exact absurd (Heap.lt_size (N p (hl₀ p hp)).1) ((List.mem_singleton.mp hI) ▸ Nat.lt_irrefl _)
  · rintro i v m₁ nx h tk own hi ⟨_, t, rfl⟩ hoff ⟨c, hc, hm, rfl⟩ F₁ N₁
    have e1 : (0 : Int) + (i : Int) * 1 = (i : Int) := by (first | lia | omega)
    rw [e1] at F₁
    exact turn i c t h tk own hi hc hoff (JS.fr hm F₁) N₁
  · rintro m₁ nx h tk ⟨c, hc, hm, rfl⟩ F₁ N₁
    exact done c _ h tk hc (JS.frOut hm F₁) N₁

/-- over a list of ints that stood ahead of the call -/
theorem loop_base {σ : Type} {l : Addr} {vs : List Value} {ns : List Int} {m₀ : Str → Option Value} {news : Led} (St : Nat → σ → Prop) (mm : σ → Str → Option Value) (ld : σ → Led) (c₀ : σ)
    (hh : A.handled = none) (hl : h₀.IsList l vs.toArray) (hi : IntsAre vs ns) (F : Fr h₀ env.locals s.heap m₀) (N : News h₀ env.locals s.heap news)
    (hc₀ : St 0 c₀) (hm₀ : ∀ z, z ≠ x → m₀ z = mm c₀ z) (hl₀ : ∀ p ∈ ld c₀, p ∈ news)
    (turn : ∀ i c n t h tk own, ns[i]? = some n → St i c → OwnOff own ((ld c).map (·.1)) → Fr h₀ env.locals h (fun y => if y = x then some (.int n t) else mm c y) → News h₀ env.locals h (ld c ++ own) →
      wpAny (model prog w) A (execs body env) (InvPostG h₀ env.locals (JS St mm ld x (i + 1)) own { s with heap := h, toks := tk } Q) E { s with heap := h, toks := tk })
    (done : ∀ c u h tk, St ns.length c → Fr h₀ env.locals h (fun y => if y = x then u else mm c y) → News h₀ env.locals h (ld c) → Q .next { s with heap := h, toks := tk }) :
    wpAny (model prog w) A (pyIter (.ref l)) (fun it s₂ => LoopAtV prog w A h₀ env x body Q E it s₂) E s := by
  refine iter_invG (news := ld c₀) (JS St mm ld x) hh hl hi F (fun p hp => N p (hl₀ p hp)) ⟨c₀, hc₀, hm₀, rfl⟩ ?_ ?_
  · rintro i n t m₁ nx h tk own hn _ hoff ⟨c, hc, hm, rfl⟩ F₁ N₁
    exact turn i c n t h tk own hn hc hoff (JS.fr hm F₁) N₁
  · rintro m₁ nx h tk ⟨c, hc, hm, rfl⟩ F₁ N₁
    exact done c _ h tk hc (JS.frOut hm F₁) N₁

/-- over a list of the ledger -/
theorem loop_led {σ : Type} {l : Addr} {vs : List Value} {nn : Nat} {m₀ : Str → Option Value} {news : Led} (St : Nat → σ → Prop) (mm : σ → Str → Option Value) (ld : σ → Led) (c₀ : σ)
    (hh : A.handled = none) (hin : ∀ i c, St i c → (l, listOf vs.toArray nn) ∈ ld c) (F : Fr h₀ env.locals s.heap m₀) (N : News h₀ env.locals s.heap news)
    (hc₀ : St 0 c₀) (hm₀ : ∀ z, z ≠ x → m₀ z = mm c₀ z) (hl₀ : ∀ p ∈ ld c₀, p ∈ news)
    (turn : ∀ i c v h tk own, vs[i]? = some v → St i c → OwnOff own ((ld c).map (·.1)) → Fr h₀ env.locals h (fun y => if y = x then some v else mm c y) → News h₀ env.locals h (ld c ++ own) →
      wpAny (model prog w) A (execs body env) (InvPostG h₀ env.locals (JS St mm ld x (i + 1)) own { s with heap := h, toks := tk } Q) E { s with heap := h, toks := tk })
    (done : ∀ c u h tk, St vs.length c → Fr h₀ env.locals h (fun y => if y = x then u else mm c y) → News h₀ env.locals h (ld c) → Q .next { s with heap := h, toks := tk }) :
    wpAny (model prog w) A (pyIter (.ref l)) (fun it s₂ => LoopAtV prog w A h₀ env x body Q E it s₂) E s := by
  refine kdl_iter (news := ld c₀) (JS St mm ld x) hh (hin 0 c₀ hc₀) F (fun p hp => N p (hl₀ p hp)) ⟨c₀, hc₀, hm₀, rfl⟩ ?_ ?_
  · rintro i v m₁ nx h tk own hv hoff _ ⟨c, hc, hm, rfl⟩ F₁ N₁
    refine wpAny_mono (turn i c v h tk own hv hc hoff (JS.fr hm F₁) N₁) (fun f s₂ p => ?_) fun _ _ e => e
    have up : InvEndG h₀ env.locals (JS St mm ld x (i + 1)) own { s with heap := h, toks := tk } s₂ →
        InvEndG h₀ env.locals (fun m' nx => (l, listOf vs.toArray nn) ∈ nx ∧ JS St mm ld x (i + 1) m' nx) own { s with heap := h, toks := tk } s₂ := by
      rintro ⟨h', tk', m', news', nx', e', F', N', hn', ho', ha, hS⟩
      refine ⟨h', tk', m', news', nx', e', F', N', hn', ho', ha, ?_, hS⟩
      obtain ⟨c', hc', _, rfl⟩ := hS
      exact hin _ _ hc'
    cases f with
    | ret v => exact p
    | brk => exact p
    | next => exact up p
    | cont => exact up p
  · rintro m₁ nx h tk ⟨c, hc, hm, rfl⟩ F₁ N₁
    exact done c _ h tk hc (JS.frOut hm F₁) N₁
end

theorem JS.mk_ {σ : Type} {St : Nat → σ → Prop} {mm : σ → Str → Option Value} {ld : σ → Led} {x : Str} {i : Nat} {h₀ : Heap} {L : Addr} {own news' : Led} {s₁ : Shared} {h' : Heap} {tk : Nat} {m' : Str → Option Value} (c : σ)
    (F : Fr h₀ L h' m') (N : News h₀ L h' news') (hc : St i c) (hm : ∀ z, z ≠ x → m' z = mm c z) (hl : ∀ p ∈ ld c, p ∈ news') (ho : ∀ p ∈ own, p ∈ news') (hoff : OwnOff own ((ld c).map (·.1))) :
    InvEndG h₀ L (JS St mm ld x i) own s₁ { s₁ with heap := h', toks := tk } := ⟨h', tk, m', news', ld c, rfl, F, N, hl, ho, hoff, c, hc, hm, rfl⟩

theorem JS.mkR {σ : Type} {St : Nat → σ → Prop} {mm : σ → Str → Option Value} {ld : σ → Led} {x : Str} {i : Nat} {h₀ : Heap} {L : Addr} {own news' : Led} {s₁ : Shared} {h' : Heap} {tk : Nat} {m' : Str → Option Value} (c : (Str → Option Value) → σ)
    (F : Fr h₀ L h' m') (N : News h₀ L h' news') (hc : St i (c m')) (hm : ∀ z, z ≠ x → m' z = mm (c m') z) (hl : ∀ p ∈ ld (c m'), p ∈ news') (ho : ∀ p ∈ own, p ∈ news') (hoff : OwnOff own ((ld (c m')).map (·.1))) :
    InvEndG h₀ L (JS St mm ld x i) own s₁ { s₁ with heap := h', toks := tk } := ⟨h', tk, m', news', ld (c m'), rfl, F, N, hl, ho, hoff, c m', hc, hm, rfl⟩
theorem offOne {own : Led} {a : Addr} (h : AllLt a own) : OwnOff own [a] := fun p hp b hb => by
  rw [List.mem_singleton.mp hb]; exact Nat.ne_of_lt (ktn_ltOf h p hp)

end Mine
end
section
open PySem PySem.W PySem.Spec PySem.Calls PyProof.Rows
set_option Elab.async false
set_option maxRecDepth 100000
set_option maxHeartbeats 8000000
namespace Mine
theorem pow64_ne (n : Nat) : (64 : Int) ^ n ≠ 0 := Int.pow_ne_zero (by decide)
theorem pow64_log (n : Nat) (h : n < 1000) : ((64 : Int) ^ n).natAbs.log2 < 9000 := by
  have e : ((64 : Int) ^ n).natAbs = 2 ^ (6 * n) := by rw [Int.natAbs_pow, Nat.pow_mul]; rfl
  rw [e, Nat.log2_two_pow]; (first | lia | omega)
theorem intsAre_of : ∀ {ys : List Value} {ns : List Int}, ys.length = ns.length → (∀ i y, ys[i]? = some y → ∃ t, y = Value.int (ns.getD i 0) t) → IntsAre ys ns
  | [], [], _, _ => .nil
  | y :: ys, n :: ns, hl, h => by
    obtain ⟨t, rfl⟩ := h 0 y rfl
    exact .cons _ _ (intsAre_of (by simpa using hl) fun i y' hy => by simpa using h (i + 1) y' (by simpa using hy))
  | [], _ :: _, hl, _ => by simp at hl
  | _ :: _, [], hl, _ => by simp at hl

/-- n figures of v to the base 64, each with the mark that another follows -/
def octs (v : Int) (n : Nat) : List Int := (List.range n).map fun i => 64 + v / 64 ^ (n - 1 - i) % 64
theorem octs_length (v : Int) (n : Nat) : (octs v n).length = n := by simp [octs]
theorem octs_getD (v : Int) (n i : Nat) (h : i < n) : (octs v n).getD i 0 = 64 + v / 64 ^ (n - 1 - i) % 64 := by
  simp [octs, List.getD, h]

/-- a list of ints that the call made -/
def IntsOut (ns : List Int) (nw : Led) (r : Value) : Prop := ∃ l ws nn, r = .ref l ∧ (l, listOf ws.toArray nn) ∈ nw ∧ IntsAre ws ns

theorem strsAre_of : ∀ {ys : List Value} {ns : List Str}, ys.length = ns.length → (∀ i y, ys[i]? = some y → ∃ t, y = Value.str (ns.getD i default) t) → StrsAre ys ns
  | [], [], _, _ => .nil
  | y :: ys, n :: ns, hl, h => by
    obtain ⟨t, rfl⟩ := h 0 y rfl
    exact .cons _ _ (strsAre_of (by simpa using hl) fun i y' hy => by simpa using h (i + 1) y' (by simpa using hy))
  | [], _ :: _, hl, _ => by simp at hl
  | _ :: _, [], hl, _ => by simp at hl

theorem sum_const (xs : List Str) (h : ∀ x ∈ xs, x.length = 2) : (xs.map (·.length)).sum = 2 * xs.length := by
  induction xs with
  | nil => rfl
  | cons x r ih =>
    simp only [List.map_cons, List.sum_cons, List.length_cons]
    rw [ih fun y hy => h y (.tail _ hy), h x (.head _)]; (first | lia | omega)

/-- a text alone comes back -/
def StrOut (x : Str) (nw : Led) (r : Value) : Prop := nw = [] ∧ ∃ t, r = .str x t

/-- a tuple of two texts -/
def PairOut (x y : Str) (nw : Led) (r : Value) : Prop := ∃ l t u, r = .ref l ∧ nw = [(l, { cls := .type "tuple", data := .seq #[.str x t, .str y u] })]

def SplitAt (w : World) (mean : ExcName → Option Value) (mg mb : Str → Option Value) (x y z : Str) : Prop := ∀ t, PC w mean mg mb 4 152 [.str x t] (fun _ => True) (PairOut y z)
theorem SplitAt.pc {w : World} {mean : ExcName → Option Value} {mg mb : Str → Option Value} {x y z : Str} (h : SplitAt w mean mg mb x y z) (t : Tok) : PC w mean mg mb 4 152 [.str x t] (fun _ => True) (PairOut y z) := h t
section
variable {w : World} {mean : ExcName → Option Value} {mg mb : Str → Option Value} {n : Nat} {f : Addr} {vs : List Value} {Pre : Heap → Prop}
  {dp un : Nat} {gd : Option (List Code)} {cn : Str} {cs : Scope} {a : Addr} {ccd : Value} {cl : List (Str × Addr)} {outer : List Env} {A₀ : Around} {base h₀ : Heap} {L : Addr} {m : Str → Option Value} {news : Led} {s : Shared} {Q E : Value → Shared → Prop}
/-- a call that gives a text back -/
theorem PC.useStr {x : Str} (C : PC w mean mg mb n f vs Pre (StrOut x))
    (B : Below A₀ base outer h₀) (F : Fr h₀ L s.heap m) (X : (Mine.hd.heap_39 w.params).In h₀) (N : News h₀ L s.heap news)
    (T : Top Mine.hd.view_39 (looseW Mine.hd.view_39 [Str.ofString "_NO_SEP", Str.ofString "b2a_hex", Str.ofString "hexlify"]) mean mg mb h₀)
    (hk : cs.kind = .function) (hd : dp + n < recursionLimit) (hu : un + 20 * n < cLine) (pre : Pre s.heap)
    (ret : ∀ h' tk', Up s.heap h' → NewIn s.heap h' [] → Fr h₀ L h' m → News h₀ L h' news → ∀ t, Q (.str x t) { s with heap := h', toks := tk' }) :
    wpAny (model PySem.Challenge.rw_pd0187_01.row.prog w) (ktrTop dp un gd cn cs L a ccd cl outer) (call (.ref f) vs) Q E s :=
  PC.use C B F X N T hk hd hu pre fun r h' tk' nw U NI F' N' R => by
    obtain ⟨rfl, t, rfl⟩ := R
    exact ret h' tk' U NI F' N' t
/-- a call that gives a tuple of two texts back -/
theorem PC.usePair {x y : Str} (C : PC w mean mg mb n f vs Pre (PairOut x y))
    (B : Below A₀ base outer h₀) (F : Fr h₀ L s.heap m) (X : (Mine.hd.heap_39 w.params).In h₀) (N : News h₀ L s.heap news)
    (T : Top Mine.hd.view_39 (looseW Mine.hd.view_39 [Str.ofString "_NO_SEP", Str.ofString "b2a_hex", Str.ofString "hexlify"]) mean mg mb h₀)
    (hk : cs.kind = .function) (hd : dp + n < recursionLimit) (hu : un + 20 * n < cLine) (pre : Pre s.heap)
    (ret : ∀ h' tk' l t u, Up s.heap h' → NewIn s.heap h' [(l, { cls := .type "tuple", data := .seq #[.str x t, .str y u] })] → Fr h₀ L h' m → News h₀ L h' ((l, { cls := .type "tuple", data := .seq #[.str x t, .str y u] }) :: news) → Q (.ref l) { s with heap := h', toks := tk' }) :
    wpAny (model PySem.Challenge.rw_pd0187_01.row.prog w) (ktrTop dp un gd cn cs L a ccd cl outer) (call (.ref f) vs) Q E s :=
  PC.use C B F X N T hk hd hu pre fun r h' tk' nw U NI F' N' R => by
    obtain ⟨l, t, u, rfl, rfl⟩ := R
    exact ret h' tk' l t u U NI F' N'
/-- a call that gives a made list back -/
theorem PC.useList {P : List Value → Prop} (C : PC w mean mg mb n f vs Pre (fun nw r => ∃ l ws nn, r = .ref l ∧ (l, listOf (List.toArray ws) nn) ∈ nw ∧ P ws))
    (B : Below A₀ base outer h₀) (F : Fr h₀ L s.heap m) (X : (Mine.hd.heap_39 w.params).In h₀) (N : News h₀ L s.heap news)
    (T : Top Mine.hd.view_39 (looseW Mine.hd.view_39 [Str.ofString "_NO_SEP", Str.ofString "b2a_hex", Str.ofString "hexlify"]) mean mg mb h₀)
    (hk : cs.kind = .function) (hd : dp + n < recursionLimit) (hu : un + 20 * n < cLine) (pre : Pre s.heap)
    (ret : ∀ l ws nn h' tk', Up s.heap h' → s.heap.get? l = none → Fr h₀ L h' m → News h₀ L h' ((l, listOf (List.toArray ws) nn) :: news) → (∀ p ∈ news, p.1 ≠ l) → P ws → Q (.ref l) { s with heap := h', toks := tk' }) :
    wpAny (model PySem.Challenge.rw_pd0187_01.row.prog w) (ktrTop dp un gd cn cs L a ccd cl outer) (call (.ref f) vs) Q E s :=
  PC.use C B F X N T hk hd hu pre fun r h' tk' nw U NI F' N' R => by
    obtain ⟨l, ws, nn, rfl, hm, hI⟩ := R
    refine ret l ws nn h' tk' U (NI _ hm).2 F' (fun p hp => ?_) (fun p hp e => ?_) hI
    · rcases List.mem_cons.mp hp with rfl | hp
      · exact N' _ (List.mem_append_left _ hm)
      · exact N' _ (List.mem_append_right _ hp)
    · have := (N p hp).1
      rw [e, (NI _ hm).2] at this; cases this
end
/-- a lower bound of the room -/
theorem room {a n m R : Nat} (h : a + n < R) (e : Nat.ble m n = true := by rfl) : a + m < R := Nat.lt_of_le_of_lt (Nat.add_le_add_left (Nat.le_of_ble_eq_true e) a) h
end Mine
end
section
open PySem PySem.W PySem.Spec PySem.Calls PyProof.Rows
set_option Elab.async false
set_option maxRecDepth 100000
set_option maxHeartbeats 8000000
namespace Mine

/-- a text by its signs' numbers -/
def S (l : List Nat) : Str := ⟨l.toArray⟩
theorem S_len (l : List Nat) : (S l).length = l.length := by simp [S, Str.length]
theorem S_toList (l : List Nat) : (S l).cps.toList = l := by simp [S]
theorem S_of (x : Str) : x = S x.cps.toList := by simp [S]
theorem S_app (a b : List Nat) : S a ++ S b = S (a ++ b) := by
  apply Str.ext'; simp [S, Str.cps_append]
theorem S_inj {a b : List Nat} (h : S a = S b) : a = b := by
  have := congrArg (fun x : Str => x.cps.toList) h
  simpa [S] using this
theorem S_beq (a b : List Nat) : (S a == S b) = decide (a = b) := by
  by_cases h : a = b
  · subst h; simp
  · rw [decide_eq_false h]
    exact beq_eq_false_iff_ne.mpr fun q => h (S_inj q)
theorem slash : Str.ofString "/" = S [47] := by decide +kernel
theorem nothing : Str.ofString "" = S [] := by decide +kernel
theorem dot : Str.ofString "." = S [46] := by decide +kernel
theorem dotdot : Str.ofString ".." = S [46, 46] := by decide +kernel

def joinL : List (List Nat) → List Nat
  | [] => []
  | [x] => x
  | x :: y :: r => x ++ 47 :: joinL (y :: r)

theorem join_S : ∀ xs : List (List Nat), Str.join (S [47]) (xs.map S) = S (joinL xs)
  | [] => rfl
  | [_] => rfl
  | x :: y :: r => by
    show S x ++ S [47] ++ Str.join (S [47]) ((y :: r).map S) = _
    rw [join_S (y :: r), S_app, S_app]
    simp [joinL]
theorem txt_join (xs : List (List Nat)) : Txt.join (S [47]) (xs.map S) = S (joinL xs) := by
  show Builtin.Str.glued _ _ = _
  rw [StrLaws.glued_eq_join, join_S]

def tailJ : List (List Nat) → List Nat
  | [] => []
  | r => 47 :: joinL r
theorem joinL_cons (x : List Nat) (r : List (List Nat)) : joinL (x :: r) = x ++ tailJ r := by
  cases r <;> simp [joinL, tailJ]
theorem joinL_snoc : ∀ (xs : List (List Nat)) (x : List Nat), xs ≠ [] → joinL (xs ++ [x]) = joinL xs ++ 47 :: x
  | [], _, h => absurd rfl h
  | [_], _, _ => by simp [joinL]
  | a :: b :: r, x, _ => by
    have := joinL_snoc (b :: r) x (by simp)
    simp only [List.cons_append, joinL] at this ⊢
    rw [this]; simp

theorem free_head {x t : List Nat} (hx : 47 ∉ x) (ht : t = [] ∨ ∃ u, t = 47 :: u) : (x ++ t).takeWhile (fun c => c != 47) = x := by
  induction x with
  | nil =>
    rcases ht with rfl | ⟨u, rfl⟩
    · rfl
    · simp
  | cons c r ih =>
    have hc : (c != 47) = true := bne_iff_ne.mpr fun q => hx (q ▸ .head _)
    simp only [List.cons_append, List.takeWhile_cons, hc, if_true]
    rw [ih fun h => hx (.tail _ h)]
theorem tailJ_form (r : List (List Nat)) : tailJ r = [] ∨ ∃ u, tailJ r = 47 :: u := by
  cases r
  · exact .inl rfl
  · exact .inr ⟨_, rfl⟩

theorem joinL_inj : ∀ {xs ys : List (List Nat)}, xs ≠ [] → ys ≠ [] → (∀ x ∈ xs, 47 ∉ x) → (∀ y ∈ ys, 47 ∉ y) → joinL xs = joinL ys → xs = ys
  | [], _, h, _, _, _, _ => absurd rfl h
  | _, [], _, h, _, _, _ => absurd rfl h
  | x :: xs, y :: ys, _, _, hx, hy, e => by
    rw [joinL_cons, joinL_cons] at e
    have h1 := free_head (hx x (.head _)) (tailJ_form xs)
    have h2 := free_head (hy y (.head _)) (tailJ_form ys)
    have e1 : x = y := by rw [← h1, ← h2, e]
    subst e1
    have e2 : tailJ xs = tailJ ys := List.append_cancel_left e
    cases xs with
    | nil =>
      cases ys with
      | nil => rfl
      | cons y' ys => simp [tailJ] at e2
    | cons x' xs =>
      cases ys with
      | nil => simp [tailJ] at e2
      | cons y' ys =>
        have e3 : joinL (x' :: xs) = joinL (y' :: ys) := by simpa [tailJ] using e2
        rw [joinL_inj (by simp) (by simp) (fun x h => hx x (.tail _ h)) (fun y h => hy y (.tail _ h)) e3]

theorem split_ne (x y : Str) : Txt.split x y ≠ [] := by
  unfold Txt.split
  split
  · simp
  · split
    · simp
    · rw [StrLaws.partsBetween_eq]
      obtain ⟨p, r, e⟩ := StrLaws.partsFrom_ne x y.length 0 (Builtin.Str.occurrences x y 0 x.length (x.length + 1))
      rw [e]; simp

theorem split_S (xs : List (List Nat)) (hne : xs ≠ []) (hf : ∀ x ∈ xs, 47 ∉ x) : Txt.split (S (joinL xs)) (S [47]) = xs.map S := by
  have h1 := StrLaws.join_split (S (joinL xs)) (S [47])
  have h2 : ∀ p ∈ Txt.split (S (joinL xs)) (S [47]), 47 ∉ p.cps.toList := StrLaws.split_free (S (joinL xs)) 47
  have h3 := split_ne (S (joinL xs)) (S [47])
  generalize Txt.split (S (joinL xs)) (S [47]) = ps at h1 h2 h3
  have e : ps = (ps.map fun p => p.cps.toList).map S := by
    rw [List.map_map]
    conv => lhs; rw [← List.map_id ps]
    exact List.map_congr_left fun p _ => S_of p
  rw [e] at h1 ⊢
  rw [join_S] at h1
  rw [joinL_inj (by simpa using h3) hne (fun y hy => by
    obtain ⟨p, hp, rfl⟩ := List.mem_map.mp hy
    exact h2 p hp) hf (S_inj h1)]

theorem slice_to (l : List Nat) (k : Int) (h : 0 ≤ k ∧ k ≤ l.length) : Txt.slice (S l) none (some k) = S (l.take k.toNat) := by
  show StrLaws.sliceText _ _ _ = _
  rw [StrLaws.sliceText_to (by rw [S_toList]; exact h), S_toList]
  simp [S]
theorem slice_from (l : List Nat) (k : Int) (h : 0 ≤ k ∧ k ≤ l.length) : Txt.slice (S l) (some k) none = S (l.drop k.toNat) := by
  show StrLaws.sliceText _ _ _ = _
  rw [StrLaws.sliceText_from (by rw [S_toList]; exact h), S_toList]
  congr 1
  rw [List.take_of_length_le (by rw [List.length_drop]; (first | lia | omega))]
theorem slice_mid (l : List Nat) (a b : Int) (h : 0 ≤ a ∧ a ≤ b ∧ b ≤ l.length) : Txt.slice (S l) (some a) (some b) = S ((l.drop a.toNat).take (b - a).toNat) := by
  show StrLaws.sliceText _ _ _ = _
  rw [StrLaws.sliceText_plain (by rw [S_toList]; exact h), S_toList]
  rfl

theorem subAt_one (l : List Nat) (i : Nat) : Builtin.Str.subAt (S l) (S [47]) i = true ↔ l[i]? = some 47 := by
  rw [StrLaws.subAt_eq, S_toList, S_toList]
  exact StrLaws.take1_drop

theorem rfind_last (a b : List Nat) (hb : 47 ∉ b) : Txt.rfind (S (a ++ 47 :: b)) (S [47]) = (a.length : Int) := by
  unfold Txt.rfind
  have hlen : (S (a ++ 47 :: b)).length = a.length + (b.length + 1) := by rw [S_len]; simp
  have hl1 : (S [47]).length = 1 := rfl
  have hat : StrLaws.At (S (a ++ 47 :: b)) (S [47]) (S (a ++ 47 :: b)).length a.length := by
    refine ⟨by rw [hlen, hl1]; (first | lia | omega), ?_⟩
    rw [subAt_one]; simp
  rcases StrLaws.last_spec (S (a ++ 47 :: b)) (S [47]) with ⟨_, h⟩ | ⟨i, hi, hat', hlast⟩
  · exact absurd hat (h _)
  · rw [hi]
    have h1 : ¬ i < a.length := fun q => hlast _ q hat
    have h2 : ¬ a.length < i := fun q => by
      have := (subAt_one _ _).mp hat'.2
      rw [List.getElem?_append_right (by (first | lia | omega))] at this
      obtain ⟨j, hj⟩ : ∃ j, i - a.length = j + 1 := ⟨i - a.length - 1, by (first | lia | omega)⟩
      rw [hj, List.getElem?_cons_succ] at this
      exact hb (List.mem_of_getElem? this)
    have : i = a.length := by (first | lia | omega)
    rw [this]

theorem starts_one (c : Nat) (r : List Nat) : Txt.startswith (S (c :: r)) (S [47]) = decide (c = 47) := by
  unfold Txt.startswith
  rw [S_len, S_len]
  have : decide (0 + [47].length ≤ (c :: r).length) = true := by simp
  rw [this, Bool.true_and]
  by_cases h : c = 47
  · subst h; simpa using (subAt_one (47 :: r) 0).mpr rfl
  · rw [decide_eq_false h]
    refine Bool.eq_false_iff.mpr fun q => h ?_
    have := (subAt_one _ _).mp q
    simpa using this
theorem ends_one (r : List Nat) (c : Nat) : Txt.endswith (S (r ++ [c])) (S [47]) = decide (c = 47) := by
  unfold Txt.endswith
  rw [S_len, S_len]
  have : decide (0 + [47].length ≤ (r ++ [c]).length) = true := by simp
  rw [this, Bool.true_and]
  have e : (r ++ [c]).length - [47].length = r.length := by simp
  rw [e]
  by_cases h : c = 47
  · subst h; rw [decide_eq_true rfl]; exact (subAt_one _ _).mpr (by simp)
  · rw [decide_eq_false h]
    refine Bool.eq_false_iff.mpr fun q => h ?_
    have := (subAt_one _ _).mp q
    simpa using this
end Mine
end
section
open PySem PySem.W PySem.Spec PySem.Calls PyProof.Rows
set_option Elab.async false
set_option maxRecDepth 100000
set_option maxHeartbeats 8000000
namespace Mine

theorem rstrip_one (a : List Nat) (ha : a.getLast? ≠ some 47) : Txt.rstripChars (S (a ++ [47])) (S [47]) = S a := by
  unfold Txt.rstripChars Txt.stripBy
  have hlen : (S (a ++ [47])).length = a.length + 1 := by rw [S_len]; simp
  have hlo : stripLo (S [47]).cps.contains false (S (a ++ [47])) = 0 := by simp [stripLo]
  obtain ⟨h1, h2, h3, h4⟩ := hi_facts (S [47]).cps.contains (S (a ++ [47])) 0 (Nat.zero_le _)
  have hgo : ∀ c, (S [47]).cps.contains c = decide (c = 47) := by intro c; simp [S]
  have hget : ∀ k, (S (a ++ [47])).cps.getD k 0 = (a ++ [47]).getD k 0 := by intro k; simp [S, Array.getD_eq_getD_getElem?, List.getD]
  have hhi : stripHi (S [47]).cps.contains true (S (a ++ [47])) 0 = a.length := by
    generalize stripHi (S [47]).cps.contains true (S (a ++ [47])) 0 = hi at h1 h2 h3 h4
    rw [hlen] at h2 h3
    have hne : hi ≠ a.length + 1 := by
      intro q
      rcases h4 with h4 | h4
      · (first | lia | omega)
      · rw [q, hgo, hget] at h4
        simp [List.getD] at h4
    by_cases hlt : hi < a.length
    · exfalso
      have h5 := h3 (a.length - 1) (by (first | lia | omega)) (by (first | lia | omega))
      rw [hgo, hget] at h5
      have h6 : (a ++ [47]).getD (a.length - 1) 0 = 47 := of_decide_eq_true h5
      apply ha
      rw [List.getLast?_eq_getElem?]
      have : a.length - 1 < a.length := by (first | lia | omega)
      rw [List.getD, List.getElem?_append_left this] at h6
      rw [List.getElem?_eq_getElem this] at h6 ⊢
      simpa using h6
    · (first | lia | omega)
  unfold stripSame PySem.stripped
  rw [hlo, hhi, hlen]
  rw [if_neg (by simp)]
  rw [StrLaws.mk_of_toList (StrLaws.strSub_toList _ _ _), S_toList]
  simp [S]

theorem mul_one (n : Nat) (hn : 0 < n) : Txt.mul (S [47]) (n : Int) = S (List.replicate n 47) := by
  unfold Txt.mul
  rw [if_neg (by (first | lia | omega))]
  by_cases h1 : n = 1
  · subst h1; rfl
  · rw [if_neg (by
      have : ((n : Int) == 1) = false := beq_eq_false_iff_ne.mpr (by (first | lia | omega))
      rw [this, S_len]; simp)]
    have e : ∀ (k : Nat) (acc : Array Nat), (List.replicate k (S [47]).cps).foldl (· ++ ·) acc = acc ++ (List.replicate k 47).toArray := by
      intro k
      induction k with
      | zero => intro acc; simp
      | succ k ih =>
        intro acc
        rw [List.replicate_succ, List.foldl_cons, ih]
        apply Array.ext'; simp [S, List.replicate_succ]
    rw [e]
    simp [S]

def hx (d : Int) : Nat := if d < 10 then (48 + d).toNat else (55 + d).toNat
def hex2 (o : Int) : List Nat := [hx (o / 16), hx (o % 16)]
theorem hx_le (d : Int) (h0 : 0 ≤ d) (h1 : d < 16) : 48 ≤ hx d ∧ hx d ≤ 70 := by unfold hx; split <;> (first | lia | omega)
theorem hex2_free (o : Int) (h0 : 0 ≤ o) (h1 : o < 256) : 47 ∉ hex2 o := by
  intro h
  have a := hx_le (o / 16) (by (first | lia | omega)) (by (first | lia | omega))
  have b := hx_le (o % 16) (by (first | lia | omega)) (by (first | lia | omega))
  simp only [hex2, List.mem_cons, List.mem_nil_iff, or_false] at h
  (first | lia | omega)
theorem hex2_len (o : Int) : (hex2 o).length = 2 := rfl

def pathL (os : List Int) : List Nat := 47 :: joinL (os.map hex2)
def HEX : Str := Str.ofString "0123456789ABCDEF"
theorem item_hex : ∀ d : Fin 16, Txt.item HEX ((d.val : Nat) : Int) = S [hx d.val] := by decide +kernel
theorem item_hx (d : Int) (h0 : 0 ≤ d) (h1 : d < 16) : Txt.item (Str.ofString "0123456789ABCDEF") d = S [hx d] := by
  have := item_hex ⟨d.toNat, by (first | lia | omega)⟩
  have e : ((d.toNat : Nat) : Int) = d := by (first | lia | omega)
  rw [e] at this; exact this
theorem find_hex : ∀ d : Fin 16, Txt.find HEX (S [hx d.val]) = ((d.val : Nat) : Int) := by decide +kernel
theorem find_hx (d : Int) (h0 : 0 ≤ d) (h1 : d < 16) : Txt.find (Str.ofString "0123456789ABCDEF") (S [hx d]) = d := by
  have := find_hex ⟨d.toNat, by (first | lia | omega)⟩
  have e : ((d.toNat : Nat) : Int) = d := by (first | lia | omega)
  rw [e] at this; exact this
theorem joinL_len : ∀ xs : List (List Nat), (∀ x ∈ xs, x.length ≤ 2) → (joinL xs).length ≤ 3 * xs.length
  | [], _ => Nat.le_refl _
  | x :: r, h => by
    rw [joinL_cons, List.length_append]
    have h1 := h x (.head _)
    have h2 := joinL_len r fun y hy => h y (.tail _ hy)
    have h3 : (tailJ r).length ≤ (joinL r).length + 1 := by cases r <;> simp [tailJ]
    have h4 : (tailJ r).length ≤ 3 * r.length + 1 := by (first | lia | omega)
    simp only [List.length_cons]
    (first | lia | omega)
theorem pathL_len (os : List Int) : (pathL os).length ≤ 3 * os.length + 1 := by
  have := joinL_len (os.map hex2) (fun x hx => by obtain ⟨o, _, rfl⟩ := List.mem_map.mp hx; exact Nat.le_refl _)
  simp only [pathL, List.length_cons]
  rw [List.length_map] at this
  (first | lia | omega)
theorem pathL_snoc (os : List Int) (o : Int) (h : os ≠ []) : pathL (os ++ [o]) = pathL os ++ 47 :: hex2 o := by
  simp only [pathL, List.map_append, List.map_cons, List.map_nil, List.cons_append]
  rw [joinL_snoc _ _ (by simpa using h)]
theorem pathL_one (o : Int) : pathL [o] = 47 :: hex2 o := rfl
theorem pathL_nil : pathL [] = [47] := rfl
theorem pathL_last (os : List Int) (h : os ≠ []) (hb : ∀ o ∈ os, 0 ≤ o ∧ o < 256) : (pathL os).getLast? ≠ some 47 := by
  obtain ⟨r, o, rfl⟩ : ∃ r o, os = r ++ [o] := ⟨os.dropLast, os.getLast h, (List.dropLast_concat_getLast h).symm⟩
  have ho := hb o (by simp)
  have e : ∃ u, pathL (r ++ [o]) = u ++ [hx (o % 16)] := by
    by_cases hr : r = []
    · subst hr; exact ⟨[47, hx (o / 16)], rfl⟩
    · rw [pathL_snoc _ _ hr]; exact ⟨pathL r ++ [47, hx (o / 16)], by simp [hex2]⟩
  obtain ⟨u, e⟩ := e
  rw [e, List.getLast?_append]
  have := hx_le (o % 16) (by (first | lia | omega)) (by (first | lia | omega))
  simp
  (first | lia | omega)
end Mine
end
section
open PySem PySem.W PySem.Spec PySem.Calls PyProof.Rows
set_option Elab.async false
set_option maxRecDepth 100000
set_option maxHeartbeats 8000000
namespace Mine
section
variable {prog : Program} {w : World} {A : Around} {E : Value → Shared → Prop} {s : Shared}

theorem e_issub_n : entryFor table "issubclass.nested" = some Builtin.«issubclass.nested» := entryFor_of_fast (by kernel_rfl)
theorem e_issub : entryFor table "issubclass" = some Builtin.«issubclass» := entryFor_of_fast (by kernel_rfl)
theorem k_issub_n : builtinKind "issubclass.nested" = none := by decide +kernel
theorem k_issub : builtinKind "issubclass" = none := by decide +kernel
theorem p_issub_n : plainId "issubclass.nested" = true := by decide +kernel
theorem p_issub : plainId "issubclass" = true := by decide +kernel
theorem a_issub_n (a b c : Value) : argsOk "issubclass.nested" ⟨[a, b, c], []⟩ := by unfold argsOk; kernel_rfl
theorem a_issub (a b : Value) : argsOk "issubclass" ⟨[a, b], []⟩ := by unfold argsOk; kernel_rfl
theorem sub_str_str : isSubtype (.type "str") (.type "str") = pure true := by rw [isSubtype_type]; kernel_rfl

theorem issub_n_str {dep : Int} {tk : Tok} {Q : Value → Shared → Prop} (h : Q (.bool true) s) :
    wpAny (model prog w) A (call (.builtin "issubclass.nested") [.type "str", .type "str", .int dep tk]) Q E s := by
  refine call_function_entry k_issub_n p_issub_n e_issub_n (a_issub_n _ _ _) ?_
  have f1 := sub_str_str
  have f2 : typeOf (.type "str") = pure (.type "type") := by kernel_rfl
  repeat (any_goals (first | assumption | wp_step))
  exact ⟨_, rfl, h⟩

theorem issub_tuple {D : Addr} {cs r : List Value} {Q : Value → Shared → Prop} (hD : s.heap.get? D = some { cls := .type "tuple", data := .seq cs.toArray }) (hcs : cs = .type "str" :: r)
    (h : Q (.bool true) s) :
    wpAny (model prog w) A (call (.builtin "issubclass") [.type "str", .ref D]) Q E s := by
  refine wpAny_call (codeAny_call_builtin p_issub e_issub ?_)
  simp only [checkBuiltinCall, k_issub]
  have hsig : argsOk "issubclass" ⟨[.type "str", .ref D], []⟩ := a_issub _ _
  repeat (any_goals (first | assumption | wp_step))
  refine ⟨Code.quiet_builtin _ (by decide +kernel), codeAny_builtin e_issub_n ?_⟩
  rw [Around.under_plain (show (Code.builtin "issubclass.nested" ⟨[.type "str", .ref D, rawInt 0], []⟩).weight = 0 from rfl) rfl]
  obtain ⟨H, g, d, t, os⟩ := s
  have hT2 : (⟨H, g, d, t, os⟩ : Shared).TypeIs (.ref D) "tuple" := ⟨_, hD, rfl⟩
  have f1 := F.isi_sub_tuple
  repeat (any_goals (first | assumption | wp_step))
  refine wpAny_arrayLoop ?_
  simp only [Option.getD_some, List.toList_toArray]
  subst hcs
  rw [List.forIn_cons]
  refine wpAny_bind (wpAny_bind (issub_n_str ?_))
  refine wpAny_bind (m := truthy (.bool true)) (wpAny_pure ?_)
  simp only [if_true]
  repeat (any_goals (first | assumption | wp_step))
end
end Mine
end
section
open PySem PySem.W PySem.Spec PySem.Calls PyProof.Rows
set_option Elab.async false
set_option maxRecDepth 100000
set_option maxHeartbeats 8000000
set_option pp.maxSteps 3000
namespace Mine

def alikeTo (a b : List Int) : Nat → List Int
  | 0 => []
  | i + 1 => if (alikeTo a b i).length = i ∧ a.getD i 0 = b.getD i 0 then alikeTo a b i ++ [a.getD i 0] else alikeTo a b i
theorem alikeTo_len (a b : List Int) (i : Nat) : (alikeTo a b i).length ≤ i := by
  induction i with
  | zero => exact Nat.le_refl _
  | succ i ih =>
    unfold alikeTo
    split
    · rw [List.length_append, List.length_singleton]; (first | lia | omega)
    · (first | lia | omega)

theorem law_alike (w : World) (mean : ExcName → Option Value) (mg mb : Str → Option Value) (l₁ l₂ : Addr) (vs₁ vs₂ : List Value) (n₁ n₂ : List Int) (i₁ : IntsAre vs₁ n₁) (i₂ : IntsAre vs₂ n₂) (hl₁ : n₁.length < 2 ^ 20) (hl₂ : n₂.length < 2 ^ 20) :
    PC w mean mg mb 2 212 [.ref l₁, .ref l₂] (fun h => h.IsList l₁ vs₁.toArray ∧ h.IsList l₂ vs₂.toArray) (fun nw r => ∃ l ws nn, r = .ref l ∧ (l, listOf ws.toArray nn) ∈ nw ∧ IntsAre ws (alikeTo n₁ n₂ (min n₁.length n₂.length))) := by
  w_top off
  k_with_none
  (k_with "call builtin:issubclass" => (k_here; k_dflt (refine' issub_tuple ?kD ?kc ?_; (case kD => exact (News.get (by k_asm) (by k_mem))); (case kc => exact rfl); k_whole)))
  (k_with "exec For Name Call cons nil" => (k_here; (with_unfolding_all refine' For_invVF ?kF0 ?k1 ?k2 ?_; (case kF0 => k_asm); (case k1 => exact rfl); (case k2 => exact rfl); k_whole)))
  (k_with "exec For Name Name cons nil" => (k_here; (with_unfolding_all refine' For_invVF ?kF0 ?k1 ?k2 ?_; (case kF0 => k_asm); (case k1 => exact rfl); (case k2 => exact rfl); k_whole)))
  (k_with "pyIter ref" => (k_here; (with_reducible show wpAny _ _ (pyIter (Value.ref _)) (fun it s₂ => LoopAtV _ _ _ _ _ _ _ _ _ it s₂) _ _); refine Stop.mk ?_))
  have mFill : ∀ P : Params, (Mine.hd.heap_39 P).In {} → PySem.Challenge.rw_pd0187_01.Holds → True := by
    k_fill
    exact fun _ _ _ => trivial
  clear mFill
  refine' PC.of [(Str.ofString "one", .ref l₁), (Str.ofString "other", .ref l₂)] (fun _ _ u h => ⟨h.1.at fun o e => u _ _ e, h.2.at fun o e => u _ _ e⟩) ?ho ?hcd ?hbind ?hloc ?hco ?hgen ?hk ?hcell ?h
  (case ho => k_is)
  (case hcd => k_is)
  (case hbind => exact fun _ _ => BindsTo.of_eq rfl)
  (case hloc => exact locs rfl)
  (case hco => exact rfl)
  (case hgen => exact rfl)
  (case hk => exact rfl)
  (case hcell => decide)
  case h =>
    intro dp un gd env outer A₁ base g L s Q B F X T N pre hd hu hret
    obtain ⟨pre1, pre2⟩ := pre
    k_steps
    rename_i la h3 l1 h2 lF h1 tk1 F1 N1 h0 tk0 t0 u0 v0 R0 F0 N0 U0
    unfold Stop
    refine loop_range (n := min n₁.length n₂.length) (fun i (c : List Value × Nat) => IntsAre c.1 (alikeTo n₁ n₂ i))
      (fun _ y => if y = Str.ofString "alike" then some (Value.ref la) else List.lookup y [(Str.ofString "one", Value.ref l₁), (Str.ofString "other", Value.ref l₂)].reverse)
      (fun c => [(la, listOf c.1.toArray c.2)]) ([], 0) rfl R0 (by simp only [Nat.min_def]; split <;> split <;> (first | lia | omega)) (by (first | lia | omega)) F0 N0 ?_ (fun _ _ => rfl) (fun _ h => h) ?_ ?_
    · exact IntsAre.nil
    · intro i c t h tk own hi hc hoff F' N'
      change OwnOff own [la] at hoff
      obtain ⟨ws, nn⟩ := c
      dsimp only at hc F' N' ⊢
      have hlen := hc.length
      have hal := alikeTo_len n₁ n₂ i
      have hi1 : i < n₁.length := by (first | lia | omega)
      have hi2 : i < n₂.length := by (first | lia | omega)
      k_steps
      · rename_i e1 t2 t1 e2 tk2 tv h' F2 N2
        refine JS.mk_ (ws ++ [.int (n₁.getD ((i : Int)).toNat 0) tv], nn + 1) F2 N2 ?_ (fun z hz => by simp only [if_neg hz]) (fun p hp => ?_) (fun p hp => .tail _ hp) hoff
        · show IntsAre _ (alikeTo n₁ n₂ (i + 1))
          unfold alikeTo
          rw [if_pos ⟨by (first | lia | omega), by simpa using e2⟩]
          exact hc.append (.cons _ _ .nil)
        · rw [List.mem_singleton.mp hp]; simp
      · rename_i e1 t2 t1 e2
        refine JS.mk_ (ws, nn) (by assumption) (by assumption) ?_ (fun z hz => by simp only [if_neg hz]) (fun p hp => List.mem_append_left _ hp) (fun p hp => List.mem_append_right _ hp) hoff
        show IntsAre _ (alikeTo n₁ n₂ (i + 1))
        unfold alikeTo
        rw [if_neg (fun q => e2 (by simpa using q.2))]
        exact hc
      · rename_i e1
        refine JS.mk_ (ws, nn) (by assumption) (by assumption) ?_ (fun z hz => by simp only [if_neg hz]) (fun p hp => List.mem_append_left _ hp) (fun p hp => List.mem_append_right _ hp) hoff
        show IntsAre _ (alikeTo n₁ n₂ (i + 1))
        unfold alikeTo
        rw [if_neg (fun q => e1 (by (first | lia | omega)))]
        exact hc
    · intro c u h tk hc F' N'
      obtain ⟨ws, nn⟩ := c
      dsimp only at hc F' N' ⊢
      k_steps
      dsimp only
      exact hret _ _ _ _ _ (by assumption) (by assumption) ⟨_, _, _, rfl, .head _, hc⟩
end Mine
end
section
open PySem PySem.W PySem.Spec PySem.Calls PyProof.Rows
set_option Elab.async false
set_option maxRecDepth 100000
set_option maxHeartbeats 8000000
namespace Mine

/-- everything stands, but the slots of the one object at L may have turned -/
structure UpT (L : Addr) (g h : Heap) : Prop where
  other : ∀ b o, b ≠ L → g.get? b = some o → h.get? b = some o
  own : ∀ o, g.get? L = some o → ∃ sl, h.get? L = some { o with slots := sl }
theorem UpT.refl (L : Addr) (g : Heap) : UpT L g g := ⟨fun _ _ _ e => e, fun o e => ⟨o.slots, e⟩⟩
theorem UpT.of {L : Addr} {g h : Heap} (u : Up g h) : UpT L g h := ⟨fun b o _ e => u b o e, fun o e => ⟨o.slots, u _ _ e⟩⟩
theorem UpT.trans {L : Addr} {a b c : Heap} (x : UpT L a b) (y : UpT L b c) : UpT L a c := ⟨fun q o n e => y.other q o n (x.other q o n e), fun o e => by
  obtain ⟨s1, h1⟩ := x.own o e
  obtain ⟨s2, h2⟩ := y.own _ h1
  exact ⟨s2, h2⟩⟩
theorem UpT.ns {L : Addr} {g h : Heap} {m : Str → Option Value} (u : UpT L g h) {a : Addr} (n : g.Ns a m) : h.Ns a m := by
  obtain ⟨o, es, ep, ho, hd, r⟩ := n
  by_cases q : a = L
  · subst q
    obtain ⟨sl, hs⟩ := u.own o ho
    exact ⟨_, es, ep, hs, hd, r⟩
  · exact ⟨o, es, ep, u.other a o q ho, hd, r⟩
theorem UpT.fr {L : Addr} {h₀ g h : Heap} {m : Str → Option Value} (u : UpT L g h) (F : Fr h₀ L g m) : Fr h₀ L h m :=
  ⟨u.ns F.ns, fun b o e => u.other b o (Nat.ne_of_lt (Nat.lt_of_lt_of_le (Heap.lt_size e) F.above)) (F.keep b o e), F.above⟩
theorem UpT.news {L : Addr} {h₀ g h : Heap} {news : Led} (u : UpT L g h) (N : News h₀ L g news) : News h₀ L h news :=
  fun p hp => ⟨u.other _ _ (N p hp).2.1 (N p hp).1, (N p hp).2⟩
theorem UpT.back {L : Addr} {g h : Heap} (u : UpT L g h) {b : Addr} (e : h.get? b = none) : g.get? b = none := by
  cases q : g.get? b with
  | none => rfl
  | some o =>
    by_cases n : b = L
    · subst n
      obtain ⟨sl, hs⟩ := u.own o q
      rw [e] at hs; cases hs
    · rw [u.other b o n q] at e; cases e

/-- what an element hands back: a value, what it made in a ledger, and nothing turned -/
def EltPost (L : Addr) (R : Led → Value → Prop) (s₃ : Shared) (y : Value) (s₄ : Shared) : Prop := (∃ nw, NewIn s₃.heap s₄.heap nw ∧ R nw y) ∧ ∃ h' tk, s₄ = { s₃ with heap := h', toks := tk } ∧ UpT L s₃.heap h'
theorem EltPost.none_ {L : Addr} {R : Led → Value → Prop} {s₃ : Shared} {y : Value} {h : Heap} {tk : Nat} (r : R [] y) (u : Up s₃.heap h) : EltPost L R s₃ y { s₃ with heap := h, toks := tk } :=
  ⟨⟨[], (fun _ hp => nomatch hp), r⟩, h, tk, rfl, .of u⟩
theorem EltPost.some_ {L : Addr} {R : Led → Value → Prop} {s₃ : Shared} {y : Value} {h : Heap} {tk : Nat} (nw : Led) (n : NewIn s₃.heap h nw) (r : R nw y) (u : Up s₃.heap h) : EltPost L R s₃ y { s₃ with heap := h, toks := tk } :=
  ⟨⟨nw, n, r⟩, h, tk, rfl, .of u⟩
theorem EltPost.someT {L : Addr} {R : Led → Value → Prop} {s₃ : Shared} {y : Value} {h : Heap} {tk : Nat} (nw : Led) (n : NewIn s₃.heap h nw) (r : R nw y) (u : UpT L s₃.heap h) : EltPost L R s₃ y { s₃ with heap := h, toks := tk } :=
  ⟨⟨nw, n, r⟩, h, tk, rfl, u⟩

section
variable {prog : Program} {w : World} {A : Around}

/-- the loop of a comprehension without tests: what an element makes is kept in one ledger -/
theorem comp_loopG {R : Result → Shared → Prop} {s : Shared} {elt iter : Expr} {x : Str} {px : Pos} {scope : Scope} {pos : Pos} {I D L : Addr} {fp wr : List Addr} {n : Nat} {P : Nat → Value → Prop} {St : Nat → Heap → Prop}
    {cenv : Env} {m : Str → Option Value} (W : Walks prog w A I fp wr n P St) (Res : Nat → Led → Value → Prop)
    (hmono : ∀ i a b y, (∀ p ∈ a, p ∈ b) → Res i a y → Res i b y)
    (hlive : ∀ i h, St i h → ∀ b ∈ wr, ∃ o, h.get? b = some o)
    (hx : cenv.kindOf x = some .local) (hp : (cenv.scope.kind == .class || (cenv.scope.kind == .module && cenv.locals != cenv.globals)) = false)
    (hDC : D ≠ cenv.locals) (hDf : D ∉ fp) (hCf : cenv.locals ∉ fp) (hLC : cenv.locals ≠ L) (hLD : D ≠ L) (hLf : L ∉ fp)
    (hst : St 0 s.heap) (hacc : s.heap.PlainList D #[]) (hn : s.heap.Ns cenv.locals m)
    (helt : ∀ i v s₂ m₂, i < n → P i v → s₂.heap.Ns cenv.locals m₂ → m₂ x = some v → (∀ b o, b ≠ cenv.locals → b ∉ wr → b ≠ D → b ≠ L → s.heap.get? b = some o → s₂.heap.get? b = some o) → (∀ o, s.heap.get? L = some o → ∃ sl, s₂.heap.get? L = some { o with slots := sl }) →
      wpAny (model prog w) A (eval elt cenv) (EltPost L (Res i) s₂) (notedBy (model prog w) A cenv fun e s' => R (.error e) s') s₂)
    (hR : ∀ h' tk m' ys all, h'.Ns cenv.locals m' → h'.PlainList D ys → ys.size = n → (∀ i y, ys[i]? = some y → Res i all y) →
      (∀ p ∈ all, h'.get? p.1 = some p.2 ∧ s.heap.get? p.1 = none ∧ p.1 ≠ cenv.locals ∧ p.1 ∉ wr ∧ p.1 ≠ D) →
      (∀ b o, b ≠ cenv.locals → b ∉ wr → b ≠ D → b ≠ L → s.heap.get? b = some o → h'.get? b = some o) → (∀ o, s.heap.get? L = some o → ∃ sl, h'.get? L = some { o with slots := sl }) → R (.ok .next) { s with heap := h', toks := tk })
    (hsz : n ≤ sizeLine) (hLs : ∃ o, s.heap.get? L = some o) :
    codeAny (model prog w) A (.compLoop (.ListComp elt [⟨.Name x px, iter, [], 0⟩] scope pos) 0 (.ref I) (.ref D) cenv) R s := by
  refine codeAny_compLoop_tests
    (fun k s' => ∃ h' tk m', ∃ ys : Array Value, ∃ all : Led, s' = { s with heap := h', toks := tk } ∧ St ys.size h' ∧ h'.PlainList D ys ∧ h'.Ns cenv.locals m' ∧
      (∀ i y, ys[i]? = some y → Res i all y) ∧ (∀ p ∈ all, h'.get? p.1 = some p.2 ∧ s.heap.get? p.1 = none ∧ p.1 ≠ cenv.locals ∧ p.1 ∉ wr ∧ p.1 ≠ D) ∧ ys.size ≤ n ∧ k = n + 1 - ys.size ∧
      (∀ b o, b ≠ cenv.locals → b ∉ wr → b ≠ D → b ≠ L → s.heap.get? b = some o → h'.get? b = some o) ∧ (∀ o, s.heap.get? L = some o → ∃ sl, h'.get? L = some { o with slots := sl })) ?_ (n + 1)
    ⟨s.heap, s.toks, m, #[], [], rfl, hst, hacc, hn, by simp, by simp, Nat.zero_le _, rfl, fun _ _ _ _ _ _ e => e, fun o e => ⟨o.slots, e⟩⟩
  rintro k s' ⟨H, tk, m', ys, all, rfl, hst', hacc', hn', hF, hA, hi, rfl, hk, hkL⟩
  have hCw : cenv.locals ∉ wr := fun h => hCf (W.sub _ h)
  have hDw : D ∉ wr := fun h => hDf (W.sub _ h)
  have hLw : L ∉ wr := fun h => hLf (W.sub _ h)
  have hallL : ∀ p ∈ all, p.1 ≠ L := fun p hp q => by
    obtain ⟨o, ho⟩ := hLs
    have := (hA p hp).2.1
    rw [q, ho] at this; cases this
  by_cases hlt : ys.size < n
  · refine W.item ys.size _ _ _ hlt hst' fun v h₁ tk₁ hPv hst₁ hk₁ => ?_
    refine wpAny_assign_Name (wpAny_storeName_local hx (hn'.at' fun o e => hk₁ _ o hCw e) (fun h₂ hn₂ hs₂ => ?_) hp)
    have up₂ : ∀ b o, b ≠ cenv.locals → b ∉ wr → H.get? b = some o → h₂.get? b = some o := fun b o hbC hbf e => hs₂.extBut b o hbC (hk₁ b o hbf e)
    have hst₂ : St (ys.size + 1) h₂ := W.frame _ _ _ hst₁ fun b hb o e => hs₂.extBut b o (fun h => hCf (h ▸ hb)) e
    have hL₂ : ∀ o, s.heap.get? L = some o → ∃ sl, h₂.get? L = some { o with slots := sl } := fun o e => by
      obtain ⟨sl, hs⟩ := hkL o e
      exact ⟨sl, up₂ _ _ (Ne.symm hLC) hLw hs⟩
    refine wpAny_tests_nil ?_
    simp only [if_true]
    refine wpAny_mono (helt ys.size v _ _ hlt hPv hn₂ (by simp) (fun b o hbC hbf hbD hbL e => up₂ b o hbC hbf (hk b o hbC hbf hbD hbL e)) hL₂) (fun y s₄ h₄ => ?_) fun _ _ e => e
    obtain ⟨⟨nw, hnw, hres⟩, h₄, tk₄, rfl, hk₄⟩ := h₄
    dsimp only at hnw hk₄ ⊢
    have hst₃ : St (ys.size + 1) h₄ := W.frame _ _ _ hst₂ fun b hb o e => hk₄.other b o (fun q => hLf (q ▸ hb)) e
    have hacc₃ : h₂.PlainList D ys := hacc'.at fun o e => up₂ D o hDC hDw e
    refine wpAny_list_append_plain (hsz := by (first | lia | omega)) (hacc₃.at fun o e => hk₄.other _ o hLD e) fun h₅ hl₅ hs₅ => ?_
    refine ⟨n + 1 - (ys.size + 1), by (first | lia | omega), h₅, tk₄, _, ys.push y, nw ++ all, rfl, ?_, hl₅, (hk₄.ns hn₂).sameBut hs₅ (Ne.symm hDC), ?_, ?_, by rw [Array.size_push]; exact hlt, by simp,
      fun b o hbC hbf hbD hbL e => hs₅.extBut b o hbD (hk₄.other b o hbL (up₂ b o hbC hbf (hk b o hbC hbf hbD hbL e))), fun o e => ?_⟩
    · have := W.frame _ _ h₅ hst₃ fun b hb o e => hs₅.extBut b o (fun h => hDf (h ▸ hb)) e
      simpa using this
    · intro i y' hy
      rcases Nat.lt_trichotomy i ys.size with h | h | h
      · rw [Array.getElem?_push_lt h] at hy
        exact hmono i all _ y' (fun p hp => List.mem_append_right _ hp) (hF i y' (by rw [Array.getElem?_eq_getElem h]; exact hy))
      · subst h
        rw [Array.getElem?_push_size] at hy
        cases hy
        exact hmono _ nw _ _ (fun p hp => List.mem_append_left _ hp) hres
      · rw [Array.getElem?_eq_none (by simp; (first | lia | omega))] at hy; cases hy
    · intro p hp
      rcases List.mem_append.mp hp with hp | hp
      · obtain ⟨h1, h2⟩ := hnw p hp
        have hC : p.1 ≠ cenv.locals := fun q => by obtain ⟨_, _, _, ho, _⟩ := hn₂; rw [q, ho] at h2; cases h2
        have hD' : p.1 ≠ D := fun q => by obtain ⟨_, ho⟩ := hacc₃; rw [q, ho] at h2; cases h2
        have hw' : p.1 ∉ wr := fun hm => by obtain ⟨o, ho⟩ := hlive _ _ hst₂ p.1 hm; rw [ho] at h2; cases h2
        refine ⟨hs₅.extBut _ _ hD' h1, ?_, hC, hw', hD'⟩
        cases e : s.heap.get? p.1 with
        | none => rfl
        | some o =>
          by_cases hpL : p.1 = L
          · rw [hpL] at e h2
            obtain ⟨sl, hs⟩ := hL₂ o e
            rw [hs] at h2; cases h2
          · rw [up₂ _ o hC hw' (hk _ o hC hw' hD' hpL e)] at h2; cases h2
      · obtain ⟨h1, h2, h3, h4, h5⟩ := hA p hp
        exact ⟨hs₅.extBut _ _ h5 (hk₄.other _ _ (hallL p hp) (up₂ _ _ h3 h4 h1)), h2, h3, h4, h5⟩
    · obtain ⟨sl, hs⟩ := hL₂ o e
      obtain ⟨sl', hs'⟩ := hk₄.own _ hs
      exact ⟨sl', hs₅.extBut _ _ (Ne.symm hLD) hs'⟩
  · have hin : ys.size = n := by (first | lia | omega)
    refine W.done _ _ _ (hin ▸ hst') fun h₁ tk₁ hk₁ => ?_
    exact hR h₁ tk₁ m' ys all (hn'.at' fun o e => hk₁ _ o hCw e) (hacc'.at fun o e => hk₁ _ o hDw e) hin hF
      (fun p hp => by obtain ⟨h1, h2, h3, h4, h5⟩ := hA p hp; exact ⟨hk₁ _ _ h4 h1, h2, h3, h4, h5⟩) (fun b o hbC hbf hbD hbL e => hk₁ b o hbf (hk b o hbC hbf hbD hbL e))
      fun o e => by
        obtain ⟨sl, hs⟩ := hkL o e
        exact ⟨sl, hk₁ _ _ hLw hs⟩

theorem comp_blockG {E : Value → Shared → Prop} {env : Env} {elt iter : Expr} {x : Str} {px : Pos} {scope : Scope} {cl : List (Str × Addr)} {pos : Pos} {s₂ : Shared} {I L : Addr} {fp wr : List Addr} {n : Nat} {P : Nat → Value → Prop}
    {St : Nat → Heap → Prop} (W : Walks prog w A I fp wr n P St) (hsz : n ≤ sizeLine) (Res : Nat → Led → Value → Prop) {RR : Value → Addr → Result → Shared → Prop}
    (hmono : ∀ i a b y, (∀ p ∈ a, p ∈ b) → Res i a y → Res i b y)
    (hlive : ∀ i h, St i h → ∀ b ∈ wr, ∃ o, h.get? b = some o) (hLf : L ∉ fp) (hLs : ∃ o, s₂.heap.get? L = some o)
    (hcell : ∀ y ∈ scope.names, y.2 ≠ .cell) (hkind : scope.kind = .function) (hx : scope.names.lookup x = some .local) (hst : St 0 s₂.heap) (hfp : ∀ b ∈ fp, b < s₂.heap.objs.size)
    (helt : ∀ C i v s₃ m₃ E', i < n → P i v → s₃.heap.Ns C m₃ → m₃ x = some v → (∀ b o, b ∉ wr → b ≠ L → s₂.heap.get? b = some o → s₃.heap.get? b = some o) → (∀ o, s₂.heap.get? L = some o → ∃ sl, s₃.heap.get? L = some { o with slots := sl }) →
      wpAny (model prog w) A (eval elt (compEnvC scope cl C env)) (EltPost L (Res i) s₃) E' s₃)
    (hRR : ∀ D C h' tk m' ys all, s₂.heap.get? D = none → s₂.heap.get? C = none → D ≠ C → h'.Ns C m' → h'.PlainList D ys → ys.size = n → (∀ i y, ys[i]? = some y → Res i all y) →
      (∀ p ∈ all, h'.get? p.1 = some p.2 ∧ s₂.heap.get? p.1 = none ∧ p.1 ≠ C ∧ p.1 ≠ D) →
      (∀ b o, b ∉ wr → b ≠ L → s₂.heap.get? b = some o → h'.get? b = some o) → (∀ o, s₂.heap.get? L = some o → ∃ sl, h'.get? L = some { o with slots := sl }) → RR (.ref D) C (.ok .next) { s₂ with heap := h', toks := tk }) :
    wpAny (model prog w) A (newList []) (fun acc s₃ => wpAny (model prog w) A (newFunctionEnv scope env.globals cl [] env.qual none .none (some env)) (fun cenv s₄ =>
      codeAny (model prog w) A (.compStart (.ListComp elt [⟨.Name x px, iter, [], 0⟩] scope pos) 0 (.ref I) acc { cenv with scope := relabel scope env }) (RR acc cenv.locals) s₄) E s₃) E s₂ := by
  refine wpAny_newObj_type (wpAny_newFunctionEnv hcell (by intro y hy; simp at hy) (fun h₁ hns₁ hsb₁ => ?_) hkind)
  dsimp only at hns₁ hsb₁ ⊢
  generalize hH2 : s₂.heap.push { cls := .type "list", dict := none, data := .seq ([] : List Value).toArray } = H2 at hns₁ hsb₁ ⊢
  have hC : H2.objs.size = s₂.heap.objs.size + 1 := by rw [← hH2, Heap.size_push]
  have hDC : s₂.heap.objs.size ≠ H2.objs.size := by rw [hC]; exact Nat.ne_of_lt (Nat.lt_succ_self _)
  have below : ∀ b, b < s₂.heap.objs.size → b ≠ H2.objs.size ∧ b ≠ s₂.heap.objs.size := fun b hb => ⟨by rw [hC]; exact Nat.ne_of_lt (Nat.lt_succ_of_lt hb), Nat.ne_of_lt hb⟩
  have hDf : s₂.heap.objs.size ∉ fp := fun hm => Nat.lt_irrefl _ (hfp _ hm)
  have hCf : H2.objs.size ∉ fp := fun hm => by have := hfp _ hm; rw [hC] at this; exact Nat.lt_irrefl _ (Nat.lt_of_succ_lt this)
  have hLlt : L < s₂.heap.objs.size := by obtain ⟨o, ho⟩ := hLs; exact Heap.lt_size ho
  have old : ∀ b o, s₂.heap.get? b = some o → h₁.get? b = some o := fun b o e => hsb₁.extBut b o (below b (Heap.lt_size e)).1 (Heap.get?_push_of_some _ (hH2 ▸ Heap.get?_push_of_some _ e))
  have hacc : h₁.PlainList s₂.heap.objs.size #[] := ⟨_, hsb₁.extBut _ _ hDC (Heap.get?_push_of_some _ (hH2 ▸ Heap.get?_push_size _ rfl))⟩
  have hst₁ : St 0 h₁ := W.frame _ _ _ hst fun b _ o e => old b o e
  have fresh : ∀ a, s₂.heap.objs.size ≤ a → s₂.heap.get? a = none := fun a ha => by
    cases e : s₂.heap.get? a with
    | none => rfl
    | some o' => exact absurd (Heap.lt_size e) (Nat.not_lt.mpr ha)
  have loop : ∀ s₃ : Shared, s₃ = { s₂ with heap := h₁, toks := s₂.toks + ([] : List (Str × Value)).length } →
      codeAny (model prog w) A (.compLoop (.ListComp elt [⟨.Name x px, iter, [], 0⟩] scope pos) 0 (.ref I) (.ref s₂.heap.objs.size) (compEnvC scope cl H2.objs.size env))
        (RR (.ref s₂.heap.objs.size) H2.objs.size) s₃ := by
    rintro s₃ rfl
    refine comp_loopG (L := L) (hsz := hsz) (cenv := compEnvC scope cl H2.objs.size env) W Res hmono hlive (lookup_relabel_local hx) (by simp [compEnvC, relabel, hkind]) hDC hDf hCf (Ne.symm (below L hLlt).1) (Ne.symm (below L hLlt).2) hLf hst₁ hacc hns₁
      (fun i v s₃ m₃ hi hv hn hm hk hkL => helt _ i v s₃ m₃ _ hi hv hn hm (fun b o hbf hbL e => hk b o (below b (Heap.lt_size e)).1 hbf (below b (Heap.lt_size e)).2 hbL (old b o e)) fun o e => hkL o (old _ o e)) (fun h' tk m' ys all hn hpl hlen hF hA hk hkL => ?_)
      (hLs := by obtain ⟨o, ho⟩ := hLs; exact ⟨o, old _ _ ho⟩)
    refine hRR _ _ h' tk m' ys all (fresh _ (Nat.le_refl _)) (fresh _ (by rw [hC]; exact Nat.le_succ _)) hDC hn hpl hlen hF (fun p hp => ?_) (fun b o hbf hbL e =>
      hk b o (below b (Heap.lt_size e)).1 hbf (below b (Heap.lt_size e)).2 hbL (old b o e)) fun o e => hkL o (old _ o e)
    obtain ⟨h1, h2, h3, h4, h5⟩ := hA p hp
    refine ⟨h1, ?_, h3, h5⟩
    cases e : s₂.heap.get? p.1 with
    | none => rfl
    | some o => rw [old _ o e] at h2; cases h2
  exact codeAny_compStart_list (loop _ rfl) (W.self 0 _ _ _ hst₁ (loop _ rfl))
end

section
variable {prog : Program} {w : World} {A : Around} {E : Value → Shared → Prop} {env : Env}

/-- what is asked behind the source of a comprehension -/
def CG (prog : Program) (w : World) (A : Around) (env : Env) (scope : Scope) (cl : List (Str × Addr)) (x : Str) (elt : Expr) (Q : Value → Shared → Prop) (it : Value) (s₂ : Shared) : Prop :=
  ∃ (L : Addr) (Res : Nat → Led → Value → Prop) (I : Addr) (fp wr : List Addr) (n : Nat) (P : Nat → Value → Prop) (St : Nat → Heap → Prop), it = .ref I ∧ Walks prog w A I fp wr n P St ∧ n ≤ sizeLine ∧
    (∀ i a b y, (∀ p ∈ a, p ∈ b) → Res i a y → Res i b y) ∧ (∀ i h, St i h → ∀ b ∈ wr, ∃ o, h.get? b = some o) ∧ St 0 s₂.heap ∧ (∀ b ∈ fp, b < s₂.heap.objs.size) ∧ L ∉ fp ∧ (∃ o, s₂.heap.get? L = some o) ∧
    (∀ C i v s₃ m₃ E', i < n → P i v → s₃.heap.Ns C m₃ → m₃ x = some v → (∀ b o, b ∉ wr → b ≠ L → s₂.heap.get? b = some o → s₃.heap.get? b = some o) → (∀ o, s₂.heap.get? L = some o → ∃ sl, s₃.heap.get? L = some { o with slots := sl }) →
      wpAny (model prog w) A (eval elt (compEnvC scope cl C env)) (EltPost L (Res i) s₃) E' s₃) ∧
    (∀ D h' tk ys all k, s₂.heap.get? D = none → h'.get? D = some (listOf ys k) → ys.size = n → (∀ i y, ys[i]? = some y → Res i all y) →
      (∀ p ∈ all, h'.get? p.1 = some p.2 ∧ s₂.heap.get? p.1 = none ∧ p.1 ≠ D) →
      (∀ b o, b ∉ wr → b ≠ L → s₂.heap.get? b = some o → h'.get? b = some o) → (∀ o, s₂.heap.get? L = some o → ∃ sl, h'.get? L = some { o with slots := sl }) → Q (.ref D) { s₂ with heap := h', toks := tk })

theorem comp_evalG {s : Shared} {elt iter : Expr} {x : Str} {px : Pos} {scope : Scope} {cl : List (Str × Addr)} {pos : Pos} {Q : Value → Shared → Prop}
    (hclos : closureFor scope env = pure cl) (hcell : ∀ y ∈ scope.names, y.2 ≠ .cell) (hkind : scope.kind = .function)
    (hnames : ∀ y ∈ scope.names, y.2 = .local → scope.names.lookup y.1 = some .local) (hx : scope.names.lookup x = some .local)
    (hs : ∀ x, foldedSetIterable iter env x = pure x)
    (h : wpAny (model prog w) A (eval iter env) (fun xv s₁ => wpAny (model prog w) A (pyIter xv) (fun it s₂ => CG prog w A env scope cl x elt Q it s₂) E s₁) E s) :
    wpAny (model prog w) A (eval (.ListComp elt [⟨.Name x px, iter, [], 0⟩] scope pos) env) Q E s := by
  rw [eval_ListComp]
  refine wpAny_comprehension_free (use := none) rfl hs hclos hkind hnames (wpAny_mono h (fun xv s₁ h₁ => wpAny_mono h₁ (fun it s₂ h₂ => ?_) fun _ _ e => e) fun _ _ e => e)
  obtain ⟨L, Res, I, fp, wr, n, P, St, rfl, W, hsz, hmono, hlive, hst, hfp, hLf, hLs, helt, hQ⟩ := h₂
  refine comp_blockG (RR := fun acc C => compPost (model prog w) A E none Q acc C) W hsz Res hmono hlive hLf hLs hcell hkind hx hst hfp helt ?_
  intro D C h' tk m' ys all hD hC hDC hn hpl hlen hF hA hk hkL
  refine ⟨m', hn, fun h'' hs'' => ?_⟩
  obtain ⟨k, hpl'⟩ := hpl.extBut hs''.extBut hDC
  refine hQ D h'' tk ys all k hD hpl' hlen hF (fun p hp => ?_) (fun b o hbf hbL e => hs''.extBut b o (by rintro rfl; rw [hC] at e; cases e) (hk b o hbf hbL e)) fun o e => ?_
  · obtain ⟨h1, h2, h3, h4⟩ := hA p hp
    exact ⟨hs''.extBut _ _ h3 h1, h2, h4⟩
  · obtain ⟨sl, hs⟩ := hkL o e
    exact ⟨sl, hs''.extBut _ _ (by rintro rfl; rw [hC] at e; cases e) hs⟩

def CGA (prog : Program) (w : World) (A : Around) (env : Env) (scope : Scope) (cl : List (Str × Addr)) (x y : Str) (elt : Expr) (Q : Flow → Shared → Prop) (it : Value) (s₂ : Shared) : Prop :=
  ∃ (Res : Nat → Led → Value → Prop) (I : Addr) (fp wr : List Addr) (n : Nat) (P : Nat → Value → Prop) (St : Nat → Heap → Prop) (m : Str → Option Value), it = .ref I ∧ Walks prog w A I fp wr n P St ∧ n ≤ sizeLine ∧
    (∀ i a b y, (∀ p ∈ a, p ∈ b) → Res i a y → Res i b y) ∧ (∀ i h, St i h → ∀ b ∈ wr, ∃ o, h.get? b = some o) ∧ St 0 s₂.heap ∧ (∀ b ∈ fp, b < s₂.heap.objs.size) ∧
    env.locals ∉ fp ∧ s₂.heap.Ns env.locals m ∧
    (∀ C i v s₃ m₃ E', i < n → P i v → s₃.heap.Ns C m₃ → m₃ x = some v → (∀ b o, b ∉ wr → b ≠ env.locals → s₂.heap.get? b = some o → s₃.heap.get? b = some o) → (∀ o, s₂.heap.get? env.locals = some o → ∃ sl, s₃.heap.get? env.locals = some { o with slots := sl }) →
      wpAny (model prog w) A (eval elt (compEnvC scope cl C env)) (EltPost env.locals (Res i) s₃) E' s₃) ∧
    (∀ D h' tk ys all k, s₂.heap.get? D = none → h'.get? D = some (listOf ys k) → ys.size = n → (∀ i y, ys[i]? = some y → Res i all y) →
      (∀ p ∈ all, h'.get? p.1 = some p.2 ∧ s₂.heap.get? p.1 = none ∧ p.1 ≠ D) →
      h'.Ns env.locals (fun z => if z = y then some (.ref D) else m z) → (∀ b o, b ≠ env.locals → b ∉ wr → s₂.heap.get? b = some o → h'.get? b = some o) → Q .next { s₂ with heap := h', toks := tk })

theorem comp_assignG {s : Shared} {elt iter : Expr} {x y : Str} {px py : Pos} {scope : Scope} {cl : List (Str × Addr)} {pos spos : Pos} {Q : Flow → Shared → Prop}
    (hsw : swapsWith (.ListComp elt [⟨.Name x px, iter, [], 0⟩] scope pos) (some (.Name y py)) spos.line env = pure true)
    (hclos : closureFor scope env = pure cl) (hcell : ∀ z ∈ scope.names, z.2 ≠ .cell) (hkind : scope.kind = .function)
    (hnames : ∀ z ∈ scope.names, z.2 = .local → scope.names.lookup z.1 = some .local) (hx : scope.names.lookup x = some .local)
    (hy : env.kindOf y = some .local) (hp : (env.scope.kind == .class || (env.scope.kind == .module && env.locals != env.globals)) = false)
    (hs : ∀ x, foldedSetIterable iter env x = pure x)
    (h : wpAny (model prog w) A (eval iter env) (fun xv s₁ => wpAny (model prog w) A (pyIter xv) (fun it s₂ => CGA prog w A env scope cl x y elt Q it s₂) E s₁) E s) :
    wpAny (model prog w) A (exec (.Assign [.Name y py] (.ListComp elt [⟨.Name x px, iter, [], 0⟩] scope pos) spos) env) Q E s := by
  rw [exec_Assign_Name_used _ _ _ _ hsw]
  refine wpAny_bind (wpAny_standAt (wpAny_bind ?_))
  show wpAny _ A (do let _ ← comprehension (.ListComp elt [⟨.Name x px, iter, [], 0⟩] scope pos) scope env _ (newList []) false (eval iter env) (some (assign (.Name y py) env))) _ _ s
  refine wpAny_bind (wpAny_mono (wpAny_comprehension_free (use := some (assign (.Name y py) env)) (Q := fun _ s' => Q .next s') rfl hs hclos hkind hnames
    (wpAny_mono h (fun xv s₁ h₁ => wpAny_mono h₁ (fun it s₂ h₂ => ?_) fun _ _ e => e) fun _ _ e => e)) (fun _ s' hq => wpAny_pure (wpAny_pure hq)) fun _ _ e => e)
  obtain ⟨Res, I, fp, wr, n, P, St, m, rfl, W, hsz, hmono, hlive, hst, hfp, hLf, hn, helt, hQ⟩ := h₂
  refine comp_blockG (L := env.locals) (RR := fun acc C => compPost (model prog w) A E (some (assign (.Name y py) env)) (fun _ s' => Q .next s') acc C) W hsz Res hmono hlive hLf (by obtain ⟨o, _, _, ho, _⟩ := hn; exact ⟨o, ho⟩) hcell hkind hx hst hfp helt ?_
  intro D C h' tk m' ys all hD hC hDC hnC hplD hlen hF hA hk hkL
  have hLC : env.locals ≠ C := by rintro rfl; obtain ⟨o, _, _, ho, _⟩ := hn; rw [hC] at ho; cases ho
  have hLD : env.locals ≠ D := by rintro rfl; obtain ⟨o, _, _, ho, _⟩ := hn; rw [hD] at ho; cases ho
  have hnL : h'.Ns env.locals m := by
    obtain ⟨o, es, ep, ho, hd, r⟩ := hn
    obtain ⟨sl, hs⟩ := hkL o ho
    exact ⟨_, es, ep, hs, hd, r⟩
  show wpAny _ A (assign (.Name y py) env (.ref D)) _ _ _
  refine wpAny_assign_Name (wpAny_storeName_local hy hnL (fun h₂ hn₂ hs₂ => ?_) hp)
  refine ⟨m', hnC.sameBut hs₂ (Ne.symm hLC), fun h₃ hs₃ => ?_⟩
  obtain ⟨k, hpl'⟩ := (hplD.extBut hs₂.extBut (Ne.symm hLD)).extBut hs₃.extBut hDC
  refine hQ D h₃ _ ys all k hD hpl' hlen hF (fun p hp => ?_) (hn₂.sameBut hs₃ hLC) fun b o hbL hbf e =>
    hs₃.extBut b o (by rintro rfl; rw [hC] at e; cases e) (hs₂.extBut b o hbL (hk b o hbf hbL e))
  obtain ⟨h1, h2, h3, h4⟩ := hA p hp
  have hL' : p.1 ≠ env.locals := fun q => by obtain ⟨o, _, _, ho, _⟩ := hn; rw [q, ho] at h2; cases h2
  exact ⟨hs₃.extBut _ _ h3 (hs₂.extBut _ _ hL' h1), h2, h4⟩
end

section
variable {prog : Program} {w : World} {A : Around} {E : Value → Shared → Prop} {env : Env}

theorem ne_of_absent {h : Heap} {a b : Addr} {o : Obj} (ha : h.get? a = none) (hb : h.get? b = some o) : a ≠ b := fun q => by rw [q, hb] at ha; cases ha

theorem new_off {h₀ : Heap} {L : Addr} {m : Str → Option Value} {h h' : Heap} (F : Fr h₀ L h m) (p : Addr × Obj) (h1 : h'.get? p.1 = some p.2) (h2 : h.get? p.1 = none) : h'.get? p.1 = some p.2 ∧ p.1 ≠ L ∧ h₀.get? p.1 = none := by
  refine ⟨h1, ?_, ?_⟩
  · obtain ⟨oL, _, _, hL, _⟩ := F.ns
    exact ne_of_absent h2 hL
  · cases q : h₀.get? p.1 with
    | none => rfl
    | some o => rw [F.keep _ _ q] at h2; cases h2

/-- the wanted end of a comprehension, told by the ledger -/
def CDone (h₀ : Heap) (L : Addr) (m : Str → Option Value) (news : Led) (s : Shared) (Res : Nat → Led → Value → Prop) (n : Nat) (Q : Value → Shared → Prop) : Prop :=
  ∀ D h' tk (ys : List Value) all k, Fr h₀ L h' m → News h₀ L h' ((D, listOf ys.toArray k) :: (all ++ news)) → (∀ p ∈ (D, listOf ys.toArray k) :: all, s.heap.get? p.1 = none) → (∀ p ∈ all, p.1 ≠ D) → UpT L s.heap h' →
    ys.length = n → (∀ i y, ys[i]? = some y → Res i all y) → Q (.ref D) { s with heap := h', toks := tk }
def CDoneA (h₀ : Heap) (L : Addr) (m : Str → Option Value) (news : Led) (s : Shared) (z : Str) (Res : Nat → Led → Value → Prop) (n : Nat) (Q : Flow → Shared → Prop) : Prop :=
  ∀ D h' tk (ys : List Value) all k, Fr h₀ L h' (fun y => if y = z then some (.ref D) else m y) → News h₀ L h' ((D, listOf ys.toArray k) :: (all ++ news)) → (∀ p ∈ (D, listOf ys.toArray k) :: all, s.heap.get? p.1 = none) → (∀ p ∈ all, p.1 ≠ D) →
    ys.length = n → (∀ i y, ys[i]? = some y → Res i all y) → Q .next { s with heap := h', toks := tk }

theorem cg_of {h₀ : Heap} {L : Addr} {m : Str → Option Value} {news : Led} {s s₂ : Shared} {scope : Scope} {cl : List (Str × Addr)} {x : Str} {elt : Expr} {Q : Value → Shared → Prop} {I : Addr} {fp wr : List Addr} {n : Nat} {P : Nat → Value → Prop} {St : Nat → Heap → Prop}
    (Res : Nat → Led → Value → Prop) (W : Walks prog w A I fp wr n P St) (hsz : n ≤ sizeLine)
    (hmono : ∀ i a b y, (∀ p ∈ a, p ∈ b) → Res i a y → Res i b y) (hlive : ∀ i h, St i h → ∀ b ∈ wr, ∃ o, h.get? b = some o) (hst : St 0 s₂.heap) (hfp : ∀ b ∈ fp, b < s₂.heap.objs.size)
    (hs₂ : ∃ h tk, s₂ = { s with heap := h, toks := tk } ∧ Up s.heap h) (hwr : ∀ b ∈ wr, s.heap.get? b = none) (hLf : L ∉ fp) (F : Fr h₀ L s.heap m) (N : News h₀ L s.heap news)
    (helt : ∀ C i v s₃ m₃ E', i < n → P i v → s₃.heap.Ns C m₃ → m₃ x = some v → UpT L s.heap s₃.heap →
      wpAny (model prog w) A (eval elt (compEnvC scope cl C env)) (EltPost L (Res i) s₃) E' s₃)
    (done : CDone h₀ L m news s Res n Q) : CG prog w A env scope cl x elt Q (.ref I) s₂ := by
  obtain ⟨h₂, tk₂, rfl, up⟩ := hs₂
  have old : ∀ b o, s.heap.get? b = some o → b ∉ wr := fun b o e hb => by rw [hwr b hb] at e; cases e
  have hLs : ∃ o, h₂.get? L = some o := by obtain ⟨o, _, _, ho, _⟩ := F.ns; exact ⟨o, up _ _ ho⟩
  refine ⟨L, Res, I, fp, wr, n, P, St, rfl, W, hsz, hmono, hlive, hst, hfp, hLf, hLs, fun C i v s₃ m₃ E' hi hP hn hm hk hkL => helt C i v s₃ m₃ E' hi hP hn hm ⟨fun b o hbL e => hk b o (old b o e) hbL (up b o e), fun o e => hkL o (up _ o e)⟩, ?_⟩
  intro D h' tk ys all k hD hD' hlen hF hA hk hkL
  have up' : UpT L s.heap h' := ⟨fun b o hbL e => hk b o (old b o e) hbL (up b o e), fun o e => hkL o (up _ o e)⟩
  have back : ∀ b, h₂.get? b = none → s.heap.get? b = none := fun b e => by
    cases q : s.heap.get? b with
    | none => rfl
    | some o => rw [up _ _ q] at e; cases e
  refine done D h' tk ys.toList all k (up'.fr F) (fun p hp => ?_) (fun p hp => ?_) (fun p hp => (hA p hp).2.2) up' (by simpa using hlen) (fun i y hy => hF i y (by simpa using hy))
  · rcases List.mem_cons.mp hp with rfl | hp
    · exact new_off F _ hD' (back _ hD)
    · rcases List.mem_append.mp hp with hp | hp
      · exact new_off F p (hA p hp).1 (back _ (hA p hp).2.1)
      · exact up'.news N p hp
  · rcases List.mem_cons.mp hp with rfl | hp
    · exact back _ hD
    · exact back _ (hA p hp).2.1

theorem cga_of {h₀ : Heap} {L : Addr} {m : Str → Option Value} {news : Led} {s s₂ : Shared} {scope : Scope} {cl : List (Str × Addr)} {x z : Str} {elt : Expr} {Q : Flow → Shared → Prop} {I : Addr} {fp wr : List Addr} {n : Nat} {P : Nat → Value → Prop} {St : Nat → Heap → Prop}
    (Res : Nat → Led → Value → Prop) (W : Walks prog w A I fp wr n P St) (hsz : n ≤ sizeLine)
    (hmono : ∀ i a b y, (∀ p ∈ a, p ∈ b) → Res i a y → Res i b y) (hlive : ∀ i h, St i h → ∀ b ∈ wr, ∃ o, h.get? b = some o) (hst : St 0 s₂.heap) (hfp : ∀ b ∈ fp, b < s₂.heap.objs.size)
    (hs₂ : ∃ h tk, s₂ = { s with heap := h, toks := tk } ∧ Up s.heap h) (hwr : ∀ b ∈ wr, s.heap.get? b = none) (hLf : L ∉ fp) (hL : env.locals = L) (F : Fr h₀ L s.heap m) (N : News h₀ L s.heap news)
    (helt : ∀ C i v s₃ m₃ E', i < n → P i v → s₃.heap.Ns C m₃ → m₃ x = some v → UpT L s.heap s₃.heap →
      wpAny (model prog w) A (eval elt (compEnvC scope cl C env)) (EltPost L (Res i) s₃) E' s₃)
    (done : CDoneA h₀ L m news s z Res n Q) : CGA prog w A env scope cl x z elt Q (.ref I) s₂ := by
  subst hL
  obtain ⟨h₂, tk₂, rfl, up⟩ := hs₂
  have old : ∀ b o, s.heap.get? b = some o → b ∉ wr := fun b o e hb => by rw [hwr b hb] at e; cases e
  have F₂ := F.keeps up
  refine ⟨Res, I, fp, wr, n, P, St, m, rfl, W, hsz, hmono, hlive, hst, hfp, hLf, F₂.ns, fun C i v s₃ m₃ E' hi hP hn hm hk hkL => helt C i v s₃ m₃ E' hi hP hn hm ⟨fun b o hbL e => hk b o (old b o e) hbL (up b o e), fun o e => hkL o (up _ o e)⟩, ?_⟩
  intro D h' tk ys all k hD hD' hlen hF hA hns hk
  have up' : ∀ b o, b ≠ env.locals → s.heap.get? b = some o → h'.get? b = some o := fun b o hb e => hk b o hb (old b o e) (up b o e)
  have back : ∀ b, h₂.get? b = none → s.heap.get? b = none := fun b e => by
    cases q : s.heap.get? b with
    | none => rfl
    | some o => rw [up _ _ q] at e; cases e
  refine done D h' tk ys.toList all k ⟨hns, fun b o e => up' b o (Nat.ne_of_lt (Nat.lt_of_lt_of_le (Heap.lt_size e) F.above)) (F.keep b o e), F.above⟩ (fun p hp => ?_) (fun p hp => ?_) (fun p hp => (hA p hp).2.2) (by simpa using hlen) (fun i y hy => hF i y (by simpa using hy))
  · rcases List.mem_cons.mp hp with rfl | hp
    · exact new_off F _ hD' (back _ hD)
    · rcases List.mem_append.mp hp with hp | hp
      · exact new_off F p (hA p hp).1 (back _ (hA p hp).2.1)
      · exact ⟨up' _ _ (N p hp).2.1 (N p hp).1, (N p hp).2⟩
  · rcases List.mem_cons.mp hp with rfl | hp
    · exact back _ hD
    · exact back _ (hA p hp).2.1

theorem new_size (h : Heap) : h.get? h.objs.size = none := by
  cases e : h.get? h.objs.size with
  | none => rfl
  | some o => exact absurd (Heap.lt_size e) (Nat.lt_irrefl _)
theorem fr_ne_size {h₀ h : Heap} {L : Addr} {m : Str → Option Value} (F : Fr h₀ L h m) : L ≠ h.objs.size := Nat.ne_of_lt F.ns.lt
/-- a list is no frame's table -/
theorem fr_ne_list {h₀ h : Heap} {L l : Addr} {m : Str → Option Value} {vs : Array Value} (F : Fr h₀ L h m) (hl : h.IsList l vs) : L ≠ l := by
  rintro rfl
  obtain ⟨o, _, _, ho, hd, _⟩ := F.ns
  obtain ⟨o', ho', _, _, hd'⟩ := hl
  rw [ho] at ho'; cases ho'
  rw [hd] at hd'; cases hd'
theorem fr_ne_tuple {h₀ h : Heap} {L l : Addr} {m : Str → Option Value} {vs : Array Value} (F : Fr h₀ L h m) (hl : h.IsTuple l vs) : L ≠ l := by
  rintro rfl
  obtain ⟨o, _, _, ho, hd, _⟩ := F.ns
  obtain ⟨o', ho', _, _, hd'⟩ := hl
  rw [ho] at ho'; cases ho'
  rw [hd] at hd'; cases hd'

section
variable {h₀ : Heap} {L : Addr} {m : Str → Option Value} {news : Led} {s : Shared} {scope : Scope} {cl : List (Str × Addr)} {x z : Str} {elt : Expr}

/-- over a list -/
theorem cg_list {Q : Value → Shared → Prop} {l : Addr} {vs : List Value} (Res : Nat → Led → Value → Prop)
    (hh : A.handled = none) (hl : s.heap.IsList l vs.toArray) (hsz : vs.length ≤ sizeLine) (hmono : ∀ i a b y, (∀ p ∈ a, p ∈ b) → Res i a y → Res i b y) (F : Fr h₀ L s.heap m) (N : News h₀ L s.heap news)
    (helt : ∀ C i v s₃ m₃ E', vs[i]? = some v → s₃.heap.Ns C m₃ → m₃ x = some v → UpT L s.heap s₃.heap → Fr h₀ L s₃.heap m → News h₀ L s₃.heap news →
      wpAny (model prog w) A (eval elt (compEnvC scope cl C env)) (EltPost L (Res i) s₃) E' s₃)
    (done : CDone h₀ L m news s Res vs.length Q) : wpAny (model prog w) A (pyIter (.ref l)) (fun it s₂ => CG prog w A env scope cl x elt Q it s₂) E s := by
  have hlt : l < s.heap.objs.size := by obtain ⟨_, e, _⟩ := id hl; exact Heap.lt_size e
  refine wpAny_pyIter_list hl ?_
  refine cg_of Res (Walks.list hh _ l (Nat.ne_of_lt hlt) vs.toArray) (by simpa using hsz) hmono ?_ ⟨⟨_, Heap.get?_push_size _ rfl, rfl, rfl⟩, hl.at fun o e => Heap.get?_push_of_some _ e⟩ ?_ ⟨_, _, rfl, fun b o e => Heap.get?_push_of_some _ e⟩ ?_ ?_ F N
    (fun C i v s₃ m₃ E' hi hP hn hm hu => helt C i v s₃ m₃ E' (by simpa using hP) hn hm hu (hu.fr F) (hu.news N)) (by simpa using done)
  · rintro i h ⟨⟨o, ho, _⟩, _⟩ b hb
    rw [List.mem_singleton.mp hb]; exact ⟨_, ho⟩
  · intro b hb
    show b < (s.heap.push _).objs.size
    rw [Heap.size_push]
    rcases List.mem_cons.mp hb with rfl | hb
    · exact Nat.lt_succ_self _
    · rw [List.mem_singleton.mp hb]; exact Nat.lt_succ_of_lt hlt
  · intro b hb
    rw [List.mem_singleton.mp hb]; exact new_size _
  · intro hb
    rcases List.mem_cons.mp hb with e | hb
    · exact fr_ne_size F e
    · exact fr_ne_list F hl (List.mem_singleton.mp hb)

theorem cga_list {Q : Flow → Shared → Prop} {l : Addr} {vs : List Value} (Res : Nat → Led → Value → Prop)
    (hh : A.handled = none) (hl : s.heap.IsList l vs.toArray) (hsz : vs.length ≤ sizeLine) (hmono : ∀ i a b y, (∀ p ∈ a, p ∈ b) → Res i a y → Res i b y) (hL : env.locals = L) (F : Fr h₀ L s.heap m) (N : News h₀ L s.heap news)
    (helt : ∀ C i v s₃ m₃ E', vs[i]? = some v → s₃.heap.Ns C m₃ → m₃ x = some v → UpT L s.heap s₃.heap → Fr h₀ L s₃.heap m → News h₀ L s₃.heap news →
      wpAny (model prog w) A (eval elt (compEnvC scope cl C env)) (EltPost L (Res i) s₃) E' s₃)
    (done : CDoneA h₀ L m news s z Res vs.length Q) : wpAny (model prog w) A (pyIter (.ref l)) (fun it s₂ => CGA prog w A env scope cl x z elt Q it s₂) E s := by
  have hlt : l < s.heap.objs.size := by obtain ⟨_, e, _⟩ := id hl; exact Heap.lt_size e
  refine wpAny_pyIter_list hl ?_
  refine cga_of Res (Walks.list hh _ l (Nat.ne_of_lt hlt) vs.toArray) (by simpa using hsz) hmono ?_ ⟨⟨_, Heap.get?_push_size _ rfl, rfl, rfl⟩, hl.at fun o e => Heap.get?_push_of_some _ e⟩ ?_ ⟨_, _, rfl, fun b o e => Heap.get?_push_of_some _ e⟩ ?_ ?_ hL F N
    (fun C i v s₃ m₃ E' hi hP hn hm hu => helt C i v s₃ m₃ E' (by simpa using hP) hn hm hu (hu.fr F) (hu.news N)) (by simpa using done)
  · rintro i h ⟨⟨o, ho, _⟩, _⟩ b hb
    rw [List.mem_singleton.mp hb]; exact ⟨_, ho⟩
  · intro b hb
    show b < (s.heap.push _).objs.size
    rw [Heap.size_push]
    rcases List.mem_cons.mp hb with rfl | hb
    · exact Nat.lt_succ_self _
    · rw [List.mem_singleton.mp hb]; exact Nat.lt_succ_of_lt hlt
  · intro b hb
    rw [List.mem_singleton.mp hb]; exact new_size _
  · intro hb
    rcases List.mem_cons.mp hb with e | hb
    · exact fr_ne_size F e
    · exact fr_ne_list F hl (List.mem_singleton.mp hb)

/-- over a range -/
theorem cg_range {Q : Value → Shared → Prop} {r : Addr} {a b c : Int} {t₀ u₀ v₀ : Tok} {n : Nat} (Res : Nat → Led → Value → Prop)
    (hh : A.handled = none) (hr : IsRange s.heap r a b c t₀ u₀ v₀) (hsmall : Builtin.Range.small a b c = true) (hn : Builtin.Range.rangeSize a b c = (n : Int)) (hsz : n ≤ sizeLine) (hmono : ∀ i a b y, (∀ p ∈ a, p ∈ b) → Res i a y → Res i b y) (F : Fr h₀ L s.heap m) (N : News h₀ L s.heap news)
    (helt : ∀ C (i : Nat) t s₃ m₃ E', i < n → s₃.heap.Ns C m₃ → m₃ x = some (.int (a + i * c) t) → UpT L s.heap s₃.heap → Fr h₀ L s₃.heap m → News h₀ L s₃.heap news →
      wpAny (model prog w) A (eval elt (compEnvC scope cl C env)) (EltPost L (Res i) s₃) E' s₃)
    (done : CDone h₀ L m news s Res n Q) : wpAny (model prog w) A (pyIter (.ref r)) (fun it s₂ => CG prog w A env scope cl x elt Q it s₂) E s := by
  refine wpAny_pyIter_range hr hsmall ?_
  refine cg_of Res (Walks.range hh _ a c n) hsz hmono ?_ (by show IsRangeIter _ _ _ _ _; rw [hn]; simpa using Heap.get?_push_size _ rfl) ?_ ⟨_, _, rfl, fun b o e => Heap.get?_push_of_some _ e⟩ ?_ ?_ F N
    (fun C i v s₃ m₃ E' hi hP hn hm hu => by obtain ⟨t, rfl⟩ := hP; exact helt C i t s₃ m₃ E' hi hn hm hu (hu.fr F) (hu.news N)) done
  · intro i h hi b hb
    rw [List.mem_singleton.mp hb]; exact ⟨_, hi⟩
  · intro b hb
    show b < (s.heap.push _).objs.size
    rw [Heap.size_push, List.mem_singleton.mp hb]
    exact Nat.lt_succ_self _
  · intro b hb
    rw [List.mem_singleton.mp hb]; exact new_size _
  · intro hb
    exact fr_ne_size F (List.mem_singleton.mp hb)
end

section
variable {M : Model} {s : Shared} {scope : Scope} {cl : List (Str × Addr)} {C : Addr} {x : Str} {pos : Pos} {v : Value} {Q : Value → Shared → Prop} {m₃ : Str → Option Value}
/-- a comprehension's own name -/
theorem nameC_L (hn : s.heap.Ns C m₃) (hv : m₃ x = some v) (hk : scope.kind = .function) (hx : (compEnvC scope cl C env).kindOf x = some .local) (hd : (x == ("__debug__" : Str)) = false) (h : Q v s) :
    wpAny M A (eval (.Name x pos) (compEnvC scope cl C env)) Q E s := wpAny_Name (wpAny_loadName_local (env := compEnvC scope cl C env) hk hx hn hv h) hd
/-- a name that the comprehension reads out of the frame's cells -/
theorem nameC_F {h₀ : Heap} {L : Addr} {news : Led} {c : Addr} {o : Obj} (N : News h₀ L s.heap news) (hc : cl.lookup x = some c) (hm : (c, o) ∈ news) (hdt : o.data = .cell (some v)) (hk : scope.kind = .function)
    (hx : (compEnvC scope cl C env).kindOf x = some .cell) (hd : (x == ("__debug__" : Str)) = false) (h : Q v s) :
    wpAny M A (eval (.Name x pos) (compEnvC scope cl C env)) Q E s := wpAny_Name (wpAny_loadName_cell (env := compEnvC scope cl C env) hk hx hc ⟨o, N.get hm, hdt⟩ h) hd
end
end
end Mine
end
section
open PySem PySem.W PySem.Spec PySem.Calls PyProof.Rows
set_option Elab.async false
set_option maxRecDepth 100000
set_option maxHeartbeats 8000000
namespace Mine
section
variable {prog : Program} {w : World} {A : Around} {E : Value → Shared → Prop} {env : Env}
variable {h₀ : Heap} {L : Addr} {m : Str → Option Value} {news : Led} {s : Shared} {scope : Scope} {cl : List (Str × Addr)} {x z : Str} {elt : Expr}

/-- over a text, its signs -/
theorem cga_str {Q : Flow → Shared → Prop} {y : Str} {t : Tok} (Res : Nat → Led → Value → Prop)
    (hh : A.handled = none) (hsz : y.cps.size ≤ sizeLine) (hmono : ∀ i a b y, (∀ p ∈ a, p ∈ b) → Res i a y → Res i b y) (hL : env.locals = L) (F : Fr h₀ L s.heap m) (N : News h₀ L s.heap news)
    (helt : ∀ C i c u s₃ m₃ E', y.cps[i]? = some c → s₃.heap.Ns C m₃ → m₃ x = some (.str (S [c]) u) → UpT L s.heap s₃.heap → Fr h₀ L s₃.heap m → News h₀ L s₃.heap news →
      wpAny (model prog w) A (eval elt (compEnvC scope cl C env)) (EltPost L (Res i) s₃) E' s₃)
    (done : CDoneA h₀ L m news s z Res y.cps.size Q) : wpAny (model prog w) A (pyIter (.str y t)) (fun it s₂ => CGA prog w A env scope cl x z elt Q it s₂) E s := by
  cases ha : y.cps.all (· < 128)
  · refine wpAny_pyIter_wide ha ?_
    refine cga_of Res (Walks.strWide hh _ y t) hsz hmono ?_ ⟨_, Heap.get?_push_size _ rfl, rfl, rfl⟩ ?_ ⟨_, _, rfl, fun b o e => Heap.get?_push_of_some _ e⟩ ?_ ?_ hL F N
      (fun C i v s₃ m₃ E' hi hP hn hm hu => by obtain ⟨c, u, hc, rfl⟩ := hP; exact helt C i c u s₃ m₃ E' hc hn hm hu (hu.fr F) (hu.news N)) done
    · rintro i h ⟨o, ho, _⟩ b hb
      rw [List.mem_singleton.mp hb]; exact ⟨_, ho⟩
    · intro b hb
      show b < (s.heap.push _).objs.size
      rw [Heap.size_push, List.mem_singleton.mp hb]; exact Nat.lt_succ_self _
    · intro b hb
      rw [List.mem_singleton.mp hb]; exact new_size _
    · intro hb
      exact fr_ne_size F (List.mem_singleton.mp hb)
  · refine wpAny_pyIter_ascii ha ?_
    refine cga_of Res (Walks.strAscii hh _ y t) hsz hmono ?_ ⟨_, Heap.get?_push_size _ rfl, rfl, rfl⟩ ?_ ⟨_, _, rfl, fun b o e => Heap.get?_push_of_some _ e⟩ ?_ ?_ hL F N
      (fun C i v s₃ m₃ E' hi hP hn hm hu => by obtain ⟨c, u, hc, rfl⟩ := hP; exact helt C i c u s₃ m₃ E' hc hn hm hu (hu.fr F) (hu.news N)) done
    · rintro i h ⟨o, ho, _⟩ b hb
      rw [List.mem_singleton.mp hb]; exact ⟨_, ho⟩
    · intro b hb
      show b < (s.heap.push _).objs.size
      rw [Heap.size_push, List.mem_singleton.mp hb]; exact Nat.lt_succ_self _
    · intro b hb
      rw [List.mem_singleton.mp hb]; exact new_size _
    · intro hb
      exact fr_ne_size F (List.mem_singleton.mp hb)

/-- over bytes -/
theorem cg_bytes {Q : Value → Shared → Prop} {y : Array UInt8} {t : Tok} (Res : Nat → Led → Value → Prop)
    (hh : A.handled = none) (hsz : y.size ≤ sizeLine) (hmono : ∀ i a b y, (∀ p ∈ a, p ∈ b) → Res i a y → Res i b y) (F : Fr h₀ L s.heap m) (N : News h₀ L s.heap news)
    (helt : ∀ C i c u s₃ m₃ E', y[i]? = some c → s₃.heap.Ns C m₃ → m₃ x = some (.int ((c.toNat : Nat) : Int) u) → UpT L s.heap s₃.heap → Fr h₀ L s₃.heap m → News h₀ L s₃.heap news →
      wpAny (model prog w) A (eval elt (compEnvC scope cl C env)) (EltPost L (Res i) s₃) E' s₃)
    (done : CDone h₀ L m news s Res y.size Q) : wpAny (model prog w) A (pyIter (.bytes y t)) (fun it s₂ => CG prog w A env scope cl x elt Q it s₂) E s := by
  refine KBw.pyIter_bytes ?_
  refine cg_of Res (KBw.walks hh _ y t) hsz hmono ?_ ⟨_, Heap.get?_push_size _ rfl, rfl, rfl⟩ ?_ ⟨_, _, rfl, fun b o e => Heap.get?_push_of_some _ e⟩ ?_ ?_ F N
    (fun C i v s₃ m₃ E' hi hP hn hm hu => by obtain ⟨c, u, hc, rfl⟩ := hP; exact helt C i c u s₃ m₃ E' hc hn hm hu (hu.fr F) (hu.news N)) done
  · rintro i h ⟨o, ho, _⟩ b hb
    rw [List.mem_singleton.mp hb]; exact ⟨_, ho⟩
  · intro b hb
    show b < (s.heap.push _).objs.size
    rw [Heap.size_push, List.mem_singleton.mp hb]; exact Nat.lt_succ_self _
  · intro b hb
    rw [List.mem_singleton.mp hb]; exact new_size _
  · intro hb
    exact fr_ne_size F (List.mem_singleton.mp hb)

/-- over a tuple -/
theorem cga_tuple {Q : Flow → Shared → Prop} {l : Addr} {vs : List Value} (Res : Nat → Led → Value → Prop)
    (hh : A.handled = none) (hl : s.heap.IsTuple l vs.toArray) (hsz : vs.length ≤ sizeLine) (hmono : ∀ i a b y, (∀ p ∈ a, p ∈ b) → Res i a y → Res i b y) (hL : env.locals = L) (F : Fr h₀ L s.heap m) (N : News h₀ L s.heap news)
    (helt : ∀ C i v s₃ m₃ E', vs[i]? = some v → s₃.heap.Ns C m₃ → m₃ x = some v → UpT L s.heap s₃.heap → Fr h₀ L s₃.heap m → News h₀ L s₃.heap news →
      wpAny (model prog w) A (eval elt (compEnvC scope cl C env)) (EltPost L (Res i) s₃) E' s₃)
    (done : CDoneA h₀ L m news s z Res vs.length Q) : wpAny (model prog w) A (pyIter (.ref l)) (fun it s₂ => CGA prog w A env scope cl x z elt Q it s₂) E s := by
  have hlt : l < s.heap.objs.size := by obtain ⟨_, e, _⟩ := id hl; exact Heap.lt_size e
  refine wpAny_pyIter_tuple hl ?_
  refine cga_of Res (Walks.tuple hh _ l (Nat.ne_of_lt hlt) vs.toArray) (by simpa using hsz) hmono ?_ ⟨⟨_, Heap.get?_push_size _ rfl, rfl, rfl⟩, hl.at fun o e => Heap.get?_push_of_some _ e⟩ ?_ ⟨_, _, rfl, fun b o e => Heap.get?_push_of_some _ e⟩ ?_ ?_ hL F N
    (fun C i v s₃ m₃ E' hi hP hn hm hu => helt C i v s₃ m₃ E' (by simpa using hP) hn hm hu (hu.fr F) (hu.news N)) (by simpa using done)
  · rintro i h ⟨⟨o, ho, _⟩, _⟩ b hb
    rw [List.mem_singleton.mp hb]; exact ⟨_, ho⟩
  · intro b hb
    show b < (s.heap.push _).objs.size
    rw [Heap.size_push]
    rcases List.mem_cons.mp hb with rfl | hb
    · exact Nat.lt_succ_self _
    · rw [List.mem_singleton.mp hb]; exact Nat.lt_succ_of_lt hlt
  · intro b hb
    rw [List.mem_singleton.mp hb]; exact new_size _
  · intro hb
    rcases List.mem_cons.mp hb with e | hb
    · exact fr_ne_size F e
    · exact fr_ne_tuple F hl (List.mem_singleton.mp hb)
end
end Mine
end
section
open PySem PySem.W PySem.Spec PySem.Calls PyProof.Rows
set_option Elab.async false
set_option maxRecDepth 100000
set_option maxHeartbeats 8000000
namespace Mine
theorem mm_ov {m f : Str → Option Value} {k z : Str} {v : Option Value} (h : m k = v) (r : m z = f z) : m z = (if z = k then v else f z) := by
  by_cases q : z = k
  · rw [if_pos q, q, h]
  · rw [if_neg q]; exact r
theorem mm_ovF {g h : Heap} {L : Addr} {m f : Str → Option Value} {k z : Str} {v : Option Value} (_ : Fr g L h m) (h : m k = v) (r : m z = f z) : m z = (if z = k then v else f z) := mm_ov h r
theorem mm_endF {g h : Heap} {L : Addr} {m : Str → Option Value} (_ : Fr g L h m) (z : Str) : m z = m z := rfl
theorem fr_ov {g h : Heap} {L : Addr} {m : Str → Option Value} (F : Fr g L h m) (k : Str) (v : Option Value) (hv : m k = v) : Fr g L h (fun z => if z = k then v else m z) := by
  have e : m = fun z => if z = k then v else m z := by
    funext z
    exact mm_ov hv rfl
  rw [← e]; exact F
theorem mm_end (m : Str → Option Value) (z : Str) : m z = m z := rfl
theorem truthy_yes {prog : Program} {w : World} {A : Around} {E : Value → Shared → Prop} {s : Shared} {x : Str} {t : Tok} {Q : Bool → Shared → Prop} (h0 : 0 < x.length) (h1 : x.length < 2 ^ 40) (h : Q true { s with toks := s.toks + 1 + 1 }) :
    wpAny (model prog w) A (truthy (.str x t)) Q E s := by
  refine P.truthy_str (by (first | lia | omega)) ?_
  have e : ((x.length : Int) != 0) = true := by
    rw [bne_iff_ne]; (first | lia | omega)
  rw [e]; exact h
theorem truthy_listY {prog : Program} {w : World} {A : Around} {E : Value → Shared → Prop} {s : Shared} {h₀ : Heap} {L l : Addr} {news : Led} {vs : List Value} {nn : Nat} {Q : Bool → Shared → Prop} (N : News h₀ L s.heap news) (hm : (l, listOf vs.toArray nn) ∈ news)
    (h0 : 0 < vs.length) (h1 : vs.length < 2 ^ 40) (h : Q true { s with toks := s.toks + 1 + 1 }) : wpAny (model prog w) A (truthy (.ref l)) Q E s := by
  refine wpAny_truthy_list (News.isList N hm) (by simp only [List.size_toArray]; (first | lia | omega)) ?_
  have e : (!vs.toArray.isEmpty) = true := by
    cases vs with
    | nil => simp at h0
    | cons a r => rfl
  rw [e]; exact h
theorem truthy_listN {prog : Program} {w : World} {A : Around} {E : Value → Shared → Prop} {s : Shared} {h₀ : Heap} {L l : Addr} {news : Led} {vs : List Value} {nn : Nat} {Q : Bool → Shared → Prop} (N : News h₀ L s.heap news) (hm : (l, listOf vs.toArray nn) ∈ news)
    (h0 : vs.length = 0) (h : Q false { s with toks := s.toks + 1 + 1 }) : wpAny (model prog w) A (truthy (.ref l)) Q E s := by
  refine wpAny_truthy_list (News.isList N hm) (by simp only [List.size_toArray]; (first | lia | omega)) ?_
  have e : (!vs.toArray.isEmpty) = false := by
    cases vs with
    | nil => rfl
    | cons a r => simp at h0
  rw [e]; exact h
theorem get_last {prog : Program} {w : World} {A : Around} {E : Value → Shared → Prop} {s : Shared} {h₀ : Heap} {L l : Addr} {news : Led} {vs : List Value} {nn : Nat} {u : Tok} {v : Value} {Q : Value → Shared → Prop} (N : News h₀ L s.heap news) (hm : (l, listOf vs.toArray nn) ∈ news)
    (hv : vs.getLast? = some v) (hz : vs.length < 2 ^ 40) (h : Q v s) : wpAny (model prog w) A (getItem (.ref l) (.int (-1) u)) Q E s := by
  have h0 : 0 < vs.length := by cases vs with | nil => cases hv | cons a r => exact Nat.succ_pos _
  refine wpAny_getItem_list_neg (News.isList N hm) (by decide) (by simp only [List.size_toArray]; (first | lia | omega)) (by decide) ?_ h
  have e : ((-1 : Int) + (vs.toArray.size : Int)).toNat = vs.length - 1 := by simp only [List.size_toArray]; (first | lia | omega)
  rw [e, ← hv, List.getLast?_eq_getElem?]
  simp
theorem sub_last {prog : Program} {w : World} {A : Around} {E : Value → Shared → Prop} {s : Shared} {h₀ : Heap} {L l : Addr} {news : Led} {vs : List Value} {nn : Nat} {u : Tok} {v : Value} {Q : Value → Shared → Prop} {value slice : PySem.Expr} (N : News h₀ L s.heap news) (hm : (l, listOf vs.toArray nn) ∈ news)
    (hv : vs.getLast? = some v) (hz : vs.length < 2 ^ 40) (h : Q v s) (hs : subscripted slice false (.ref l) (.int (-1) u) = operate [.ref l, .int (-1) u] (getItem (.ref l) (.int (-1) u)) := by with_unfolding_all rfl) : wpAny (model prog w) A (subscriptTail value slice (.ref l) (.int (-1) u)) Q E s :=
  tail_any (News.isList N hm).typeIs slot_list_getitem.lookup (get_last N hm hv hz h) hs
theorem kl_last_snoc : ∀ (p : List Value) (y : Value), kl_last (p ++ [y]) = some (p, y)
  | [], _ => rfl
  | x :: p, y => by
    show kl_last (x :: (p ++ [y])) = _
    unfold kl_last
    rw [kl_last_snoc p y]
theorem offTwo {own : Led} {a b : Addr} (h : AllLt a own) (h' : AllLt b own) : OwnOff own [a, b] := fun p hp c hc => by
  rcases List.mem_cons.mp hc with e | hc
  · rw [e]; exact Nat.ne_of_lt (ktn_ltOf h p hp)
  · rw [List.mem_singleton.mp hc]; exact Nat.ne_of_lt (ktn_ltOf h' p hp)
theorem off_keep {own : Led} {a b : Addr} {xs : List Addr} (h : OwnOff own (a :: xs)) (h' : AllLt b own) : OwnOff own (b :: xs) := fun p hp c hc => by
  rcases List.mem_cons.mp hc with e | hc
  · rw [e]; exact Nat.ne_of_lt (ktn_ltOf h' p hp)
  · exact h p hp c (.tail _ hc)
theorem wp_of_peek1U {α : Type} {K : Frag} {M : Model} {A : Around} {E : Value → Shared → Prop} {Q : α → Shared → Prop} {s : Shared} {o : Obj} {r : Addr → α}
    (X : K.In s.heap) (q : Q (r s.heap.objs.size) { s with heap := s.heap.push o }) :
    ∀ (t : Sem α) (g : Addr → Option α), peek1 K ⟨M.prog, M.w.params⟩ t = some (o, g) → (∀ D, g D = some (r D)) → wpAny M A t Q E s := by
  intro t
  induction t with
  | rule _ k ih => intro g e hg Γ p hΓ; exact ih () g e hg Γ p hΓ
  | point _ k ih => intro g e hg Γ p hΓ; exact ih () g e hg Γ p hΓ
  | ask k ih => intro g e hg Γ p hΓ; exact ih _ g e hg Γ p hΓ
  | load a _ k ih =>
    intro g e hg Γ p hΓ
    simp only [peek1] at e
    split at e
    · rename_i ob ho; exact ⟨ob, X _ _ ho, ih ob g e hg Γ p hΓ⟩
    · cases e
  | alloc ob k _ =>
    intro g e hg
    have e : some (ob, fun D => peek K ⟨M.prog, M.w.params⟩ (k D)) = some (o, g) := e
    obtain ⟨e1, e2⟩ := Prod.mk.inj (Option.some.inj e)
    subst e1
    subst e2
    have X' : K.In (s.heap.push ob) := X.keeps fun b x hb => Heap.get?_push_of_some _ hb
    show wpAny M A (alloc ob >>= k) Q E s
    refine wpAny_bind (wpAny_alloc ?_)
    exact (Looks.of_peek (M := M) (h := s.heap.push ob) X' (hg s.heap.objs.size)).here (s := { s with heap := s.heap.push ob }) q
  | _ => intro g e; cases e

theorem get_none (h : Heap) : h.get? h.objs.size = none := by
  cases e : h.get? h.objs.size with
  | none => rfl
  | some o => exact absurd (Heap.lt_size e) (Nat.lt_irrefl _)

/-- entering a def of the text with a rest of arguments -/
theorem PC.ofR {w : World} {mean : ExcName → Option Value} {mg mb : Str → Option Value} {n : Nat} {f : Addr} {vs rest : List Value} {Pre : Heap → Prop} {Res : Led → Value → Prop}
    {name qual : Str} {params : Arguments} {body : List Stmt} {scope : Scope} {dV kV doc pm cdv ct oc : Value} {an od : Option Addr} {osl : Array (Option Value)} (binds : Addr → List (Str × Value)) (g₁ : Addr → Option (List (Str × Value)))
    (_hPre : ∀ h h', Up h h' → Pre h → Pre h')
    (ho : (Mine.hd.heap_39 w.params).lookup f = some ⟨oc, od, .func (fnOf name qual params body scope dV kV doc pm an cdv ct), osl⟩) (hcd : codeIn (Mine.hd.heap_39 w.params) cdv qual = true)
    (hp : peek1 (Mine.hd.heap_39 w.params) ⟨PySem.Challenge.rw_pd0187_01.row.prog, w.params⟩ (bindArgs (fnOf name qual params body scope dV kV doc pm an cdv ct) ⟨vs, []⟩) = some (({ cls := .type "tuple", data := .seq rest.toArray } : Obj), g₁))
    (hg : ∀ D, g₁ D = some (binds D)) (hloc : ∀ D, ∀ y ∈ binds D, scope.names.lookup y.1 = some .local)
    (hco : scope.isCoroutine = false) (hgen : scope.isGenerator = false) (hk : scope.kind = .function)
    (hcell : ∀ x ∈ scope.names, x.2 ≠ .cell)
    (h : ∀ (dp un : Nat) (gd : Option (List Code)) (env : Env) (outer : List Env) (A₁ : Around) (base g : Heap) (L' D : Addr) (s : Shared) (Q : Value → Shared → Prop),
      Below A₁ base (env :: outer) g → Fr g L' s.heap (fun y => (binds D).reverse.lookup y) → (Mine.hd.heap_39 w.params).In g →
      Top Mine.hd.view_39 (looseW Mine.hd.view_39 [Str.ofString "_NO_SEP", Str.ofString "b2a_hex", Str.ofString "hexlify"]) mean mg mb g →
      News g L' s.heap [(D, ({ cls := .type "tuple", data := .seq rest.toArray } : Obj))] → Pre g → dp + n < recursionLimit → un + 20 * n < cLine →
      (∀ r h' tk' m' nw, Fr g L' h' m' → News g L' h' nw → Res nw r → Q r { s with heap := h', toks := tk' }) →
      wpAny (model PySem.Challenge.rw_pd0187_01.row.prog w) (ktrTop dp un gd qual scope L' f cdv [] (env :: outer)) (execs body (envX qual scope L' f cdv []))
        (fun fl s' => Q (match fl with | .ret v => v | _ => .none) s') (fun _ _ => False) s) :
    PC w mean mg mb (n + 1) f vs Pre Res := by
  intro dp un gd cn cs a ccd cl outer A₀ base h₀ L m s Q E B F X T hk' hd hu pre hret
  have N : News h₀ L s.heap [] := News.nil
  refine wpAny_call ?_
  obtain ⟨FG, BG, st, lv⟩ := groundX (R := (fun r s' => match r with | .ok (.ret v) => Q v s' | .ok _ => False | .error e => E e s')) (A := ktrTop dp un gd cn cs L a ccd cl outer) (env := envX cn cs L a ccd cl) (outer := outer) B F N rfl rfl hk'
  refine codeAny_call_function (by show dp < recursionLimit; (first | lia | omega)) ((X.keeps F.keep) _ _ ho) rfl hco hgen rfl (codeRec_of (X.keeps F.keep) hcd) ?_
  refine wp_of_peek1U (r := binds) (X.keeps F.keep) ?_ _ g₁ hp hg
  refine wpAny_newFunctionEnv hcell (hloc _) (fun h₁ hns₁ hsb₁ => ?_) hk
  have up : Up s.heap h₁ := fun b o e => hsb₁.extBut b o (Nat.ne_of_lt (Nat.lt_of_lt_of_le (Heap.lt_size e) (by simp [Heap.size_push]))) (Heap.get?_push_of_some _ (Heap.get?_push_of_some _ e))
  refine ⟨(T.nolimit.keeps F.keep).keeps up, codeAny_func ?_⟩
  have NC : News s.heap (s.heap.push ({ cls := .type "tuple", data := .seq rest.toArray } : Obj)).objs.size h₁ [(s.heap.objs.size, ({ cls := .type "tuple", data := .seq rest.toArray } : Obj))] := fun p hp => by
    rw [List.mem_singleton.mp hp]
    exact ⟨hsb₁.extBut _ _ (by simp [Heap.size_push]) (Heap.get?_push_of_some _ (Heap.get?_push_size _ rfl)), by simp [Heap.size_push], get_none _⟩
  refine wpAny_mono (h (dp + 1) (un + 3) gd (envX cn cs L a ccd cl) outer _ base s.heap _ s.heap.objs.size { s with heap := h₁, toks := s.toks + (binds s.heap.objs.size).length }
    (fun r s' => ∃ m' nw, ∃ h' tk', s' = { s with heap := h', toks := tk' } ∧ Fr s.heap (s.heap.push ({ cls := .type "tuple", data := .seq rest.toArray } : Obj)).objs.size h' m' ∧ News s.heap (s.heap.push ({ cls := .type "tuple", data := .seq rest.toArray } : Obj)).objs.size h' nw ∧ Res nw r)
    BG ⟨hns₁, up, by simp [Heap.size_push]⟩ (X.keeps F.keep) (T.keeps F.keep) NC pre (by (first | lia | omega)) (by (first | lia | omega))
    (fun r h' tk' m' nw F'' N'' R => ⟨m', nw, h', tk', rfl, F'', N'', R⟩)) (fun fl s' hq => ?_) fun _ _ e => e.elim
  obtain ⟨m', nw, h', tk', rfl, F'', N'', R⟩ := hq
  refine lv _ _ (leaveK_ F'' N'' fun FF NN => ?_)
  exact hret _ h' tk' nw F''.keep (fun p hp => ⟨(N'' p hp).1, (N'' p hp).2.2⟩) R

end Mine
end
section
open PySem PySem.W PySem.Spec PySem.Calls PyProof.Rows
set_option Elab.async false
set_option maxRecDepth 100000
set_option maxHeartbeats 8000000
set_option pp.maxSteps 3000
namespace Mine

theorem fspath_str (w : World) (mean : ExcName → Option Value) (mg mb : Str → Option Value) (x : Str) (t : Tok) :
    PC w mean mg mb 2 124 [.str x t] (fun _ => True) (fun nw r => nw = [] ∧ ∃ t', r = .str x t') := by
  w_top off
  k_with_none
  (k_with "call builtin:issubclass" => (k_here; k_dflt (refine' issub_tuple ?kD ?kc ?_; (case kD => exact (News.get (by k_asm) (by k_mem))); (case kc => exact rfl); k_whole)))
  have mFill : ∀ P : Params, (Mine.hd.heap_39 P).In {} → PySem.Challenge.rw_pd0187_01.Holds → True := by
    k_fill
    exact fun _ _ _ => trivial
  clear mFill
  refine' PC.of [(Str.ofString "path", .str x t)] (fun _ _ _ h => h) ?ho ?hcd ?hbind ?hloc ?hco ?hgen ?hk ?hcell ?h
  (case ho => k_is)
  (case hcd => k_is)
  (case hbind => exact fun _ _ => BindsTo.of_eq rfl)
  (case hloc => exact locs rfl)
  (case hco => exact rfl)
  (case hgen => exact rfl)
  (case hk => exact rfl)
  (case hcell => decide)
  case h =>
    intro dp un gd env outer A₁ base g L s Q B F X T N pre hd hu hret
    k_steps
    dsimp only
    exact hret _ _ _ _ [] (by assumption) News.nil ⟨rfl, _, rfl⟩
end Mine
end
section
open PySem PySem.W PySem.Spec PySem.Calls PyProof.Rows
set_option Elab.async false
set_option maxRecDepth 100000
set_option maxHeartbeats 8000000
set_option pp.maxSteps 3000
namespace Mine

theorem small_down (z : Int) (hz : 0 ≤ z) (hz' : z ≤ 100) : Builtin.Range.small (z - 1) (-1) (-1) = true := by
  unfold Builtin.Range.small
  have e : Builtin.Range.rangeSize (z - 1) (-1) (-1) = z := by
    unfold Builtin.Range.rangeSize
    simp only [show ¬ ((-1 : Int) > 0) by decide, if_false]
    split
    · rw [show (-(-1) : Int) = 1 from rfl, Int.ediv_one]; (first | lia | omega)
    · (first | lia | omega)
  rw [e]
  simp only [Builtin.Range.rangeFitsLong, Bool.and_eq_true, decide_eq_true_eq, Bool.or_eq_true, show ¬ ((-1 : Int) > 0) by decide, if_false, beq_iff_eq]
  (first | lia | omega)
theorem size_down (z : Int) (hz : 0 ≤ z) : Builtin.Range.rangeSize (z - 1) (-1) (-1) = (z.toNat : Int) := by
  unfold Builtin.Range.rangeSize
  simp only [show ¬ ((-1 : Int) > 0) by decide, if_false]
  split
  · rw [show (-(-1) : Int) = 1 from rfl, Int.ediv_one]; (first | lia | omega)
  · (first | lia | omega)

theorem law_octets (w : World) (mean : ExcName → Option Value) (mg mb : Str → Option Value) (v z : Int) (t u : Tok) (hv : 0 ≤ v) (hz : 0 ≤ z) (hz' : z ≤ 16) :
    PC w mean mg mb 2 183 [.int v t, .int z u] (fun _ => True) (IntsOut (octs v z.toNat)) := by
  w_top off
  k_with_none
  (k_with "call builtin:issubclass" => (k_here; k_dflt (refine' issub_tuple ?kD ?kc ?_; (case kD => exact (News.get (by k_asm) (by k_mem))); (case kc => exact rfl); k_whole)))
  (k_with "exec For Name Call cons nil" => (k_here; (with_unfolding_all refine' For_invVF ?kF0 ?k1 ?k2 ?_; (case kF0 => k_asm); (case k1 => exact rfl); (case k2 => exact rfl); k_whole)))
  (k_with "exec For Name Name cons nil" => (k_here; (with_unfolding_all refine' For_invVF ?kF0 ?k1 ?k2 ?_; (case kF0 => k_asm); (case k1 => exact rfl); (case k2 => exact rfl); k_whole)))
  (k_with "pyIter ref" => (k_here; (with_reducible show wpAny _ _ (pyIter (Value.ref _)) (fun it s₂ => LoopAtV _ _ _ _ _ _ _ _ _ it s₂) _ _); refine Stop.mk ?_))
  (k_with "eval ListComp" => (k_here; (with_reducible apply comp_evalG); (case hclos => with_unfolding_all rfl); (case hcell => decide); (case hkind => with_unfolding_all rfl); (case hnames => decide); (case hx => with_unfolding_all rfl); (case hs => intro _; with_unfolding_all rfl)))
  (k_with "pyIter ref" => (k_here; (with_reducible show wpAny _ _ (pyIter (Value.ref _)) (fun it s₂ => CG _ _ _ _ _ _ _ _ _ it s₂) _ _); refine Stop.mk ?_))
  (k_with "binaryOp Pow int int" => (k_here; (with_reducible refine pow_int_small ?kb1 ?kb2 ?kb3 ?_); (case kb1 => (first | lia | omega)); (case kb2 => (first | lia | omega)); (case kb3 => decide)))
  (k_with "binaryOp FloorDiv int int" => (k_here; (with_reducible refine floordiv_int (pow64_ne _) ?_ (Or.inl (PyProof.noPylong_of_log2 (pow64_log _ (by (first | lia | omega))))))))
  (k_with "binaryOp FloorDiv int int" => (k_here; (with_reducible refine floordiv_int (by decide) ?_ (Or.inl (PyProof.noPylong_of_log2 (by decide +kernel))))))
  (k_with "binaryOp Mod int int" => (k_here; (with_reducible refine mod_int' (by decide) ?_ (Or.inl (PyProof.noPylong_of_log2 (by decide +kernel))))))
  (k_with "eval Name" => (k_here; (with_reducible show wpAny _ _ (eval (Expr.Name _ _) (compEnvC _ _ _ _)) _ _ _); (with_unfolding_all refine' nameC_F ?N ?c ?m ?d ?k ?x ?dd ?_; (case k => exact rfl); (case x => exact rfl); (case dd => decide); (case N => with_reducible assumption); (case c => exact rfl); (case m => k_mem); (case d => k_asm); k_whole)))
  (k_with "eval Name" => (k_here; (with_reducible show wpAny _ _ (eval (Expr.Name _ _) (compEnvC _ _ _ _)) _ _ _); (with_unfolding_all refine' nameC_L ?n ?v ?k ?x ?d ?_; (case k => exact rfl); (case x => exact rfl); (case d => decide); (case n => with_reducible assumption); (case v => with_reducible assumption); k_whole)))
  have mFill : ∀ P : Params, (Mine.hd.heap_39 P).In {} → PySem.Challenge.rw_pd0187_01.Holds → True := by
    k_fill
    exact fun _ _ _ => trivial
  clear mFill
  refine' PC.ofC [(Str.ofString "value", .int v t), (Str.ofString "size", .int z u)] (fun _ _ _ h => h) ?ho ?hcd ?hbind ?hkind ?hnd ?hco ?hgen ?hk ?h
  (case ho => k_is)
  (case hcd => k_is)
  (case hbind => exact fun _ _ => BindsTo.of_eq rfl)
  (case hkind => exact rfl)
  (case hnd => decide +kernel)
  (case hco => exact rfl)
  (case hgen => exact rfl)
  (case hk => exact rfl)
  case h =>
    intro dp un gd env outer A₁ base g L s cells Q B F X T N Y pre hd hu hret
    obtain ⟨oc, rfl, hoc⟩ := CellsAre.one Y
    k_steps
    rename_i h1 tk1 t1 u1 v1 R1 F1 N1 U1
    unfold Stop
    refine cg_range (n := z.toNat) (fun i nw y => ∃ t', y = .int ((octs v z.toNat).getD i 0) t') rfl R1 (small_down z hz (by (first | lia | omega))) (size_down z hz) (by show _ ≤ 2 ^ 24; (first | lia | omega)) (fun _ _ _ _ _ h => h) F1 N1 ?_ ?_
    · intro C i t s₃ m₃ E' hi hn hm hu F3 N3
      k_steps
      have e : 64 + (v.fdiv (64 ^ (z - 1 + (i : Int) * -1).toNat)).fmod 64 = (octs v z.toNat).getD i 0 := by
        rw [octs_getD _ _ _ hi, Int.fdiv_eq_ediv_of_nonneg _ (Int.pow_nonneg (by decide)), Int.fmod_eq_emod_of_nonneg _ (by decide)]
        rw [show (z - 1 + (i : Int) * -1).toNat = z.toNat - 1 - i by (first | lia | omega)]
      refine EltPost.none_ ?_ (Up.refl _)
      rw [e]
      exact ⟨_, rfl⟩
    · intro D h' tk ys all k F' N' hnew hall up hlen hres
      dsimp only
      refine hret _ _ _ _ _ F' N' ⟨D, ys, k, rfl, .head _, intsAre_of (by rw [hlen, octs_length]) hres⟩
end Mine
end
section
open PySem PySem.W PySem.Spec PySem.Calls PyProof.Rows
set_option Elab.async false
set_option maxRecDepth 100000
set_option maxHeartbeats 8000000
set_option pp.maxSteps 3000
namespace Mine
theorem snoc_of_last {α : Type} {l : List α} {y : α} (h : l.getLast? = some y) : l = l.dropLast ++ [y] := by
  have hne : l ≠ [] := fun q => by rw [q] at h; cases h
  rw [List.getLast?_eq_some_getLast hne] at h
  rw [← Option.some.inj h]; exact (List.dropLast_concat_getLast hne).symm
theorem strsAre_snoc {ws : List Value} {xs : List Str} (h : StrsAre ws xs) (x : Str) (t : Tok) : StrsAre (ws ++ [.str x t]) (xs ++ [x]) := by
  induction h with
  | nil => exact .cons _ _ .nil
  | cons a b _ ih => exact .cons _ _ ih
theorem strsAre_drop1 : ∀ {ws : List Value} {xs : List Str}, StrsAre ws xs → StrsAre ws.dropLast xs.dropLast
  | _, _, .nil => .nil
  | _, _, .cons _ _ .nil => .nil
  | _, _, .cons x t (.cons y u h) => by
    have := strsAre_drop1 (StrsAre.cons y u h)
    exact .cons x t this
theorem strsAre_dropLast {ws : List Value} {st : List (List Nat)} (h : StrsAre ws (st.map S)) : StrsAre ws.dropLast (st.dropLast.map S) := by
  rw [List.map_dropLast]; exact strsAre_drop1 h
def nstep (st : List (List Nat)) (c : List Nat) : List (List Nat) := if c = [46, 46] then st.dropLast else st ++ [c]
theorem nfold_free : ∀ (cs st : List (List Nat)), [46, 46] ∉ st → [46, 46] ∉ cs.foldl nstep st
  | [], _, h => h
  | c :: cs, st, h => by
    refine nfold_free cs (nstep st c) ?_
    unfold nstep
    split
    · exact fun q => h ((List.dropLast_sublist _).subset q)
    · rename_i hc
      intro q
      rcases List.mem_append.mp q with q | q
      · exact h q
      · exact hc (List.mem_singleton.mp q).symm

theorem nfold_len : ∀ (cs st : List (List Nat)), (cs.foldl nstep st).length ≤ st.length + cs.length
  | [], _ => Nat.le_refl _
  | c :: cs, st => by
    refine Nat.le_trans (nfold_len cs (nstep st c)) ?_
    unfold nstep
    split
    · simp only [List.length_dropLast, List.length_cons]; (first | lia | omega)
    · simp only [List.length_append, List.length_cons, List.length_nil]; (first | lia | omega)

theorem nfold_short : ∀ (cs st : List (List Nat)), (∀ y ∈ cs, y.length ≤ 2) → (∀ y ∈ st, y.length ≤ 2) → ∀ y ∈ cs.foldl nstep st, y.length ≤ 2
  | [], _, _, h => h
  | c :: cs, st, hc, h => by
    refine nfold_short cs (nstep st c) (fun y hy => hc y (.tail _ hy)) ?_
    unfold nstep
    split
    · exact fun y hy => h y ((List.dropLast_sublist _).subset hy)
    · intro y hy
      rcases List.mem_append.mp hy with q | q
      · exact h y q
      · rw [List.mem_singleton.mp q]; exact hc c (.head _)
theorem map_sum_le (st : List (List Nat)) (h : ∀ y ∈ st, y.length ≤ 2) : ((st.map S).map (·.length)).sum ≤ 2 * st.length := by
  induction st with
  | nil => exact Nat.le_refl _
  | cons x r ih =>
    have h1 := ih fun y hy => h y (.tail _ hy)
    have h2 := h x (.head _)
    simp only [List.map_cons, List.sum_cons, List.length_cons, S_len] at h1 ⊢
    (first | lia | omega)

structure NmSt where
  ws : List Value
  nn : Nat
  t1 : Tok
  t2 : Tok
  t3 : Tok
  t4 : Tok
  u : Str → Option Value

theorem normpath_ (w : World) (mean : ExcName → Option Value) (mg mb : Str → Option Value) (x : Str) (t : Tok) (cs : List (List Nat)) (hx : x = S (47 :: joinL cs)) (hne : cs ≠ [])
    (hc : ∀ c ∈ cs, 47 ∉ c ∧ c ≠ [] ∧ c ≠ [46] ∧ c.length ≤ 2) (hn : cs.length ≤ 65) :
    PC w mean mg mb 5 166 [.str x t] (fun _ => True) (StrOut (S (47 :: joinL (cs.foldl nstep [])))) := by
  w_top off
  k_with_none
  (k_with "call builtin:issubclass" => (k_here; k_dflt (refine' issub_tuple ?kD ?kc ?_; (case kD => exact (News.get (by k_asm) (by k_mem))); (case kc => exact rfl); k_whole)))
  (k_with "exec For Name Call cons nil" => (k_here; (with_unfolding_all refine' For_invVF ?kF0 ?k1 ?k2 ?_; (case kF0 => k_asm); (case k1 => exact rfl); (case k2 => exact rfl); k_whole)))
  (k_with "exec For Name Name cons nil" => (k_here; (with_unfolding_all refine' For_invVF ?kF0 ?k1 ?k2 ?_; (case kF0 => k_asm); (case k1 => exact rfl); (case k2 => exact rfl); k_whole)))
  (k_with "pyIter ref" => (k_here; (with_reducible show wpAny _ _ (pyIter (Value.ref _)) (fun it s₂ => LoopAtV _ _ _ _ _ _ _ _ _ it s₂) _ _); refine Stop.mk ?_))
  (k_with "eval ListComp" => (k_here; (with_reducible apply comp_evalG); (case hclos => with_unfolding_all rfl); (case hcell => decide); (case hkind => with_unfolding_all rfl); (case hnames => decide); (case hx => with_unfolding_all rfl); (case hs => intro _; with_unfolding_all rfl)))
  (k_with "pyIter ref" => (k_here; (with_reducible show wpAny _ _ (pyIter (Value.ref _)) (fun it s₂ => CG _ _ _ _ _ _ _ _ _ it s₂) _ _); refine Stop.mk ?_))
  (k_with "binaryOp Pow int int" => (k_here; (with_reducible refine pow_int_small ?kb1 ?kb2 ?kb3 ?_); (case kb1 => (first | lia | omega)); (case kb2 => (first | lia | omega)); (case kb3 => decide)))
  (k_with "binaryOp FloorDiv int int" => (k_here; (with_reducible refine floordiv_int (pow64_ne _) ?_ (Or.inl (PyProof.noPylong_of_log2 (pow64_log _ (by (first | lia | omega))))))))
  (k_with "binaryOp FloorDiv int int" => (k_here; (with_reducible refine floordiv_int (by decide) ?_ (Or.inl (PyProof.noPylong_of_log2 (by decide +kernel))))))
  (k_with "binaryOp Mod int int" => (k_here; (with_reducible refine mod_int' (by decide) ?_ (Or.inl (PyProof.noPylong_of_log2 (by decide +kernel))))))
  (k_with "eval Name" => (k_here; (with_reducible show wpAny _ _ (eval (Expr.Name _ _) (compEnvC _ _ _ _)) _ _ _); (with_unfolding_all refine' nameC_F ?N ?c ?m ?d ?k ?x ?dd ?_; (case k => exact rfl); (case x => exact rfl); (case dd => decide); (case N => with_reducible assumption); (case c => exact rfl); (case m => k_mem); (case d => k_asm); k_whole)))
  (k_with "eval Name" => (k_here; (with_reducible show wpAny _ _ (eval (Expr.Name _ _) (compEnvC _ _ _ _)) _ _ _); (with_unfolding_all refine' nameC_L ?n ?v ?k ?x ?d ?_; (case k => exact rfl); (case x => exact rfl); (case d => decide); (case n => with_reducible assumption); (case v => with_reducible assumption); k_whole)))
  (k_with "call ref" => (k_here; (first | (with_reducible show wpAny _ _ (call (Value.ref 138) _) _ _ _) | (with_reducible show wpAny _ _ (call (Value.ref 159) _) _ _ _) | (with_reducible show wpAny _ _ (call (Value.ref 44) _) _ _ _) | (with_reducible show wpAny _ _ (call (Value.ref 35) _) _ _ _)); k_dflt ((refine wpAny_call ?_); (refine' code_def ?k1 ?k2 ?k3 ?k4 ?k5 ?kA ?kF ?kK ?k6 ?k7 ?k8 ?k9 ?kB ?_ ?c2 ?c3 ?c4 ?c5); (case kA => exact rfl); (case kF => exact rfl); (case kK => first | exact rfl | assumption); (case k1 => k_asm); (case k2 => k_asm); (case k3 => k_asm); (case k4 => k_asm); (case k5 => k_asm); (case k6 => k_is); (case k7 => k_is); (case k8 => ktr_room); (case k9 => first | exact BindsTo.of_eq rfl | exact binds_K (by k_in) rfl (by k_is) rfl rfl rfl); (case c5 => decide); (case kB => exact locs rfl); (case c2 => exact rfl); (case c3 => exact rfl); (case c4 => exact rfl); k_whole; (intro _ _ _ _ _ _ _ _ _); (try dsimp only); (try k_fold))))
  (k_with "exec Assign cons ListComp" => (k_here; (with_reducible apply comp_assignG); (case hsw => with_unfolding_all rfl); (case hclos => with_unfolding_all rfl); (case hcell => decide); (case hkind => with_unfolding_all rfl); (case hnames => decide); (case hx => with_unfolding_all rfl); (case hy => with_unfolding_all rfl); (case hp => with_unfolding_all rfl); (case hs => intro _; with_unfolding_all rfl)))
  (k_with "pyIter ref" => (k_here; (with_reducible show wpAny _ _ (pyIter (Value.ref _)) (fun it s₂ => CGA _ _ _ _ _ _ _ _ _ _ it s₂) _ _); refine Stop.mk ?_))
  (k_with "pyIter str" => (k_here; (with_reducible show wpAny _ _ (pyIter (Value.str _ _)) (fun it s₂ => CGA _ _ _ _ _ _ _ _ _ _ it s₂) _ _); refine Stop.mk ?_))
  (k_with "pyIter bytes" => (k_here; (with_reducible show wpAny _ _ (pyIter (Value.bytes _ _)) (fun it s₂ => CG _ _ _ _ _ _ _ _ _ it s₂) _ _); refine Stop.mk ?_))
  (k_with "ite" => (k_here; first | (refine ite_pos (by with_reducible assumption) ?_) | (refine ite_neg (by with_reducible assumption) ?_)))
  (k_with "call ref" => (k_here; (with_reducible show wpAny _ _ (call (Value.ref 124) [Value.str _ _]) _ _ _); (k_dflt (refine' PC.useStr (fspath_str _ _ _ _ _ _) ?B ?F ?X ?N ?T ?hk ?hd ?hu trivial ?_; ((case B => k_asm); (case F => k_asm); (case X => k_asm); (case N => k_asm); (case T => k_asm); (case hk => first | exact rfl | assumption); (case hd => ktr_room); (case hu => ktr_units)); k_whole)); (intro _ _ _ _ _ _ _); (try dsimp only); (try k_sweep)))
  (k_with "call ref" => (k_here; (with_reducible show wpAny _ _ (call (Value.ref 152) [Value.str _ _]) _ _ _); (k_dflt (refine' PC.usePair (SplitAt.pc ?C _) ?B ?F ?X ?N ?T ?hk ?hd ?hu trivial ?_; (case C => with_reducible assumption); ((case B => k_asm); (case F => k_asm); (case X => k_asm); (case N => k_asm); (case T => k_asm); (case hk => first | exact rfl | assumption); (case hd => ktr_room); (case hu => ktr_units)); k_whole)); (intro _ _ _ _ _ _ _ _ _); (try dsimp only); (try k_sweep)))
  (k_with "truthy str" => (k_here; (with_reducible show wpAny _ _ (PySem.truthy (Value.str _ _)) _ _ _); (refine truthy_yes (by (first | lia | omega)) (by (first | lia | omega)) ?_)))
  (k_with "truthy ref" => (k_here; (with_reducible show wpAny _ _ (PySem.truthy (Value.ref _)) _ _ _); (k_dflt (first | (refine' truthy_listY ?mtyN ?mtym ?mtya ?mtyb ?_; (case mtyN => k_asm); (case mtym => k_mem); (case mtya => (first | lia | omega)); (case mtyb => (first | lia | omega)); k_whole) | (refine' truthy_listN ?mtnN ?mtnm ?mtna ?_; (case mtnN => k_asm); (case mtnm => k_mem); (case mtna => (first | lia | omega)); k_whole)))))
  (k_with "subscriptTail" => (k_here; (with_reducible show wpAny _ _ (subscriptTail _ _ (Value.ref _) (Value.int (-1) _)) _ _ _); k_dflt (refine' sub_last ?mslN ?mslm ?mslv ?mslz ?_ ?msls; (case mslN => k_asm); (case mslm => k_mem); (case mslv => with_reducible assumption); (case mslz => (first | lia | omega)); (case msls => with_unfolding_all rfl); k_whole)))
  (k_with "call builtin:list.pop" => (k_here; k_dflt (refine' kl_pop ?mplF ?mplN ?mple ?mplU ?mplz ?_; (case mplF => k_asm); (case mplN => k_asm); (case mple => with_reducible assumption); (case mplU => k_upd); (case mplz => with_reducible assumption); k_whole); intro _ _ _; (try k_sweep)))
  (k_with "call builtin:str.join" => (k_here; (with_reducible show wpAny _ _ (call (Value.builtin _) [Value.str _ _, Value.ref _]) _ _ _); k_dflt (refine' join_list ?mjnl ?mjni ?mjnk ?_; (case mjnl => exact News.isList (by k_asm) (by k_mem)); (case mjni => with_reducible assumption); (case mjnk => with_reducible assumption); k_whole); intro _ _))
  (k_with "binaryOp Add str str" => ((with_reducible show wpAny _ _ (binaryOp Operator.Add (Value.str _ _) (Value.str (Txt.join _ _) _)) _ _ _); refine Stop.mk ?_))
  have mFill : ∀ P : Params, (Mine.hd.heap_39 P).In {} → PySem.Challenge.rw_pd0187_01.Holds → True := by
    k_fill
    exact fun _ _ _ => trivial
  clear mFill
  refine' PC.of [(Str.ofString "path", .str x t)] (fun _ _ _ h => h) ?ho ?hcd ?hbind ?hloc ?hco ?hgen ?hk ?hcell ?h
  (case ho => k_is)
  (case hcd => k_is)
  (case hbind => exact fun _ _ => BindsTo.of_eq rfl)
  (case hloc => exact locs rfl)
  (case hco => exact rfl)
  (case hgen => exact rfl)
  (case hk => exact rfl)
  (case hcell => decide)
  case h =>
    intro dp un gd env outer A₁ base g L s Q B F X T N pre hd hu hret
    have hlen := joinL_len cs fun y hy => (hc y hy).2.2.2
    have hxl : x.length = (joinL cs).length + 1 := by rw [hx, S_len]; rfl
    have hform : ∃ a r, joinL cs = a :: r ∧ a ≠ 47 := by
      obtain ⟨c, rc, rfl⟩ : ∃ c rc, cs = c :: rc := ⟨cs.head hne, cs.tail, (List.cons_head_tail hne).symm⟩
      obtain ⟨h1, h2, -, -⟩ := hc c (.head _)
      obtain ⟨a, c', rfl⟩ : ∃ a c', c = a :: c' := ⟨c.head h2, c.tail, (List.cons_head_tail h2).symm⟩
      exact ⟨a, c' ++ tailJ rc, by rw [joinL_cons]; rfl, fun q => h1 (q ▸ .head _)⟩
    obtain ⟨a, r, har, ha⟩ := hform
    have e1 : ¬ ((Txt.slice x none (some 1) != Str.ofString "/") = true) := by
      rw [hx, slash, slice_to _ _ (by simp only [List.length_cons]; (first | lia | omega)), bne, S_beq, decide_eq_true]; exact fun h => nomatch h
      simp
    have e2 : (Txt.slice x (some 1) (some 2) != Str.ofString "/") = true := by
      rw [hx, har, slash, slice_mid _ _ _ (by simp only [List.length_cons]; (first | lia | omega)), bne, S_beq, decide_eq_false]; rfl
      simp; exact ha
    have e3 : Txt.slice x (some 1) none = S (joinL cs) := by
      rw [hx, slice_from _ _ (by simp only [List.length_cons]; (first | lia | omega))]; rfl
    have e4 : Txt.split (S (joinL cs)) (Str.ofString "/") = cs.map S := by
      rw [slash]; exact split_S cs hne fun y hy => (hc y hy).1
    have hx0 : 0 < x.length := by (first | lia | omega)
    k_steps
    rename_i hS tkS l h6 k5 a3 a2 a1 a0 h7 ln h8 l1 h9 F9 N9
    unfold Stop
    rw [e3, e4] at a3
    rw [a3] at a2
    have hl := a2.length
    rw [List.length_map] at hl
    generalize strValues l = vs at *
    dsimp only at F9 N9
    have F10 := fr_ov (fr_ov (fr_ov (fr_ov (fr_ov F9 (Str.ofString "dotdot") _ rfl) (Str.ofString "dot") _ rfl) (Str.ofString "sep") _ rfl) (Str.ofString "initial_slashes") _ rfl) (Str.ofString "new_comps") _ rfl
    clear F9
    refine loop_led (l := hS.objs.size) (nn := 0) (vs := vs) (fun i (c : NmSt) => StrsAre c.ws (((cs.take i).foldl nstep []).map S))
      (fun c y => if y = Str.ofString "new_comps" then some (Value.ref ln) else if y = Str.ofString "initial_slashes" then some (Value.str (Str.ofString "/") c.t1) else if y = Str.ofString "sep" then some (Value.str (Str.ofString "/") c.t2) else if y = Str.ofString "dot" then some (Value.str (Str.ofString ".") c.t3) else if y = Str.ofString "dotdot" then some (Value.str (Str.ofString "..") c.t4) else c.u y)
      (fun c => [(ln, listOf c.ws.toArray c.nn), (hS.objs.size, listOf vs.toArray 0)]) ⟨[], 0, _, _, _, _, _⟩ rfl (fun _ _ _ => .tail _ (.head _)) F10 N9 ?_ (fun z hz => rfl) (fun p hp => ?_) ?_ ?_
    · exact .nil
    · rcases List.mem_cons.mp hp with rfl | hp
      · exact .head _
      · exact .tail _ (List.mem_of_mem_take (i := 1) hp)
    · intro i c v h tk own hv hst hoff F' N'
      obtain ⟨ws, nn, t1, t2, t3, t4, u⟩ := c
      dsimp only at hst F' N' ⊢
      have hi : i < cs.length := by rw [← hl]; exact (List.getElem?_eq_some_iff.mp hv).1
      obtain ⟨t5, h5⟩ := a2.get i (S (cs[i]'hi)) (by simp [hi])
      rw [h5] at hv
      cases hv
      have etake : (cs.take (i + 1)).foldl nstep [] = nstep ((cs.take i).foldl nstep []) (cs[i]'hi) := by
        rw [List.take_add_one, List.getElem?_eq_getElem hi, List.foldl_append]; rfl
      have hfree := nfold_free (cs.take i) [] (fun h => nomatch h)
      have hcc := hc _ (List.getElem_mem hi)
      generalize cs[i]'hi = c at etake hcc h5 F'
      have hsl := nfold_len (cs.take i) []
      have htl : (cs.take i).length ≤ 65 := by rw [List.length_take]; (first | lia | omega)
      generalize (cs.take i).foldl nstep [] = st at etake hst hfree hsl
      rw [List.length_nil] at hsl
      have c0 : 0 < (S c).length := by rw [S_len]; exact List.length_pos_iff.mpr hcc.2.1
      have c0' : (S c).length ≤ 2 := by rw [S_len]; exact hcc.2.2.2
      have c1 : ¬ ((S c == Str.ofString ".") = true) := by rw [dot, S_beq]; simp [hcc.2.2.1]
      have hwl := hst.length
      rw [List.length_map] at hwl
      have hwb : ws.length ≤ 65 := by
        rw [hwl]; (first | lia | omega)
      by_cases hdd : c = [46, 46]
      · have c2 : ¬ ((S c != Str.ofString "..") = true) := by rw [dotdot, bne, S_beq]; simp [hdd]
        by_cases hse : st = []
        · have c3 : ws.length = 0 := by rw [hwl, hse]; rfl
          k_steps
          refine JS.mk_ ⟨ws, nn, t1, t2, t3, t4, u⟩ (by assumption) (by assumption) ?_ (fun z hz => by simp only [if_neg hz]) (fun p hp => ?_) (fun p hp => .tail _ (.tail _ hp)) hoff
          · show StrsAre _ (((cs.take (i + 1)).foldl nstep []).map S)
            rw [etake, nstep, if_pos hdd, hse]
            have e0 : ws = [] := List.length_eq_zero_iff.mp c3
            rw [e0]; exact .nil
          · rcases List.mem_cons.mp hp with rfl | hp
            · exact .head _
            · rw [List.mem_singleton.mp hp]; exact .tail _ (.head _)
        · have c3 : 0 < ws.length := by rw [hwl]; exact List.length_pos_iff.mpr hse
          obtain ⟨t6, c4⟩ : ∃ t6, ws.getLast? = some (Value.str (S (st.getLast hse)) t6) := by
            rw [List.getLast?_eq_getElem?, hwl]
            refine hst.get _ _ ?_
            rw [List.getElem?_map, ← List.getLast?_eq_getElem?, List.getLast?_eq_some_getLast hse]; rfl
          have c6 : kl_last ws.toArray.toList = some (ws.dropLast, Value.str (S (st.getLast hse)) t6) := by
            have q := snoc_of_last c4
            show kl_last ws = _
            conv => lhs; rw [q]
            exact kl_last_snoc ws.dropLast _
          have c7 : ws.toArray.toList.length ≤ sizeLine := by show ws.length ≤ 2 ^ 24; (first | lia | omega)
          have c5 : ¬ ((S (st.getLast hse) == Str.ofString "..") = true) := by
            rw [dotdot, S_beq]; simp only [decide_eq_true_eq]; exact fun q => hfree (q ▸ List.getLast_mem hse)
          k_steps
          refine JS.mk_ ⟨ws.dropLast, nn + 1, t1, t2, t3, t4, u⟩ (by assumption) (by assumption) ?_ (fun z hz => by simp only [if_neg hz]) (fun p hp => ?_) (fun p hp => .tail _ (.tail _ hp)) hoff
          · show StrsAre _ (((cs.take (i + 1)).foldl nstep []).map S)
            rw [etake, nstep, if_pos hdd]
            exact strsAre_dropLast hst
          · rcases List.mem_cons.mp hp with rfl | hp
            · exact .head _
            · rw [List.mem_singleton.mp hp]; exact .tail _ (.head _)
      · have c2 : ((S c != Str.ofString "..") = true) := by rw [dotdot, bne, S_beq]; simp [hdd]
        k_steps
        refine JS.mk_ ⟨ws ++ [.str (S c) t5], nn + 1, t1, t2, t3, t4, u⟩ (by assumption) (by assumption) ?_ (fun z hz => by simp only [if_neg hz]) (fun p hp => ?_) (fun p hp => .tail _ (.tail _ hp)) hoff
        · show StrsAre _ (((cs.take (i + 1)).foldl nstep []).map S)
          rw [etake, nstep, if_neg hdd, List.map_append]
          exact strsAre_snoc hst _ _
        · rcases List.mem_cons.mp hp with rfl | hp
          · simp
          · rw [List.mem_singleton.mp hp]; exact .tail _ (.head _)
    · intro c u h tk hst F' N'
      obtain ⟨ws, nn, t1, t2, t3, t4, u⟩ := c
      rw [hl, List.take_length] at hst
      have hsl := nfold_len cs []
      have hsb := nfold_short cs [] (fun y hy => (hc y hy).2.2.2) (fun _ h => nomatch h)
      generalize hst0 : cs.foldl nstep [] = st at *
      rw [List.length_nil] at hsl
      dsimp only at hst F' N' ⊢
      have hS' : StrsAre ws.toArray.toList (st.map S) := hst
      have hjl := joinL_len st hsb
      have hms := map_sum_le st hsb
      have hsum : ((st.map S).map (·.length)).sum + (st.map S).length * (Str.ofString "/").length ≤ 16777216 := by
        rw [List.length_map, slash, S_len]
        simp only [List.length_cons, List.length_nil]; (first | lia | omega)
      have ej : Txt.join (Str.ofString "/") (st.map S) = S (joinL st) := by rw [slash, ← txt_join]
      have hsz : (Str.ofString "/").length + (S (joinL st)).length ≤ sizeLine := by
        rw [slash, S_len, S_len]
        show _ ≤ 2 ^ 24
        simp only [List.length_cons, List.length_nil]; (first | lia | omega)
      k_steps
      unfold Stop
      rw [ej]
      refine SB.add ?_ hsz
      intro t' k'
      rw [slash, S_app]
      have hp0 : 0 < (S ([47] ++ joinL st)).length := by rw [S_len]; simp
      have hp1 : (S ([47] ++ joinL st)).length < 1000 := by rw [S_len]; simp only [List.length_append, List.length_cons, List.length_nil]; (first | lia | omega)
      k_steps
      dsimp only
      exact hret _ _ _ _ [] (by assumption) News.nil ⟨rfl, _, rfl⟩

end Mine
end
section
open PySem PySem.W PySem.Spec PySem.Calls PyProof.Rows
set_option Elab.async false
set_option maxRecDepth 100000
set_option maxHeartbeats 8000000
namespace Mine

def pairO (n : Nat) (x y : Value) : Obj := { cls := .type "tuple", data := .seq #[x, y] n }

/-- a loop's state told by a datum, with two names that turn -/
def JS2 {σ : Type} (St : Nat → σ → Prop) (mm : σ → Str → Option Value) (ld : σ → Led) (a b : Str) (i : Nat) (m : Str → Option Value) (nx : Led) : Prop :=
  ∃ c, St i c ∧ (∀ z, z ≠ a → z ≠ b → m z = mm c z) ∧ nx = ld c

theorem JS2.mkR {σ : Type} {St : Nat → σ → Prop} {mm : σ → Str → Option Value} {ld : σ → Led} {a b : Str} {i : Nat} {h₀ : Heap} {L : Addr} {own news' : Led} {s₁ : Shared} {h' : Heap} {tk : Nat} {m' : Str → Option Value} (c : (Str → Option Value) → σ)
    (F : Fr h₀ L h' m') (N : News h₀ L h' news') (hc : St i (c m')) (hm : ∀ z, z ≠ a → z ≠ b → m' z = mm (c m') z) (hl : ∀ p ∈ ld (c m'), p ∈ news') (ho : ∀ p ∈ own, p ∈ news') (hoff : OwnOff own ((ld (c m')).map (·.1))) :
    InvEndG h₀ L (JS2 St mm ld a b i) own s₁ { s₁ with heap := h', toks := tk } := ⟨h', tk, m', news', ld (c m'), rfl, F, N, hl, ho, hoff, c m', hc, hm, rfl⟩

section
variable {prog : Program} {w : World} {A : Around} {E : Value → Shared → Prop} {s : Shared} {env : Env} {h₀ : Heap} {body : List Stmt} {Q : Flow → Shared → Prop}

/-- for a, b in l, over pairs of the ledger -/
theorem loop_pairs {σ : Type} {l : Addr} {vs : List Value} {nn : Nat} {a b : Str} {pa pb pp : Pos} {k} {m₀ : Str → Option Value} {news : Led} (St : Nat → σ → Prop) (mm : σ → Str → Option Value) (ld : σ → Led) (c₀ : σ)
    (hh : A.handled = none) (hE : PassesOwn (model prog w) A env E) (_hab : a ≠ b)
    (ha : env.kindOf a = some .local) (hb : env.kindOf b = some .local) (hp : (env.scope.kind == .class || (env.scope.kind == .module && env.locals != env.globals)) = false)
    (hin : ∀ i c, St i c → (l, listOf vs.toArray nn) ∈ ld c)
    (PP : Nat → Value → Value → Prop) (hpair : ∀ i c v, St i c → vs[i]? = some v → ∃ t kk va vb, v = .ref t ∧ (t, pairO kk va vb) ∈ ld c ∧ PP i va vb)
    (F : Fr h₀ env.locals s.heap m₀) (N : News h₀ env.locals s.heap news) (hc₀ : St 0 c₀) (hm₀ : ∀ z, z ≠ a → z ≠ b → m₀ z = mm c₀ z) (hl₀ : ∀ p ∈ ld c₀, p ∈ news)
    (turn : ∀ i c t kk va vb h tk own, vs[i]? = some (.ref t) → (t, pairO kk va vb) ∈ ld c → PP i va vb → St i c → OwnOff own ((ld c).map (·.1)) →
      Fr h₀ env.locals h (fun y => if y = b then some vb else if y = a then some va else mm c y) → News h₀ env.locals h (ld c ++ own) →
      wpAny (model prog w) A (execs body env) (InvPostG h₀ env.locals (JS2 St mm ld a b (i + 1)) own { s with heap := h, toks := tk } Q) E { s with heap := h, toks := tk })
    (done : ∀ c (u : Str → Option Value) h tk, St vs.length c → Fr h₀ env.locals h (fun y => if y = b then u b else if y = a then u a else mm c y) → News h₀ env.locals h (ld c) → Q .next { s with heap := h, toks := tk }) :
    wpAny (model prog w) A (pyIter (.ref l)) (fun it s₂ => codeAny (model prog w) A (.forLoop (.Tuple [.Name a pa, .Name b pb] k pp) it body [] env) (fun r s' => match r with | .ok f => Q f s' | .error e => cameBackBy (model prog w) A env E e s') s₂) E s := by
  have hol : s.heap.get? l = some (listOf vs.toArray nn) := (N _ (hl₀ _ (hin 0 c₀ hc₀))).1
  have hls : s.heap.IsList l vs.toArray := ⟨_, hol, rfl, nn, rfl⟩
  refine wpAny_pyIter_list hls ?_
  have hIL : env.locals ≠ s.heap.objs.size := Nat.ne_of_lt F.ns.lt
  have hI0 : h₀.get? s.heap.objs.size = none := next_is_new F
  generalize hI : s.heap.objs.size = I at *
  have hIter : (s.heap.push { cls := .type "list_iterator", data := .fields #[.ref l, rawInt 0] }).IsListIter I l 0 := ⟨_, hI ▸ Heap.get?_push_size _ rfl, rfl, rfl⟩
  refine codeAny_forLoop_any (fun k' s' => ∃ h' tk m' i c, s' = { s with heap := h', toks := tk } ∧ h'.IsListIter I l i ∧ Fr h₀ env.locals h' m' ∧ News h₀ env.locals h' (ld c) ∧ (∀ p ∈ ld c, p.1 ≠ I) ∧ St i c ∧
    (∀ z, z ≠ a → z ≠ b → m' z = mm c z) ∧ i ≤ vs.length ∧ k' = vs.length + 1 - i) ?_ (vs.length + 1)
    ⟨_, _, m₀, 0, c₀, rfl, hIter, F.push _, (fun p hp => ⟨Heap.get?_push_of_some _ (N p (hl₀ p hp)).1, (N p (hl₀ p hp)).2⟩), (fun p hp e => absurd (Heap.lt_size (N p (hl₀ p hp)).1) (by rw [e, ← hI]; exact Nat.lt_irrefl _)), hc₀, hm₀, Nat.zero_le _, rfl⟩
  rintro k' s' ⟨h', tk, m', i, c, rfl, hit, F', N', hoff, hc, hm, hi, rfl⟩
  have hlI : l ≠ I := hoff _ (hin _ _ hc)
  have hl' : h'.IsList l vs.toArray := ⟨_, (N' _ (hin _ _ hc)).1, rfl, nn, rfl⟩
  have nxt : ∀ h₁ : Heap, (∀ q o, q ≠ I → h'.get? q = some o → h₁.get? q = some o) → Fr h₀ env.locals h₁ m' ∧ News h₀ env.locals h₁ (ld c) := fun h₁ hk₁ =>
    ⟨⟨F'.ns.at' fun o e => hk₁ _ o hIL e, fun q o e => hk₁ q o (fun e' => by rw [e', hI0] at e; cases e) (F'.keep q o e), F'.above⟩, fun p hp => ⟨hk₁ _ _ (hoff p hp) (N' p hp).1, (N' p hp).2⟩⟩
  by_cases hlt : i < vs.length
  · have hv : vs.toArray[i]? = some (vs[i]'hlt) := by simp [hlt]
    refine wpAny_pyNext_list_item hit hl' hv fun h₁ hit₁ hs₁ => ?_
    obtain ⟨F₁, N₁⟩ := nxt h₁ fun q o hq e => hs₁.extBut q o hq e
    obtain ⟨t, kk, va, vb, hvt, hmem, hPP⟩ := hpair i c _ hc (List.getElem?_eq_getElem hlt)
    dsimp only
    rw [hvt]
    refine wpAny_letOwnedTupleGo_listiter hit₁ ?_
    obtain ⟨oI, hoI, hcI, hdI⟩ := id hit₁
    have N₂ : News h₀ env.locals h₁ (ld c ++ [(I, oI)]) := N₁.append (fun p hp => by rw [List.mem_singleton.mp hp]; exact ⟨hoI, Ne.symm hIL, hI0⟩)
    refine unpackN_ (items := #[va, vb]) F₁ N₂ (News.isTup N₁ hmem) hh rfl rfl fun h₂ F₂ N₂ => ?_
    refine assignInOrder_cons (wpAny_assign_Name (wpAny_storeName_local ha F₂.ns (fun h₃ hn₃ hs₃ => ?_) hp))
    have F₃ := F₂.set hn₃ hs₃
    refine assignInOrder_cons (wpAny_assign_Name (wpAny_storeName_local hb F₃.ns (fun h₄ hn₄ hs₄ => ?_) hp))
    have F₄ := F₃.set hn₄ hs₄
    have N₄ := (‹News h₀ env.locals h₂ _›.set hs₃).set hs₄
    refine assignInOrder_nil ?_
    have F₅ : Fr h₀ env.locals h₄ (fun y => if y = b then some vb else if y = a then some va else mm c y) := by
      have e : (fun y => if y = b then some vb else if y = a then some va else m' y) = fun y => if y = b then some vb else if y = a then some va else mm c y := by
        funext y
        by_cases h1 : y = b
        · simp only [if_pos h1]
        · by_cases h2 : y = a
          · simp only [if_neg h1, if_pos h2]
          · simp only [if_neg h1, if_neg h2]; exact hm y h2 h1
      rw [← e]; exact F₄
    have hown : OwnOff [(I, oI)] ((ld c).map (·.1)) := by
      intro p hp q hq e
      rw [List.mem_singleton.mp hp] at e
      obtain ⟨r, hr, rfl⟩ := List.mem_map.mp hq
      exact hoff r hr e.symm
    refine wpAny_mono (wpAny_passesOwn hE (turn i c t kk va vb h₄ _ [(I, oI)] (by rw [List.getElem?_eq_getElem hlt, hvt]) hmem hPP hc hown F₅ N₄)) (fun f s₃ h₅ => ?_) fun _ _ e => e
    have fin : ∀ tk₀ : Nat, InvEndG h₀ env.locals (JS2 St mm ld a b (i + 1)) [(I, oI)] { s with heap := h₄, toks := tk₀ } s₃ → ∃ k'', k'' < vs.length + 1 - i ∧ (∃ h' tk m' i c, s₃ = { s with heap := h', toks := tk } ∧ h'.IsListIter I l i ∧ Fr h₀ env.locals h' m' ∧ News h₀ env.locals h' (ld c) ∧ (∀ p ∈ ld c, p.1 ≠ I) ∧ St i c ∧
        (∀ z, z ≠ a → z ≠ b → m' z = mm c z) ∧ i ≤ vs.length ∧ k'' = vs.length + 1 - i) := by
      rintro tk₀ ⟨h₆, tk₆, m₆, nw₆, nx, e, F₆, N₆, hn₆, ho₆, ha₆, c₆, hc₆, hm₆, rfl⟩
      refine ⟨vs.length + 1 - (i + 1), by (first | lia | omega), h₆, tk₆, m₆, i + 1, c₆, e, ⟨oI, (N₆ _ (ho₆ _ (.head _))).1, hcI, hdI⟩, F₆, (fun p hp => N₆ p (hn₆ p hp)), (fun p hp e' => ?_), hc₆, hm₆, hlt, rfl⟩
      exact ha₆ _ (.head _) p.1 (List.mem_map_of_mem hp) e'.symm
    cases f with
    | ret v => exact h₅
    | brk => exact h₅
    | next => exact fin _ h₅
    | cont => exact fin _ h₅
  · have hin' : i = vs.length := by (first | lia | omega)
    refine wpAny_pyNext_list_end hh hit hl' (by simp [hin']) fun h₁ he₁ => ?_
    obtain ⟨F₁, N₁⟩ := nxt h₁ fun q o hq e => he₁ q o hq e
    refine wpAny_execs_nil ?_
    subst hin'
    refine done c m' h₁ _ hc ?_ N₁
    have e : m' = fun y => if y = b then m' b else if y = a then m' a else mm c y := by
      funext y
      by_cases h1 : y = b
      · simp only [if_pos h1]; rw [h1]
      · by_cases h2 : y = a
        · simp only [if_neg h1, if_pos h2]; rw [h2]
        · simp only [if_neg h1, if_neg h2]; exact hm y h2 h1
    rw [← e]; exact F₁
end
end Mine
end
section
open PySem PySem.W PySem.Spec PySem.Calls PyProof.Rows
set_option Elab.async false
set_option maxRecDepth 100000
set_option maxHeartbeats 8000000
namespace Mine
theorem pick_front (vs : List Value) : (slicePick vs.toArray none (some (-1)) none).toList = vs.dropLast := by
  have e : sliceBounds none (some (-1)) none vs.toArray.size = (((0 : Nat) : Int), ((vs.length - 1 : Nat) : Int), 1) := by
    simp only [sliceBounds, Option.getD_none, show (1 : Int) > 0 by decide, if_true, show ((-1 : Int) < 0) by decide, List.size_toArray]
    congr 1
    congr 1
    (first | lia | omega)
  rw [kmk_pick_nat _ e]
  simp [List.dropLast_eq_take]

theorem intsAre_drop1 : ∀ {ws : List Value} {xs : List Int}, IntsAre ws xs → IntsAre ws.dropLast xs.dropLast
  | _, _, .nil => .nil
  | _, _, .cons _ _ .nil => .nil
  | _, _, .cons x t (.cons y u h) => by
    have := intsAre_drop1 (IntsAre.cons y u h)
    exact .cons x t this
theorem intsAre_last : ∀ {ws : List Value} {xs : List Int}, IntsAre ws xs → 0 < xs.length → ∃ t, ws.getLast? = some (.int (xs.getLastD 0) t)
  | _, _, .nil, h => absurd h (Nat.lt_irrefl _)
  | _, _, .cons x t .nil, _ => ⟨t, rfl⟩
  | _, _, .cons x t (.cons y u h), _ => by
    obtain ⟨t', e⟩ := intsAre_last (IntsAre.cons y u h) (Nat.succ_pos _)
    refine ⟨t', ?_⟩
    rw [List.getLast?_cons_cons, e]
    simp

section
variable {prog : Program} {w : World} {A : Around} {E : Value → Shared → Prop} {s : Shared} {h₀ : Heap} {L a b l : Addr} {m : Str → Option Value} {news : Led} {vs ws : List Value} {ns : List Int} {k₁ k₂ nn : Nat} {Q : Value → Shared → Prop}

theorem add_gen (F : Fr h₀ L s.heap m) (N : News h₀ L s.heap news) (ha : (a, listOf vs.toArray k₁) ∈ news) (hb : (b, listOf ws.toArray k₂) ∈ news) (hz : vs.length + ws.length ≤ 2 ^ 20)
    (h : ∀ D h', Fr h₀ L h' m → News h₀ L h' ((D, listOf (vs ++ ws).toArray 0) :: news) → (∀ p ∈ news, p.1 < D) → Q (.ref D) { s with heap := h' }) :
    wpAny (model prog w) A (binaryOp .Add (.ref a) (.ref b)) Q E s :=
  add_lists F N (News.isList N ha) (News.isList N hb) (fun h' F' N' => h _ h' F' N' fun p hp => Heap.lt_size (N p hp).1) (Nat.le_trans hz (by decide))

theorem slice_front {value slice : PySem.Expr} {t : Tok} (F : Fr h₀ L s.heap m) (N : News h₀ L s.heap news) (hm : (l, listOf vs.toArray nn) ∈ news) (hz : vs.length ≤ 2 ^ 20)
    (h : ∀ D h', Fr h₀ L h' m → News h₀ L h' ((D, listOf vs.dropLast.toArray 0) :: news) → (∀ p ∈ news, p.1 < D) → Q (.ref D) { s with heap := h' })
    (hs : subscripted slice false (.ref l) (.ref s.heap.objs.size) = operate [.ref s.heap.objs.size, .ref l] (getItem (.ref l) (.ref s.heap.objs.size))) (ht : ∀ r, letTemporaryGo value (.ref l) r = pure ()) :
    wpAny (model prog w) A (subscriptTail value slice (.ref l) (.ref s.heap.objs.size)) Q E { s with heap := s.heap.push { cls := .type "slice", data := .fields #[.none, .int (-1) t, .none] } } :=
  kmk_slice_lit F N (News.isList N hm) .none (.int _ _) (pick_front vs) h hs ht (by simp only [List.size_toArray]; exact Nat.le_trans hz (by decide))

theorem slice_frontI {value slice : PySem.Expr} {t : Tok} (F : Fr h₀ L s.heap m) (N : News h₀ L s.heap news) (hm : (l, listOf vs.toArray nn) ∈ news) (hi : IntsAre vs ns) (hz : ns.length ≤ 2 ^ 20)
    (h : ∀ D us h', Fr h₀ L h' m → News h₀ L h' ((D, listOf (List.toArray us) 0) :: news) → (∀ p ∈ news, p.1 < D) → IntsAre us ns.dropLast → Q (.ref D) { s with heap := h' })
    (hs : subscripted slice false (.ref l) (.ref s.heap.objs.size) = operate [.ref s.heap.objs.size, .ref l] (getItem (.ref l) (.ref s.heap.objs.size))) (ht : ∀ r, letTemporaryGo value (.ref l) r = pure ()) :
    wpAny (model prog w) A (subscriptTail value slice (.ref l) (.ref s.heap.objs.size)) Q E { s with heap := s.heap.push { cls := .type "slice", data := .fields #[.none, .int (-1) t, .none] } } :=
  slice_front F N hm (by rw [hi.length]; exact hz) (fun D h' F' N' l1 => h D _ h' F' N' l1 (intsAre_drop1 hi)) hs ht

theorem sub_lastI {u : Tok} {value slice : PySem.Expr} (N : News h₀ L s.heap news) (hm : (l, listOf vs.toArray nn) ∈ news) (hi : IntsAre vs ns) (h0 : 0 < ns.length) (hz : ns.length < 2 ^ 40)
    (h : ∀ t, Q (.int (ns.getLastD 0) t) s) (hs : subscripted slice false (.ref l) (.int (-1) u) = operate [.ref l, .int (-1) u] (getItem (.ref l) (.int (-1) u)) := by with_unfolding_all rfl) : wpAny (model prog w) A (subscriptTail value slice (.ref l) (.int (-1) u)) Q E s := by
  obtain ⟨t, e⟩ := intsAre_last hi h0
  exact sub_last N hm e (by rw [hi.length]; exact hz) (h t) hs
end

open Classical in
theorem ne_empty {prog : Program} {w : World} {A : Around} {E : Value → Shared → Prop} {s : Shared} {h₀ : Heap} {L a b : Addr} {news n₁ : Led} {xs : List Value} {ka kb : Nat} {ds : List Dat} {Q : Value → Shared → Prop}
    (N : News h₀ L s.heap news) (ma : (a, listOf xs.toArray ka) ∈ news) (Da : DatAll n₁ xs ds) (sa : ∀ p ∈ n₁, p ∈ news) (mb : (b, listOf #[] kb) ∈ news) (ha : ∀ d ∈ ds, kqdOk 8 d = true) (hne : ds ≠ []) (hu : A.units + 64 < cLine) (h : Q (.bool true) s) :
    wpAny (model prog w) A (compareOp .NotEq (.ref a) (.ref b)) Q E s := by
  refine kqd_ne N ma rfl rfl Da sa mb rfl (ys := []) rfl (.nil : DatAll [] [] []) (fun _ h => nomatch h) ha (fun _ h => nomatch h) hu ?_
  rw [decide_eq_false hne]; exact h

/-- a call whose result is a list of ints: the ledger gets that list -/
theorem PC.useInts {w : World} {mean : ExcName → Option Value} {mg mb : Str → Option Value} {n : Nat} {f : Addr} {vs : List Value} {Pre : Heap → Prop} {ns : List Int} (C : PC w mean mg mb n f vs Pre (IntsOut ns))
    {dp un : Nat} {gd : Option (List Code)} {cn : Str} {cs : Scope} {a : Addr} {ccd : Value} {cl : List (Str × Addr)} {outer : List Env} {A₀ : Around} {base h₀ : Heap} {L : Addr} {m : Str → Option Value} {news : Led} {s : Shared} {Q E : Value → Shared → Prop}
    (B : Below A₀ base outer h₀) (F : Fr h₀ L s.heap m) (X : (Mine.hd.heap_39 w.params).In h₀) (N : News h₀ L s.heap news)
    (T : Top Mine.hd.view_39 (looseW Mine.hd.view_39 [Str.ofString "_NO_SEP", Str.ofString "b2a_hex", Str.ofString "hexlify"]) mean mg mb h₀)
    (hk : cs.kind = .function) (hd : dp + n < recursionLimit) (hu : un + 20 * n < cLine) (pre : Pre s.heap)
    (ret : ∀ l ws nn h' tk', Up s.heap h' → s.heap.get? l = none → Fr h₀ L h' m → News h₀ L h' ((l, listOf (List.toArray ws) nn) :: news) → (∀ p ∈ news, p.1 ≠ l) → IntsAre ws ns → Q (.ref l) { s with heap := h', toks := tk' }) :
    wpAny (model PySem.Challenge.rw_pd0187_01.row.prog w) (ktrTop dp un gd cn cs L a ccd cl outer) (call (.ref f) vs) Q E s := by
  refine PC.use C B F X N T hk hd hu pre fun r h' tk' nw U NI F' N' R => ?_
  obtain ⟨l, ws, nn, rfl, hm, hI⟩ := R
  refine ret l ws nn h' tk' U (NI _ hm).2 F' (fun p hp => ?_) (fun p hp e => ?_) hI
  · rcases List.mem_cons.mp hp with rfl | hp
    · exact N' _ (List.mem_append_left _ hm)
    · exact N' _ (List.mem_append_right _ hp)
  · have := (N p hp).1
    rw [e, (NI _ hm).2] at this; cases this
end Mine
end
section
open PySem PySem.W PySem.Spec PySem.Calls PyProof.Rows PyProof.Rows.LCg PyProof.Rows.LCp
set_option Elab.async false
set_option maxRecDepth 100000
set_option maxHeartbeats 8000000
namespace Mine
def pairD (p : Int × Int) : Dat := .tuple [.int p.1, .int p.2]

section
variable {prog : Program} {w : World} {A : Around} {E : Value → Shared → Prop} {s : Shared} {h₀ : Heap} {L : Addr} {m : Str → Option Value} {env : Env}

theorem firsts_rest {x x₂ : Str} {nx : Pos} {scope : Scope} {cl : List (Str × Addr)} {s₂ : Shared} {SS : Led → Prop} {news : Led} {dv : List Value} {ps : List (Int × Int)} {Fin : List Value → Led → Prop}
    (hk : scope.kind = .function) (hx : scope.names.lookup x = some .local) (hd : (x == ("__debug__" : Str)) = false) (hD : DatAll news dv (ps.map pairD)) (hS : SS news) (hF : ∀ ys, IntsAre ys (ps.map (·.1)) → Fin ys news) :
    ∀ k i ys, i + k = ps.length → IntsAre ys ((ps.take i).map (·.1)) → CompRestP prog w A h₀ L m env (.Name x nx) x x₂ scope cl s₂ SS (fun i v => dv.toArray[i]? = some v) Fin k i ys news
  | 0, i, ys, e, hI => by
    refine CompRestP.zero (hF ys ?_)
    rw [show i = ps.length by (first | lia | omega), List.take_length] at hI
    exact hI
  | k + 1, i, ys, e, hI => by
    refine CompRestP.succ fun v hv => ?_
    have hi : i < (ps.map pairD).length := by rw [List.length_map]; (first | lia | omega)
    obtain ⟨v', hv', hp⟩ := hD.get hi
    have ev : v' = v := by simp at hv; rw [hv'] at hv; exact Option.some.inj hv
    subst ev
    have hi' : i < ps.length := by (first | lia | omega)
    have e1 : (ps.map pairD)[i]'hi = pairD (ps[i]'hi') := by simp
    rw [e1] at hp
    cases hp with
    | tuple hm hr =>
      cases hr with
      | cons ha hr =>
        cases hr with
        | cons hb hr =>
          cases hr
          cases ha
          refine ⟨_, _, _, _, _, rfl, hm, rfl, rfl, ?_⟩
          intro I oI C oC D m₂ h tk E' hC hx1 hx2 F N off ne
          refine nameC_L (NsObj.ns hC (N (C, oC) (.tail _ (.head _))).1) hx1 hk (lookup_relabel_local hx) hd ?_
          refine CompEnd.intro F N news (fun p hp => hp) off hS ?_
          refine firsts_rest hk hx hd hD hS hF k (i + 1) _ (by (first | lia | omega)) ?_
          rw [List.take_add_one, List.getElem?_eq_getElem hi', List.map_append]
          exact hI.append (.cons _ _ .nil)

theorem append_gen {D : Addr} {vs : List Value} {n : Nat} {y : Value} {news : Led} {Q : Value → Shared → Prop} (F : Fr h₀ L s.heap m) (N : News h₀ L s.heap news) (hm : (D, listOf vs.toArray n) ∈ news) (hz : vs.length ≤ 2 ^ 20)
    (h : ∀ h', Fr h₀ L h' m → News h₀ L h' ((D, listOf (vs ++ [y]).toArray (n + 1)) :: news.filter fun p => decide (p.1 ≠ D)) → Q .none { s with heap := h' }) :
    wpAny (model prog w) A (call (.builtin "list.append") [.ref D, y]) Q E s := by
  have N1 : News h₀ L s.heap ((D, listOf vs.toArray n) :: news.filter fun p => decide (p.1 ≠ D)) := fun p hp => by
    rcases List.mem_cons.mp hp with rfl | hp
    · exact N _ hm
    · exact N p (List.mem_filter.mp hp).1
  refine append_K F N1 (Upd.head fun p hp => by simpa using (List.mem_filter.mp hp).2) (fun h' F' N' => h h' F' ?_) (by simp only [List.size_toArray]; exact Nat.le_trans hz (by decide))
  rw [List.push_toArray] at N'
  exact N'

/-- what is asked behind the source -/
def PF (h₀ : Heap) (L : Addr) (m : Str → Option Value) (Q : Value → Shared → Prop) (xv : Value) (s₁ : Shared) : Prop :=
  ∃ (ax : Addr) (dv : List Value) (dn : Nat) (ps : List (Int × Int)) (news : Led), xv = .ref ax ∧ Fr h₀ L s₁.heap m ∧ News h₀ L s₁.heap news ∧ (ax, listOf dv.toArray dn) ∈ news ∧ DatAll news dv (ps.map pairD) ∧ dv.length ≤ 2 ^ 20 ∧
    ∀ D us k h tk, Fr h₀ L h m → News h₀ L h ((D, listOf (List.toArray us) k) :: news) → (∀ p ∈ news, p.1 ≠ D) → IntsAre us (ps.map (·.1)) → Q (.ref D) { s₁ with heap := h, toks := tk }

theorem off1_mem {D : Addr} : ∀ {l : Led}, Off1 D l → ∀ p ∈ l, p.1 ≠ D
  | [], _, _, h => nomatch h
  | q :: r, h, p, hp => by
    rcases List.mem_cons.mp hp with rfl | hp
    · exact h.1
    · exact off1_mem h.2 p hp

theorem comp_firsts {iter : Expr} {x x₂ : Str} {nx px px₂ tp : Pos} {tk} {scope : Scope} {cl : List (Str × Addr)} {pos : Pos} {Q : Value → Shared → Prop} (F₀ : Fr h₀ L s.heap m)
    (hclos : closureFor scope env = pure cl) (hcell : ∀ y ∈ scope.names, y.2 ≠ .cell) (hkind : scope.kind = .function)
    (hnames : ∀ y ∈ scope.names, y.2 = .local → scope.names.lookup y.1 = some .local) (hx : scope.names.lookup x = some .local) (hx₂ : scope.names.lookup x₂ = some .local) (hxx : x ≠ x₂) (hd : (x == ("__debug__" : Str)) = false)
    (hs : ∀ x, foldedSetIterable iter env x = pure x) (hh : A.handled = none)
    (h : wpAny (model prog w) A (eval iter env) (PF h₀ L m Q) E s) :
    wpAny (model prog w) A (eval (.ListComp (.Name x nx) [⟨.Tuple [.Name x px, .Name x₂ px₂] tk tp, iter, [], 0⟩] scope pos) env) Q E s := by
  refine ListComp_P F₀ hclos hcell hkind hnames hx hx₂ hxx (wpAny_mono h (fun xv s₁ h₁ => ?_) fun _ _ e => e) hs
  obtain ⟨ax, dv, dn, ps, news, rfl, F, N, hm, hD, hz, hQ⟩ := h₁
  refine SrcLP.ledger hh F N hm (by simp only [List.size_toArray]; exact Nat.le_trans hz (by decide)) fun g => ?_
  have hl := hD.length
  rw [List.length_map] at hl
  have e : dv.toArray.size = ps.length := by simp [hl]
  rw [e]
  refine firsts_rest hkind hx hd hD (.inr ⟨_, hm, rfl, _, rfl⟩) (fun ys hI D h tk F' N' o1 => ?_) ps.length 0 [] (by (first | lia | omega)) .nil
  exact hQ D ys _ h tk F' N' (off1_mem o1) hI
end
end Mine
end
section
open PySem PySem.W PySem.Spec PySem.Calls PyProof.Rows
set_option Elab.async false
set_option maxRecDepth 100000
set_option maxHeartbeats 8000000
set_option pp.maxSteps 3000
namespace Mine
structure LS where
  done : List (Int × Int)
  value : Int
  size : Int
def sstep (c : LS) (x : Int) : LS :=
  if x % 4 > 1 then ⟨c.done, c.value * 64 + x / 4 % 64, c.size + 1⟩
  else if x % 4 = 1 then ⟨c.done ++ [(c.value * 64 + x / 4 % 64, c.size + 1)], 0, 0⟩
  else if c.size > 0 then ⟨c.done, c.value / 64, c.size - 1⟩
  else match c.done.getLast? with
    | some p => ⟨c.done.dropLast, p.1 / 64, p.2 - 1⟩
    | none => c
def srun (ns : List Int) (i : Nat) : LS := (ns.take i).foldl sstep ⟨[], 0, 0⟩
def rowOf (p : Int × Int) : List Int := (octs p.1 p.2.toNat).dropLast ++ [(octs p.1 p.2.toNat).getLastD 0 - 64]
def octetsOf (c : LS) : List Int := (c.done.map rowOf).flatten ++ octs c.value c.size.toNat
def stateD (c : LS) : Dat := .tuple [.list (c.done.map fun p => .int p.1), .int c.value, .list ((octetsOf c).map .int)]

structure SInv (i : Nat) (c : LS) : Prop where
  v : 0 ≤ c.value
  z : 0 ≤ c.size
  d : ∀ p ∈ c.done, 0 ≤ p.1 ∧ 1 ≤ p.2
  t : c.size + (c.done.map (·.2)).sum ≤ i

theorem sum_ge (l : List (Int × Int)) (h : ∀ q ∈ l, 1 ≤ q.2) : (l.length : Int) ≤ (l.map (·.2)).sum := by
  induction l with
  | nil => exact Int.le_refl _
  | cons q r ih =>
    have h1 := ih fun y hy => h y (.tail _ hy)
    have h2 := h q (.head _)
    simp only [List.map_cons, List.sum_cons, List.length_cons]
    (first | lia | omega)

structure SS where
  ls : LS
  ld : Addr
  dv : List Value
  dn : Nat
  ws : List Value
  nn : Nat
  tv : Tok
  tz : Tok
  tl : Led
  u : Str → Option Value

/-- what stands after the step of the numbers -/
structure Mid (g : Heap) (L la : Addr) (ws : List Value) (nn : Nat) (sd : List Dat) (own : Led) (s : Shared) (c : LS) (c' : SS) (h' : Heap) : Prop where
  fr : ∃ m' : Str → Option Value, Fr g L h' (fun y => if y = Str.ofString "states" then some (Value.ref la) else if y = Str.ofString "done" then some (Value.ref c'.ld) else if y = Str.ofString "value" then some (.int c'.ls.value c'.tv) else if y = Str.ofString "size" then some (.int c'.ls.size c'.tz) else m' y)
  nw : News g L h' ((la, listOf ws.toArray nn) :: (c'.ld, listOf c'.dv.toArray c'.dn) :: (c'.tl ++ own))
  sd : DatAll c'.tl ws sd
  dd : DatAll c'.tl c'.dv (c'.ls.done.map pairD)
  ls : c'.ls = c
  off : OwnOff own (la :: c'.ld :: c'.tl.map (·.1))
  ne : c'.ld ≠ la ∧ ∀ p ∈ c'.tl, p.1 ≠ la

def CutJ (J : Shared → Prop) (f : Flow) (s' : Shared) : Prop := f = .next ∧ J s'
theorem CutJ.mk {J : Shared → Prop} {s' : Shared} (h : J s') : CutJ J .next s' := ⟨rfl, h⟩
theorem cut_execs {M : Model} {A : Around} {E : Value → Shared → Prop} {s : Shared} {st : Stmt} {rest : List Stmt} {env : Env} {Q : Flow → Shared → Prop} (J : Shared → Prop)
    (h1 : wpAny M A (exec st env) (CutJ J) E s) (h2 : ∀ s', J s' → wpAny M A (execs rest env) Q E s') : wpAny M A (execs (st :: rest) env) Q E s := by
  refine wpAny_execs_cons (wpAny_mono h1 (fun f s' h => ?_) fun _ _ e => e)
  obtain ⟨rfl, hj⟩ := h
  exact h2 s' hj

theorem fr_eq {g h : Heap} {L : Addr} {m m₂ : Str → Option Value} (e : m = m₂) (F : Fr g L h m) : Fr g L h m₂ := e ▸ F
theorem cut_mid {g : Heap} {L la : Addr} {ws : List Value} {nn : Nat} {sd : List Dat} {own nw tl' : Led} {s : Shared} {c : LS} {h' : Heap} {tk' : Nat} {m' : Str → Option Value} {cd' : Addr} {dv' : List Value} {dn' : Nat} {v z : Int} {tv tz : Tok} (done' : List (Int × Int))
    (F : Fr g L h' m') (N : News g L h' nw) (e1 : m' (Str.ofString "states") = some (Value.ref la)) (e2 : m' (Str.ofString "done") = some (Value.ref cd')) (e3 : m' (Str.ofString "value") = some (.int v tv)) (e4 : m' (Str.ofString "size") = some (.int z tz))
    (hsub : ∀ p ∈ (la, listOf ws.toArray nn) :: (cd', listOf dv'.toArray dn') :: (tl' ++ own), p ∈ nw) (sd' : DatAll tl' ws sd) (dd : DatAll tl' dv' (done'.map pairD)) (ls : ⟨done', v, z⟩ = c) (off : OwnOff own (la :: cd' :: tl'.map (·.1))) (ne : cd' ≠ la ∧ ∀ p ∈ tl', p.1 ≠ la) :
    CutJ (fun s' => ∃ h' tk' c', s' = { s with heap := h', toks := tk' } ∧ Mid g L la ws nn sd own s c c' h') .next { s with heap := h', toks := tk' } :=
  CutJ.mk ⟨h', tk', ⟨⟨done', v, z⟩, cd', dv', dn', ws, nn, tv, tz, tl', m'⟩, rfl, ⟨⟨m', fr_eq (by funext y; (by_cases h1 : y = Str.ofString "states"); (· rw [if_pos h1, h1, e1]); rw [if_neg h1]; (by_cases h2 : y = Str.ofString "done"); (· rw [if_pos h2, h2, e2]); rw [if_neg h2]; (by_cases h3 : y = Str.ofString "value"); (· rw [if_pos h3, h3, e3]); rw [if_neg h3]; (by_cases h4 : y = Str.ofString "size"); (· rw [if_pos h4, h4, e4]); rw [if_neg h4]) F⟩, fun p hp => N p (hsub p hp), sd', dd, ls, off, ne⟩⟩
theorem fm4 (n : Int) : n.fmod 4 = n % 4 := Int.fmod_eq_emod_of_nonneg _ (by decide)
theorem fd4 (n : Int) : (n.fdiv 4).fmod 64 = n / 4 % 64 := by rw [Int.fmod_eq_emod_of_nonneg _ (by decide), Int.fdiv_eq_ediv_of_nonneg _ (by decide)]
theorem fd64 (n : Int) : n.fdiv 64 = n / 64 := Int.fdiv_eq_ediv_of_nonneg _ (by decide)
theorem sstep1 {d : List (Int × Int)} {v z n : Int} (h : 1 < n.fmod 4) : (⟨d, v * 64 + (n.fdiv 4).fmod 64, z + 1⟩ : LS) = sstep ⟨d, v, z⟩ n := by
  rw [fm4] at h
  rw [fd4, sstep, if_pos h]
theorem sstep2 {d : List (Int × Int)} {v z n : Int} (h : ¬ 1 < n.fmod 4) (h2 : n.fmod 4 = 1) : (⟨d ++ [(v * 64 + (n.fdiv 4).fmod 64, z + 1)], 0, 0⟩ : LS) = sstep ⟨d, v, z⟩ n := by
  rw [fm4] at h h2
  rw [fd4, sstep, if_neg h, if_pos h2]
theorem sstep3 {d : List (Int × Int)} {v z n : Int} (h : ¬ 1 < n.fmod 4) (h2 : n.fmod 4 ≠ 1) (h3 : 0 < z) : (⟨d, v.fdiv 64, z - 1⟩ : LS) = sstep ⟨d, v, z⟩ n := by
  rw [fm4] at h h2
  rw [fd64, sstep, if_neg h, if_neg h2, if_pos h3]
theorem sstep4 {d : List (Int × Int)} {p : Int × Int} {v z n : Int} (h : ¬ 1 < n.fmod 4) (h2 : n.fmod 4 ≠ 1) (h3 : ¬ 0 < z) : (⟨d, p.1.fdiv 64, p.2 - 1⟩ : LS) = sstep ⟨d ++ [p], v, z⟩ n := by
  rw [fm4] at h h2
  rw [fd64, sstep, if_neg h, if_neg h2, if_neg h3]
  simp
theorem sstep5 {v z n : Int} (h : ¬ 1 < n.fmod 4) (h2 : n.fmod 4 ≠ 1) (h3 : ¬ 0 < z) : (⟨[], v, z⟩ : LS) = sstep ⟨[], v, z⟩ n := by
  rw [fm4] at h h2
  rw [sstep, if_neg h, if_neg h2, if_neg h3]
  simp
theorem own_off {own tl : Led} {a b b' : Addr} (h : OwnOff own (a :: b :: tl.map (·.1))) (h' : AllLt b' own) : OwnOff own (a :: b' :: tl.map (·.1)) := fun p hp c hc => by
  rcases List.mem_cons.mp hc with e | hc
  · exact h p hp c (e ▸ .head _)
  · rcases List.mem_cons.mp hc with e | hc
    · rw [e]; exact Nat.ne_of_lt (ktn_ltOf h' p hp)
    · exact h p hp c (.tail _ (.tail _ hc))
theorem own_off2 {own tl : Led} {a b b' D : Addr} {o : Obj} (h : OwnOff own (a :: b :: tl.map (·.1))) (h' : AllLt b' own) (hD : AllLt D own) : OwnOff own (a :: b' :: ((D, o) :: tl).map (·.1)) := fun p hp c hc => by
  rcases List.mem_cons.mp hc with e | hc
  · exact h p hp c (e ▸ .head _)
  · rcases List.mem_cons.mp hc with e | hc
    · rw [e]; exact Nat.ne_of_lt (ktn_ltOf h' p hp)
    · rcases List.mem_cons.mp hc with e | hc
      · rw [e]; exact Nat.ne_of_lt (ktn_ltOf hD p hp)
      · exact h p hp c (.tail _ (.tail _ hc))
theorem allLt_right {D : Addr} {a b : Led} (h : AllLt D (a ++ b)) : AllLt D b := by
  induction a with
  | nil => exact h
  | cons x r ih => exact ih h.2

theorem cut_mid2 {g : Heap} {L la : Addr} {ws : List Value} {nn : Nat} {sd : List Dat} {own tl : Led} {x : Addr × Obj} {rest : Led} {s : Shared} {c : LS} {h' : Heap} {tk' : Nat} {m' : Str → Option Value} {cd cd' D1 : Addr} {o : Obj} {dv' : List Value} {dn' : Nat} {v z : Int} {tv tz : Tok} (done' : List (Int × Int))
    (F : Fr g L h' m') (N : News g L h' ((cd', listOf dv'.toArray dn') :: x :: (D1, o) :: rest)) (e1 : m' (Str.ofString "states") = some (Value.ref la)) (e2 : m' (Str.ofString "done") = some (Value.ref cd')) (e3 : m' (Str.ofString "value") = some (.int v tv)) (e4 : m' (Str.ofString "size") = some (.int z tz))
    (hsub : ∀ p ∈ (la, listOf ws.toArray nn) :: (tl ++ own), p ∈ rest) (sd' : DatAll tl ws sd) (dd : DatAll ((D1, o) :: tl) dv' (done'.map pairD)) (ls : ⟨done', v, z⟩ = c) (off : OwnOff own (la :: cd :: tl.map (·.1))) (l1 : AllLt cd' own) (l2 : AllLt D1 own) (n1 : la < cd') (n2 : la < D1) (n3 : ∀ p ∈ tl, p.1 ≠ la) :
    CutJ (fun s' => ∃ h' tk' c', s' = { s with heap := h', toks := tk' } ∧ Mid g L la ws nn sd own s c c' h') .next { s with heap := h', toks := tk' } := by
  refine cut_mid (tl' := (D1, o) :: tl) (dv' := dv') (dn' := dn') done' F N e1 e2 e3 e4 (fun q hq => ?_) (sd'.mono fun _ hp => .tail _ hp) dd ls (own_off2 off l1 l2) ⟨Nat.ne_of_gt n1, fun p hp => by rcases List.mem_cons.mp hp with rfl | hp; exact Nat.ne_of_gt n2; exact n3 p hp⟩
  rcases List.mem_cons.mp hq with rfl | hq
  · exact .tail _ (.tail _ (.tail _ (hsub _ (.head _))))
  · rcases List.mem_cons.mp hq with rfl | hq
    · exact .head _
    · rcases List.mem_cons.mp hq with rfl | hq
      · exact .tail _ (.tail _ (.head _))
      · exact .tail _ (.tail _ (.tail _ (hsub _ (.tail _ hq))))

theorem datAll_ints {news : Led} : ∀ {ws : List Value} {ns : List Int}, IntsAre ws ns → DatAll news ws (ns.map .int)
  | _, _, .nil => .nil
  | _, _, .cons i t h => .cons (.int i t) (datAll_ints h)
theorem srun_succ {ns : List Int} {i : Nat} {n : Int} (h : ns[i]? = some n) : srun ns (i + 1) = sstep (srun ns i) n := by
  unfold srun
  rw [List.take_add_one, h, List.foldl_append]; rfl
theorem own_off3 {own tl : Led} {a b D2 D1 D : Addr} {o2 o1 o : Obj} (h : OwnOff own (a :: b :: tl.map (·.1))) (h2 : AllLt D2 own) (h1 : AllLt D1 own) (h0 : ∀ p ∈ own, p.1 ≠ D) : OwnOff own (a :: b :: ((D2, o2) :: (D1, o1) :: (D, o) :: tl).map (·.1)) := fun p hp c hc => by
  rcases List.mem_cons.mp hc with e | hc
  · exact h p hp c (e ▸ .head _)
  · rcases List.mem_cons.mp hc with e | hc
    · exact h p hp c (e ▸ .tail _ (.head _))
    · rcases List.mem_cons.mp hc with e | hc
      · rw [e]; exact Nat.ne_of_lt (ktn_ltOf h2 p hp)
      · rcases List.mem_cons.mp hc with e | hc
        · rw [e]; exact Nat.ne_of_lt (ktn_ltOf h1 p hp)
        · rcases List.mem_cons.mp hc with e | hc
          · rw [e]; exact h0 p hp
          · exact h p hp c (.tail _ (.tail _ hc))
theorem flat_le (k : Nat) : ∀ (l : List (List Int)), (∀ x ∈ l, x.length ≤ k) → l.flatten.length ≤ k * l.length
  | [], _ => Nat.zero_le _
  | x :: r, h => by
    have h1 := flat_le k r fun y hy => h y (.tail _ hy)
    have h2 := h x (.head _)
    rw [List.flatten_cons, List.length_append, List.length_cons, Nat.mul_add]
    (first | lia | omega)
theorem row_len (p : Int × Int) (h : p.2 ≤ 16) : (rowOf p).length ≤ 17 := by
  simp only [rowOf, List.length_append, List.length_dropLast, octs_length, List.length_cons, List.length_nil]; (first | lia | omega)
theorem le_sum : ∀ (l : List (Int × Int)), (∀ q ∈ l, 1 ≤ q.2) → ∀ p ∈ l, p.2 ≤ (l.map (·.2)).sum
  | q :: r, h, p, hp => by
    have h3 := sum_ge r fun y hy => h y (.tail _ hy)
    simp only [List.map_cons, List.sum_cons]
    rcases List.mem_cons.mp hp with rfl | hp
    · (first | lia | omega)
    · have h1 := le_sum r (fun y hy => h y (.tail _ hy)) p hp
      have h2 := h q (.head _)
      (first | lia | omega)
theorem last_getD (l : List Int) (h : 0 < l.length) : l.getD ((-1 : Int) + (l.length : Int)).toNat 0 = l.getLastD 0 := by
  have e : ((-1 : Int) + (l.length : Int)).toNat = l.length - 1 := by (first | lia | omega)
  rw [e, List.getLastD_eq_getLast?, List.getLast?_eq_getElem?, List.getD_eq_getElem?_getD]
structure IS where
  lo : Addr
  ws : List Value
  nn : Nat
  u : Str → Option Value
theorem sinv_step {ns : List Int} {i : Nat} {n : Int} {c : LS} (_h : ns[i]? = some n) (h : SInv i c) : SInv (i + 1) (sstep c n) := by
  obtain ⟨d, v, z⟩ := c
  obtain ⟨hv, hz, hd, ht⟩ := h
  dsimp only at hv hz hd ht
  unfold sstep
  dsimp only
  split
  · exact ⟨by dsimp only; (first | lia | omega), by dsimp only; (first | lia | omega), hd, by dsimp only; (first | lia | omega)⟩
  · split
    · refine ⟨by dsimp only; (first | lia | omega), by dsimp only; (first | lia | omega), fun p hp => ?_, ?_⟩
      · rcases List.mem_append.mp hp with hp | hp
        · exact hd p hp
        · rw [List.mem_singleton.mp hp]; dsimp only; (first | lia | omega)
      · dsimp only
        rw [List.map_append, List.sum_append]
        simp only [List.map_cons, List.map_nil, List.sum_cons, List.sum_nil]; (first | lia | omega)
    · split
      · exact ⟨by dsimp only; (first | lia | omega), by dsimp only; (first | lia | omega), hd, by dsimp only; (first | lia | omega)⟩
      · split
        · rename_i p hp
          have e := snoc_of_last hp
          rw [e] at hd ht
          have h1 := hd p (List.mem_append_right _ (.head _))
          rw [List.map_append, List.sum_append] at ht
          simp only [List.map_cons, List.map_nil, List.sum_cons, List.sum_nil] at ht
          exact ⟨by dsimp only; (first | lia | omega), by dsimp only; (first | lia | omega), fun q hq => hd q (List.mem_append_left _ hq), by dsimp only; (first | lia | omega)⟩
        · exact ⟨hv, hz, hd, by dsimp only; (first | lia | omega)⟩
def pairObj (x y : Value) : Obj := { cls := .type "tuple", data := .seq #[x, y] }
theorem law_states (w : World) (mean : ExcName → Option Value) (mg mb : Str → Option Value) (l : Addr) (vs : List Value) (ns : List Int) (hi : IntsAre vs ns) (hlen : ns.length ≤ 16) :
    PC w mean mg mb 5 188 [.ref l] (fun h => h.IsList l vs.toArray) (fun nw r => ∃ l ws nn, r = .ref l ∧ (l, listOf ws.toArray nn) ∈ nw ∧ DatAll nw ws ((List.range ns.length).map fun i => stateD (srun ns (i + 1)))) := by
  w_top off
  k_with_none
  (k_with "call builtin:issubclass" => (k_here; k_dflt (refine' issub_tuple ?kD ?kc ?_; (case kD => exact (News.get (by k_asm) (by k_mem))); (case kc => exact rfl); k_whole)))
  (k_with "exec For Name Call cons nil" => (k_here; (with_unfolding_all refine' For_invVF ?kF0 ?k1 ?k2 ?_; (case kF0 => k_asm); (case k1 => exact rfl); (case k2 => exact rfl); k_whole)))
  (k_with "exec For Name Name cons nil" => (k_here; (with_unfolding_all refine' For_invVF ?kF0 ?k1 ?k2 ?_; (case kF0 => k_asm); (case k1 => exact rfl); (case k2 => exact rfl); k_whole)))
  (k_with "pyIter ref" => (k_here; (with_reducible show wpAny _ _ (pyIter (Value.ref _)) (fun it s₂ => LoopAtV _ _ _ _ _ _ _ _ _ it s₂) _ _); refine Stop.mk ?_))
  (k_with "eval ListComp" => (k_here; (with_reducible apply comp_evalG); (case hclos => with_unfolding_all rfl); (case hcell => decide); (case hkind => with_unfolding_all rfl); (case hnames => decide); (case hx => with_unfolding_all rfl); (case hs => intro _; with_unfolding_all rfl)))
  (k_with "pyIter ref" => (k_here; (with_reducible show wpAny _ _ (pyIter (Value.ref _)) (fun it s₂ => CG _ _ _ _ _ _ _ _ _ it s₂) _ _); refine Stop.mk ?_))
  (k_with "binaryOp Pow int int" => (k_here; (with_reducible refine pow_int_small ?kb1 ?kb2 ?kb3 ?_); (case kb1 => (first | lia | omega)); (case kb2 => (first | lia | omega)); (case kb3 => decide)))
  (k_with "binaryOp FloorDiv int int" => (k_here; (with_reducible refine floordiv_int (pow64_ne _) ?_ (Or.inl (PyProof.noPylong_of_log2 (pow64_log _ (by (first | lia | omega))))))))
  (k_with "binaryOp FloorDiv int int" => (k_here; (with_reducible refine floordiv_int (by decide) ?_ (Or.inl (PyProof.noPylong_of_log2 (by decide +kernel))))))
  (k_with "binaryOp Mod int int" => (k_here; (with_reducible refine mod_int' (by decide) ?_ (Or.inl (PyProof.noPylong_of_log2 (by decide +kernel))))))
  (k_with "eval Name" => (k_here; (with_reducible show wpAny _ _ (eval (Expr.Name _ _) (compEnvC _ _ _ _)) _ _ _); (with_unfolding_all refine' nameC_F ?N ?c ?m ?d ?k ?x ?dd ?_; (case k => exact rfl); (case x => exact rfl); (case dd => decide); (case N => with_reducible assumption); (case c => exact rfl); (case m => k_mem); (case d => k_asm); k_whole)))
  (k_with "eval Name" => (k_here; (with_reducible show wpAny _ _ (eval (Expr.Name _ _) (compEnvC _ _ _ _)) _ _ _); (with_unfolding_all refine' nameC_L ?n ?v ?k ?x ?d ?_; (case k => exact rfl); (case x => exact rfl); (case d => decide); (case n => with_reducible assumption); (case v => with_reducible assumption); k_whole)))
  (k_with "call ref" => (k_here; (first | (with_reducible show wpAny _ _ (call (Value.ref 138) _) _ _ _) | (with_reducible show wpAny _ _ (call (Value.ref 159) _) _ _ _) | (with_reducible show wpAny _ _ (call (Value.ref 44) _) _ _ _) | (with_reducible show wpAny _ _ (call (Value.ref 35) _) _ _ _)); k_dflt ((refine wpAny_call ?_); (refine' code_def ?k1 ?k2 ?k3 ?k4 ?k5 ?kA ?kF ?kK ?k6 ?k7 ?k8 ?k9 ?kB ?_ ?c2 ?c3 ?c4 ?c5); (case kA => exact rfl); (case kF => exact rfl); (case kK => first | exact rfl | assumption); (case k1 => k_asm); (case k2 => k_asm); (case k3 => k_asm); (case k4 => k_asm); (case k5 => k_asm); (case k6 => k_is); (case k7 => k_is); (case k8 => ktr_room); (case k9 => first | exact BindsTo.of_eq rfl | exact binds_K (by k_in) rfl (by k_is) rfl rfl rfl); (case c5 => decide); (case kB => exact locs rfl); (case c2 => exact rfl); (case c3 => exact rfl); (case c4 => exact rfl); k_whole; (intro _ _ _ _ _ _ _ _ _); (try dsimp only); (try k_fold))))
  (k_with "exec Assign cons ListComp" => (k_here; (with_reducible apply comp_assignG); (case hsw => with_unfolding_all rfl); (case hclos => with_unfolding_all rfl); (case hcell => decide); (case hkind => with_unfolding_all rfl); (case hnames => decide); (case hx => with_unfolding_all rfl); (case hy => with_unfolding_all rfl); (case hp => with_unfolding_all rfl); (case hs => intro _; with_unfolding_all rfl)))
  (k_with "pyIter ref" => (k_here; (with_reducible show wpAny _ _ (pyIter (Value.ref _)) (fun it s₂ => CGA _ _ _ _ _ _ _ _ _ _ it s₂) _ _); refine Stop.mk ?_))
  (k_with "pyIter str" => (k_here; (with_reducible show wpAny _ _ (pyIter (Value.str _ _)) (fun it s₂ => CGA _ _ _ _ _ _ _ _ _ _ it s₂) _ _); refine Stop.mk ?_))
  (k_with "pyIter bytes" => (k_here; (with_reducible show wpAny _ _ (pyIter (Value.bytes _ _)) (fun it s₂ => CG _ _ _ _ _ _ _ _ _ it s₂) _ _); refine Stop.mk ?_))
  (k_with "ite" => (k_here; first | (refine ite_pos (by with_reducible assumption) ?_) | (refine ite_neg (by with_reducible assumption) ?_)))
  (k_with "call ref" => (k_here; (with_reducible show wpAny _ _ (call (Value.ref 124) [Value.str _ _]) _ _ _); (k_dflt (refine' PC.useStr (fspath_str _ _ _ _ _ _) ?B ?F ?X ?N ?T ?hk ?hd ?hu trivial ?_; ((case B => k_asm); (case F => k_asm); (case X => k_asm); (case N => k_asm); (case T => k_asm); (case hk => first | exact rfl | assumption); (case hd => ktr_room); (case hu => ktr_units)); k_whole)); (intro _ _ _ _ _ _ _); (try dsimp only); (try k_sweep)))
  (k_with "call ref" => (k_here; (with_reducible show wpAny _ _ (call (Value.ref 152) [Value.str _ _]) _ _ _); (k_dflt (refine' PC.usePair (SplitAt.pc ?C _) ?B ?F ?X ?N ?T ?hk ?hd ?hu trivial ?_; (case C => with_reducible assumption); ((case B => k_asm); (case F => k_asm); (case X => k_asm); (case N => k_asm); (case T => k_asm); (case hk => first | exact rfl | assumption); (case hd => ktr_room); (case hu => ktr_units)); k_whole)); (intro _ _ _ _ _ _ _ _ _); (try dsimp only); (try k_sweep)))
  (k_with "truthy str" => (k_here; (with_reducible show wpAny _ _ (PySem.truthy (Value.str _ _)) _ _ _); (refine truthy_yes (by (first | lia | omega)) (by (first | lia | omega)) ?_)))
  (k_with "truthy ref" => (k_here; (with_reducible show wpAny _ _ (PySem.truthy (Value.ref _)) _ _ _); (k_dflt (first | (refine' truthy_listY ?mtyN ?mtym ?mtya ?mtyb ?_; (case mtyN => k_asm); (case mtym => k_mem); (case mtya => (first | lia | omega)); (case mtyb => (first | lia | omega)); k_whole) | (refine' truthy_listN ?mtnN ?mtnm ?mtna ?_; (case mtnN => k_asm); (case mtnm => k_mem); (case mtna => (first | lia | omega)); k_whole)))))
  (k_with "subscriptTail" => (k_here; (with_reducible show wpAny _ _ (subscriptTail _ _ (Value.ref _) (Value.int (-1) _)) _ _ _); k_dflt (refine' sub_last ?mslN ?mslm ?mslv ?mslz ?_ ?msls; (case mslN => k_asm); (case mslm => k_mem); (case mslv => with_reducible assumption); (case mslz => (first | lia | omega)); (case msls => with_unfolding_all rfl); k_whole)))
  (k_with "call builtin:list.pop" => (k_here; k_dflt (refine' kl_pop ?mplF ?mplN ?mple ?mplU ?mplz ?_; (case mplF => k_asm); (case mplN => k_asm); (case mple => with_reducible assumption); (case mplU => k_upd); (case mplz => with_reducible assumption); k_whole); intro _ _ _; (try k_sweep)))
  (k_with "call builtin:str.join" => (k_here; (with_reducible show wpAny _ _ (call (Value.builtin _) [Value.str _ _, Value.ref _]) _ _ _); k_dflt (refine' join_list ?mjnl ?mjni ?mjnk ?_; (case mjnl => exact News.isList (by k_asm) (by k_mem)); (case mjni => with_reducible assumption); (case mjnk => with_reducible assumption); k_whole); intro _ _))
  (k_with "call builtin:list.append" => (k_here; (with_reducible show wpAny _ _ (call (Value.builtin _) [Value.ref _, Value.ref _]) _ _ _); k_dflt (refine' append_gen ?mapF ?mapN ?mapU ?mapz ?_; (case mapF => k_asm); (case mapN => k_asm); (case mapU => k_mem); (case mapz => (first | lia | omega)); k_whole); intro _ _ _; (try k_sweep)))
  (k_with "eval ListComp" => (k_here; (with_reducible show wpAny _ _ (eval (Expr.ListComp (Expr.Name _ _) _ _ _) _) _ _ _); k_dflt (refine' comp_firsts ?mcfF ?mcfc ?mcfl ?mcfk ?mcfn ?mcfx ?mcfy ?mcfz ?mcfd ?mcfs ?mcfh ?_; (case mcfF => k_asm); (case mcfc => with_unfolding_all rfl); (case mcfl => decide); (case mcfk => with_unfolding_all rfl); (case mcfn => decide); (case mcfx => with_unfolding_all rfl); (case mcfy => with_unfolding_all rfl); (case mcfz => decide); (case mcfd => decide); (case mcfs => (intro _; with_unfolding_all rfl)); (case mcfh => with_unfolding_all rfl); k_whole)))
  (k_with "binaryOp Add ref ref" => (k_here; (with_reducible show wpAny _ _ (binaryOp _ (Value.ref _) (Value.ref _)) _ _ _); (first
    | (k_dflt (refine' kmk_add_ints ?maiF ?maiN ?maia ?maib ?maii ?maij ?_ ?maiz; (case maiF => k_asm); (case maiN => k_asm); (case maia => kmk_list); (case maib => kmk_list); (case maii => l_ints); (case maij => l_ints); (case maiz => first | kmk_sum | (simp only [List.length_append, List.length_dropLast, List.length_cons, List.length_nil, sizeLine_eq]; (first | lia | omega)))); (intro _ _ _ _ _ _ _); (try walk_at "M.lt"); (try k_sweep))
    | (k_dflt (refine' add_gen ?magF ?magN ?maga ?magb ?magz ?_; (case magF => k_asm); (case magN => k_asm); (case maga => k_mem); (case magb => k_mem); (case magz => first | (first | lia | omega) | (simp only [List.length_append, List.length_cons, List.length_nil]; (first | lia | omega))); k_whole); (intro _ _ _ _ _); (try walk_at "M.lt"); (try k_sweep)))))
  (k_with "subscriptTail Name Slice ref ref" => (k_here; (with_reducible show wpAny _ _ (subscriptTail _ (PySem.Expr.Slice _ _ none _) (Value.ref _) (Value.ref _)) _ _ _); (first
    | (k_dflt (refine' slice_frontI ?msiF ?msiN ?msim ?msii ?msiz ?_ ?msis ?msit; (case msiF => k_asm); (case msiN => k_asm); (case msim => k_mem); (case msii => with_reducible assumption); (case msiz => (first | lia | omega)); (case msis => with_unfolding_all rfl); (case msit => kmk_pure); k_whole); (intro _ _ _ _ _ _ _); (try walk_at "M.lt"); (try k_sweep))
    | (k_dflt (refine' slice_front ?msfF ?msfN ?msfm ?msfz ?_ ?msfs ?msft; (case msfF => k_asm); (case msfN => k_asm); (case msfm => k_mem); (case msfz => (first | lia | omega)); (case msfs => with_unfolding_all rfl); (case msft => kmk_pure); k_whole); (intro _ _ _ _ _); (try walk_at "M.lt"); (try k_sweep)))))
  (k_with "subscriptTail" => (k_here; (with_reducible show wpAny _ _ (subscriptTail _ _ (Value.ref _) (Value.int (-1) _)) _ _ _); k_dflt (refine' sub_lastI ?mliN ?mlim ?mlii ?mliz ?mliy ?_ ?mlis; (case mliN => k_asm); (case mlim => k_mem); (case mlii => with_reducible assumption); (case mliz => (first | lia | omega)); (case mliy => (first | lia | omega)); (case mlis => with_unfolding_all rfl); k_whole); intro _))
  (k_with "call ref" => (k_here; (with_reducible show wpAny _ _ (call (Value.ref 183) [Value.int _ _, Value.int _ _]) _ _ _); (k_dflt (refine' PC.useInts (law_octets _ _ _ _ _ _ _ _ ?o1 ?o2 ?o3) ?B ?F ?X ?N ?T ?hk ?hd ?hu trivial ?_; (case o1 => (first | lia | omega)); (case o2 => (first | lia | omega)); (case o3 => (first | lia | omega)); ((case B => k_asm); (case F => k_asm); (case X => k_asm); (case N => k_asm); (case T => k_asm); (case hk => first | exact rfl | assumption); (case hd => ktr_room); (case hu => ktr_units)); k_whole)); (intro _ _ _ _ _ _ _ _ _ _ _); (try dsimp only); (try k_sweep)))
  (k_with "compareOp NotEq ref ref" => (k_here; (with_reducible show wpAny _ _ (compareOp CmpOp.NotEq (Value.ref _) (Value.ref _)) _ _ _); k_dflt (refine' ne_empty ?mneN ?mnea ?mneD ?mnes ?mneb ?mneo ?mnen ?mneu ?_; (case mneN => k_asm); (case mnea => k_mem); (case mneD => with_reducible assumption); (case mnes => exact fun p9 h9 => .tail _ (.tail _ (.tail _ (.tail _ (List.mem_append_left _ h9))))); (case mneb => k_mem); (case mneo => with_reducible assumption); (case mnen => with_reducible assumption); (case mneu => ke_room); k_whole)))
  (k_with "exec For Tuple Name cons nil" => (k_here; (with_unfolding_all refine wpAny_For ?_ (by intro _; with_unfolding_all rfl)); k_whole))
  (k_with "pyIter ref" => (k_here; (with_reducible show wpAny _ _ (pyIter (Value.ref _)) (fun it s₂ => codeAny _ _ _ _ s₂) _ _); refine Stop.mk ?_))
  have mFill : ∀ P : Params, (Mine.hd.heap_39 P).In {} → PySem.Challenge.rw_pd0187_01.Holds → True := by
    k_fill
    exact fun _ _ _ => trivial
  clear mFill
  refine' PC.of [(Str.ofString "steps", .ref l)] (fun _ _ u h => h.at fun o e => u _ _ e) ?ho ?hcd ?hbind ?hloc ?hco ?hgen ?hk ?hcell ?h
  (case ho => k_is)
  (case hcd => k_is)
  (case hbind => exact fun _ _ => BindsTo.of_eq rfl)
  (case hloc => exact locs rfl)
  (case hco => exact rfl)
  (case hgen => exact rfl)
  (case hk => exact rfl)
  (case hcell => decide)
  case h =>
    intro dp un gd env outer A₁ base g L s Q B F X T N pre hd hu hret
    k_steps
    rename_i la h5 l1 h4 tk0 ld h3 l2 h2 h1 h0 F1 N1
    unfold Stop
    dsimp only at F1
    have F2 := fr_ov (fr_ov (fr_ov (fr_ov F1 (Str.ofString "size") _ rfl) (Str.ofString "value") _ rfl) (Str.ofString "done") _ rfl) (Str.ofString "states") _ rfl
    refine loop_base (ns := ns) (fun i (c : SS) => c.ls = srun ns i ∧ SInv i c.ls ∧ DatAll c.tl c.ws ((List.range i).map fun i => stateD (srun ns (i + 1))) ∧ DatAll c.tl c.dv (c.ls.done.map pairD) ∧ c.ld ≠ la ∧ ∀ p ∈ c.tl, p.1 ≠ la)
      (fun c y => if y = Str.ofString "states" then some (Value.ref la) else if y = Str.ofString "done" then some (Value.ref c.ld) else if y = Str.ofString "value" then some (.int c.ls.value c.tv) else if y = Str.ofString "size" then some (.int c.ls.size c.tz) else c.u y)
      (fun c => (la, listOf c.ws.toArray c.nn) :: (c.ld, listOf c.dv.toArray c.dn) :: c.tl) ⟨⟨[], 0, 0⟩, ld, [], 0, [], 0, _, _, [], _⟩ rfl pre hi F2 N1 ?_ (fun z hz => rfl) ?_ ?_ ?_
    · exact ⟨rfl, ⟨Int.le_refl 0, Int.le_refl 0, (fun _ h => nomatch h), Int.le_refl 0⟩, .nil, .nil, Nat.ne_of_gt l2, fun _ h => nomatch h⟩
    · intro p hp
      rcases List.mem_cons.mp hp with rfl | hp
      · exact .tail _ (.head _)
      · rw [List.mem_singleton.mp hp]; exact .head _
    · intro i c n t1 h tk own hn hst hoff F' N'
      obtain ⟨cl, cd, dv, dn, ws, nn, tv, tz, tl, u⟩ := c
      obtain ⟨e1, hinv, hws, hdv, hne0⟩ := hst
      dsimp only at e1 hinv hws hdv hne0 F' N' hoff ⊢
      obtain ⟨hv0, hz0, hd0, ht0⟩ := hinv
      obtain ⟨done, value, size⟩ := cl
      dsimp only at hv0 hz0 hd0 ht0 hdv F'
      have hil : i < ns.length := by rcases Nat.lt_or_ge i ns.length with q | q; exact q; rw [List.getElem?_eq_none q] at hn; cases hn
      refine cut_execs (fun s' => ∃ h' tk' c', s' = { s with heap := h', toks := tk' } ∧ Mid g L la ws nn ((List.range i).map fun i => stateD (srun ns (i + 1))) own s (sstep ⟨done, value, size⟩ n) c' h') ?_ ?_
      · rcases List.eq_nil_or_concat done with hdn | ⟨dl, p, hdn⟩
        · subst hdn
          have hdv' : dv = [] := by cases hdv; rfl
          subst hdv'
          have N3 : News g L h ((la, listOf ws.toArray nn) :: (cd, listOf ([] : List Value).toArray dn) :: (tl ++ own)) := N'
          clear N'
          k_steps
          · (rename Fr _ _ _ _ => FF); (rename News _ _ _ _ => NN)
            exact cut_mid [] FF NN rfl rfl rfl rfl (fun p hp => hp) hws .nil (sstep1 (by assumption)) hoff hne0
          · rename_i D1 hh1 lA lB' hh2 lB DD hh3 lC hh4 hh5 hh6 FF NN
            refine cut_mid2 ([] ++ [(value * 64 + (n.fdiv 4).fmod 64, size + 1)]) FF NN rfl rfl rfl rfl (fun q hq => ?_) hws ?_ (sstep2 (by assumption) (by assumption)) hoff (allLt_right lC.2.2.2.2) (allLt_right lA.2.2) lC.2.2.1 lA.1 hne0.2
            · rcases List.mem_cons.mp hq with rfl | hq
              · exact .head _
              · exact .tail _ (.tail _ hq)
            · refine .one (.tuple (.head _) ?_)
              exact .cons (.int _ _) (.cons (.int _ _) .nil)
          · (rename Fr _ _ _ _ => FF); (rename News _ _ _ _ => NN)
            exact cut_mid [] FF NN rfl rfl rfl rfl (fun p hp => hp) hws .nil (sstep3 (by assumption) (by assumption) (by assumption)) hoff hne0
          · (rename Fr _ _ _ _ => FF); (rename News _ _ _ _ => NN)
            exact cut_mid [] FF NN rfl rfl rfl rfl (fun p hp => .tail _ hp) hws .nil (sstep5 (by assumption) (by assumption) (by assumption)) hoff hne0
        · rw [List.concat_eq_append] at hdn
          subst hdn
          rw [List.map_append, List.map_singleton] at hdv
          have hdv' := hdv
          have hok : ∀ d ∈ dl.map pairD ++ [pairD p], kqdOk 8 d = true := by
            intro d hd
            rcases List.mem_append.mp hd with hd | hd
            · obtain ⟨q, _, rfl⟩ := List.mem_map.mp hd; rfl
            · rw [List.mem_singleton.mp hd]; rfl
          have hne : dl.map pairD ++ [pairD p] ≠ [] := by simp
          have hdl := hdv.length
          obtain ⟨dw, v, hdw⟩ : ∃ dw v, dv = dw ++ [v] := by
            rcases List.eq_nil_or_concat dv with q | ⟨dw, v, q⟩
            · rw [q] at hdl; simp at hdl
            · exact ⟨dw, v, by rw [q, List.concat_eq_append]⟩
          subst hdw
          have hdl2 : (dl.map pairD).length = dl.length := List.length_map _
          simp only [List.length_append, List.length_cons, List.length_nil] at hdl
          obtain ⟨es, d, ee, hdw, hpd⟩ := hdv.snoc
          obtain ⟨ee1, ee2⟩ := List.append_inj' ee rfl
          cases ee2
          subst ee1
          obtain ⟨t, pvs, pn, rfl, hmem, hpv⟩ : ∃ t pvs pn, v = Value.ref t ∧ (t, ({ cls := .type "tuple", data := .seq pvs.toArray pn } : Obj)) ∈ tl ∧ DatAll tl pvs [.int p.1, .int p.2] := by
            cases hpd with
            | tuple h r => exact ⟨_, _, _, rfl, h, r⟩
          obtain ⟨tp1, tp2, rfl⟩ : ∃ tp1 tp2, pvs = [.int p.1 tp1, .int p.2 tp2] := by
            cases hpv with
            | cons h r =>
              cases h
              cases r with
              | cons h r => cases h; cases r; exact ⟨_, _, rfl⟩
          have hlast : (dw ++ [Value.ref t]).getLast? = some (Value.ref t) := by simp
          have hdc := sum_ge dl fun q hq => (hd0 q (List.mem_append_left _ hq)).2
          have hp12 := hd0 p (List.mem_append_right _ (.head _))
          rw [List.map_append, List.sum_append] at ht0
          simp only [List.map_cons, List.map_nil, List.sum_cons, List.sum_nil] at ht0
          have hwl : dw.length ≤ 16 := by (first | lia | omega)
          have hlen' : (dw ++ [Value.ref t]).length ≤ 17 := by simp; (first | lia | omega)
          have N3 : News g L h ((t, ({ cls := .type "tuple", data := .seq #[.int p.1 tp1, .int p.2 tp2] pn } : Obj)) :: (la, listOf ws.toArray nn) :: (cd, listOf (dw ++ [Value.ref t]).toArray dn) :: (tl ++ own)) := fun q hq => by
            rcases List.mem_cons.mp hq with rfl | hq
            · exact N' _ (.tail _ (.tail _ (List.mem_append_left _ hmem)))
            · exact N' _ hq
          clear N'
          k_steps
          · (rename Fr _ _ _ _ => FF); (rename News _ _ _ _ => NN)
            exact cut_mid (dl ++ [p]) FF NN rfl rfl rfl rfl (fun p hp => .tail _ hp) hws (by rw [List.map_append]; exact hdv') (sstep1 (by assumption)) hoff hne0
          · rename_i hA hB D1 hh1 lA lB' hh2 lB DD hh3 lC hh4 hh5 hh6 FF NN
            refine cut_mid2 ((dl ++ [p]) ++ [(value * 64 + (n.fdiv 4).fmod 64, size + 1)]) FF NN rfl rfl rfl rfl (fun q hq => ?_) hws ?_ (sstep2 (by assumption) (by assumption)) hoff (allLt_right lC.2.2.2.2.2) (allLt_right lA.2.2.2) lC.2.2.2.1 lA.2.1 hne0.2
            · rcases List.mem_cons.mp hq with rfl | hq
              · exact .tail _ (.head _)
              · exact .tail _ (.tail _ (.tail _ hq))
            · rw [List.map_append, List.map_append]
              refine DatAll.append (hdv'.mono fun _ hp => .tail _ hp) (.one (.tuple (.head _) ?_))
              exact .cons (.int _ _) (.cons (.int _ _) .nil)
          · (rename Fr _ _ _ _ => FF); (rename News _ _ _ _ => NN)
            exact cut_mid (dl ++ [p]) FF NN rfl rfl rfl rfl (fun p hp => .tail _ hp) hws (by rw [List.map_append]; exact hdv') (sstep3 (by assumption) (by assumption) (by assumption)) hoff hne0
          · (rename Fr _ _ _ _ => FF); (rename News _ _ _ _ => NN)
            refine cut_mid (dv' := (dw ++ [Value.ref t]).dropLast) (dn' := 0) dl FF NN rfl rfl rfl rfl (fun q hq => ?_) hws ?_ (sstep4 (by assumption) (by assumption) (by assumption)) (own_off hoff (allLt_right (by (rename _ ∧ _ ∧ _ ∧ _ ∧ AllLt _ _ => lC); exact lC.2.2.2.2))) ⟨by (rename _ ∧ _ ∧ _ ∧ _ ∧ AllLt _ _ => lC); exact Nat.ne_of_gt lC.2.2.1, hne0.2⟩
            · rcases List.mem_cons.mp hq with rfl | hq
              · exact .tail _ (.tail _ (.tail _ (.head _)))
              · rcases List.mem_cons.mp hq with rfl | hq
                · exact .head _
                · exact .tail _ (.tail _ (.tail _ (.tail _ (.tail _ hq))))
            · rw [List.dropLast_concat]; exact hdw
      · rintro s' ⟨h2, tk2, c2, rfl, M⟩
        obtain ⟨c2l, cd2, dv2, dn2, ws2, nn2, tv2, tz2, tl2, u2⟩ := c2
        obtain ⟨⟨m2, F3⟩, N3, sd2, dd2, ls2, off2, ne2⟩ := M
        dsimp only at F3 N3 sd2 dd2 ls2 off2 ne2
        clear F' N'
        have hinv2 := sinv_step hn (show SInv i ⟨done, value, size⟩ from ⟨hv0, hz0, hd0, ht0⟩)
        rw [← ls2] at hinv2
        obtain ⟨done2, value2, size2⟩ := c2l
        obtain ⟨hv2, hz2, hd2, ht2⟩ := hinv2
        dsimp only at F3 N3 dd2 hv2 hz2 hd2 ht2
        have hdl2 := dd2.length
        rw [List.length_map] at hdl2
        have hsg := sum_ge done2 fun q hq => (hd2 q hq).2
        have hz16 : size2 ≤ 16 := by (first | lia | omega)
        have hwl := sd2.length
        rw [List.length_map, List.length_range] at hwl
        k_steps
        rename_i lo h4 l4 h3 F4 N4
        refine loop_pairs (vs := dv2) (nn := dn2) (fun j (c : IS) => IntsAre c.ws ((done2.take j).map rowOf).flatten)
          (fun c y => if y = Str.ofString "octets" then some (Value.ref c.lo) else if y = Str.ofString "states" then some (Value.ref la) else if y = Str.ofString "done" then some (Value.ref cd2) else if y = Str.ofString "value" then some (.int value2 tv2) else if y = Str.ofString "size" then some (.int size2 tz2) else c.u y)
          (fun c => (c.lo, listOf c.ws.toArray c.nn) :: (la, listOf ws.toArray nn) :: (cd2, listOf dv2.toArray dn2) :: (tl2 ++ own)) ⟨lo, [], 0, m2⟩ rfl (by with_unfolding_all passes_own) (by decide) rfl rfl rfl (fun _ _ _ => .tail _ (.tail _ (.head _)))
          (fun j va vb => ∃ p ta tb, done2[j]? = some p ∧ va = .int p.1 ta ∧ vb = .int p.2 tb) ?_ F4 N4 .nil (fun z _ _ => rfl) (fun p hp => hp) ?_ ?_
        · intro j c v hc hv
          have hj : j < (done2.map pairD).length := by rw [List.length_map, ← hdl2]; exact (List.getElem?_eq_some_iff.mp hv).1
          have hj' : j < done2.length := by rwa [List.length_map] at hj
          obtain ⟨v', hv', hp⟩ := dd2.get hj
          rw [hv] at hv'
          cases hv'
          have e1' : (done2.map pairD)[j]'hj = pairD (done2[j]'hj') := by simp
          rw [e1'] at hp
          cases hp with
          | tuple hm hr =>
            cases hr with
            | cons ha hr =>
              cases hr with
              | cons hb hr =>
                cases hr
                cases ha
                cases hb
                exact ⟨_, _, _, _, rfl, .tail _ (.tail _ (.tail _ (List.mem_append_left _ hm))), _, _, _, List.getElem?_eq_getElem hj', rfl, rfl⟩
        · rintro j c t kk va vb h tk own2 hv hmem ⟨p, ta, tb, hp, rfl, rfl⟩ hc hoff2 F5 N5
          obtain ⟨lo1, ows, on, u1⟩ := c
          dsimp only at hc F5 N5 hoff2 ⊢
          have hpd := hd2 p (List.mem_of_getElem? hp)
          have hls := le_sum done2 (fun q hq => (hd2 q hq).2)
          have hpz : p.2 ≤ 16 := by have := hls p (List.mem_of_getElem? hp); (first | lia | omega)
          have hol : (((done2.take j).map rowOf).flatten).length ≤ 1000 := by
            refine Nat.le_trans (flat_le 17 _ fun x hx => ?_) (by rw [List.length_map, List.length_take]; (first | lia | omega))
            obtain ⟨q, hq, rfl⟩ := List.mem_map.mp hx
            have := hls q (List.mem_of_mem_take hq)
            exact row_len q (by (first | lia | omega))
          have hrl : 0 < (octs p.1 p.2.toNat).length := by rw [octs_length]; (first | lia | omega)
          have hrl2 : (octs p.1 p.2.toNat).length ≤ 16 := by rw [octs_length]; (first | lia | omega)
          clear hls
          k_steps
          rename_i DD wq hq hIq lq hq2 FF NN
          refine JS2.mkR (fun m' => ⟨DD, wq, 0, m'⟩) FF NN ?_ ?_ ?_ ?_ ?_
          · show IntsAre wq ((done2.take (j + 1)).map rowOf).flatten
            rw [List.take_add_one, hp, List.map_append, List.flatten_append]
            rw [last_getD _ hrl, List.append_assoc] at hIq
            simpa [rowOf] using hIq
          · intro z hz1 hz2
            dsimp only
            by_cases h0 : z = Str.ofString "octets"
            · subst h0; rfl
            by_cases h1 : z = Str.ofString "states"
            · subst h1; rfl
            by_cases h2 : z = Str.ofString "done"
            · subst h2; rfl
            by_cases h3 : z = Str.ofString "value"
            · subst h3; rfl
            by_cases h4 : z = Str.ofString "size"
            · subst h4; rfl
            simp only [if_neg h0, if_neg h1, if_neg h2, if_neg h3, if_neg h4]
          · intro q hq
            rcases List.mem_cons.mp hq with rfl | hq
            · exact .head _
            · exact .tail _ (.tail _ (.tail _ (.tail _ (.tail _ (List.mem_append_left _ (.tail _ hq))))))
          · intro q hq
            exact .tail _ (.tail _ (.tail _ (.tail _ (.tail _ (List.mem_append_right _ hq)))))
          · exact off_keep hoff2 (allLt_right lq.2.2.2.2)
        · intro c u3 h tk hc F5 N5
          obtain ⟨lo1, ows, on, u1⟩ := c
          dsimp only at hc F5 N5 ⊢
          rw [hdl2, List.take_length] at hc
          have hls := le_sum done2 (fun q hq => (hd2 q hq).2)
          have hol : ((done2.map rowOf).flatten).length ≤ 1000 := by
            refine Nat.le_trans (flat_le 17 _ fun x hx => ?_) (by rw [List.length_map]; (first | lia | omega))
            obtain ⟨q, hq, rfl⟩ := List.mem_map.mp hx
            have := hls q hq
            exact row_len q (by (first | lia | omega))
          have hol2 : (octs value2 size2.toNat).length ≤ 16 := by rw [octs_length]; (first | lia | omega)
          k_steps
          refine ⟨cd2, dv2, dn2, done2, _, rfl, by assumption, by assumption, .tail _ (.tail _ (.head _)), dd2.mono (fun _ hp => .tail _ (.tail _ (.tail _ (List.mem_append_left _ hp)))), by (first | lia | omega), fun D us k h6 tk6 F6 N6 ne6 hI6 => ?_⟩
          k_steps
          rename_i loq w1 n1 hh1 tkq uq eq neq hIq D1 w2 hh2 hI2 lA D2 hh3 lB hh4 FF NN
          have hne1 : ∀ q ∈ own, q.1 ≠ la := fun q hq => off2 q hq la (.head _)
          refine JS.mkR (fun m' => ⟨⟨done2, value2, size2⟩, cd2, dv2, dn2, ws ++ [.ref D2], nn + 1, tv2, tz2, (D2, { cls := .type "tuple", data := .seq #[.ref D, .int value2 tv2, .ref D1] }) :: (D1, listOf w2.toArray 0) :: (D, listOf us.toArray k) :: tl2, m'⟩) FF NN ?_ ?_ ?_ ?_ ?_
          · refine ⟨?_, ⟨hv2, hz2, hd2, ht2⟩, ?_, dd2.mono (fun _ hp => .tail _ (.tail _ (.tail _ hp))), ne2.1, ?_⟩
            · rw [srun_succ hn, ← e1]; exact ls2
            · rw [List.range_succ, List.map_append]
              refine DatAll.append (sd2.mono fun _ hp => .tail _ (.tail _ (.tail _ hp))) (.one ?_)
              have e9 : stateD (srun ns (i + 1)) = stateD ⟨done2, value2, size2⟩ := by rw [srun_succ hn, ← e1, ← ls2]
              show DatIn _ _ (stateD (srun ns (i + 1)))
              rw [e9]
              refine .tuple (.head _) (.cons (.list (.tail _ (.tail _ (.head _))) ?_) (.cons (.int _ _) (.cons (.list (.tail _ (.head _)) (datAll_ints hI2)) .nil)))
              have := datAll_ints (news := (D2, { cls := .type "tuple", data := .seq #[.ref D, .int value2 tv2, .ref D1] }) :: (D1, listOf w2.toArray 0) :: (D, listOf us.toArray k) :: tl2) hI6
              rw [List.map_map] at this
              exact this
            · intro q hq
              rcases List.mem_cons.mp hq with rfl | hq
              · exact Nat.ne_of_gt lB.2.2.2.2.1
              · rcases List.mem_cons.mp hq with rfl | hq
                · exact Nat.ne_of_gt lA.2.2.2.1
                · rcases List.mem_cons.mp hq with rfl | hq
                  · exact Ne.symm (ne6 _ (.tail _ (.head _)))
                  · exact ne2.2 q hq
          · intro z hz
            dsimp only
            by_cases h1 : z = Str.ofString "states"
            · subst h1; rfl
            by_cases h2 : z = Str.ofString "done"
            · subst h2; rfl
            by_cases h3 : z = Str.ofString "value"
            · subst h3; rfl
            by_cases h4 : z = Str.ofString "size"
            · subst h4; rfl
            simp only [if_neg h1, if_neg h2, if_neg h3, if_neg h4]
          · intro q hq
            rcases List.mem_cons.mp hq with rfl | hq
            · exact .head _
            refine .tail _ (List.mem_filter.mpr ?_)
            rcases List.mem_cons.mp hq with rfl | hq
            · exact ⟨.tail _ (.tail _ (.tail _ (.tail _ (.tail _ (.tail _ (.head _)))))), by simpa using ne2.1⟩
            rcases List.mem_cons.mp hq with rfl | hq
            · exact ⟨.head _, by simpa using Nat.ne_of_gt lB.2.2.2.2.1⟩
            rcases List.mem_cons.mp hq with rfl | hq
            · exact ⟨.tail _ (.head _), by simpa using Nat.ne_of_gt lA.2.2.2.1⟩
            rcases List.mem_cons.mp hq with rfl | hq
            · exact ⟨.tail _ (.tail _ (.tail _ (.head _))), by simpa using Ne.symm (ne6 _ (.tail _ (.head _)))⟩
            exact ⟨.tail _ (.tail _ (.tail _ (.tail _ (.tail _ (.tail _ (.tail _ (List.mem_append_left _ hq))))))), by simpa using ne2.2 q hq⟩
          · intro q hq
            exact .tail _ (List.mem_filter.mpr ⟨.tail _ (.tail _ (.tail _ (.tail _ (.tail _ (.tail _ (.tail _ (List.mem_append_right _ hq))))))), by simpa using hne1 q hq⟩)
          · exact own_off3 off2 (allLt_right lB.2.2.2.2.2.2) (allLt_right lA.2.2.2.2.2) fun q hq => ne6 q (.tail _ (.tail _ (.tail _ (List.mem_append_right _ hq))))
    · intro c u h tk hc F' N'
      obtain ⟨cl, cd, dv, dn, ws, nn, tv, tz, tl, u⟩ := c
      dsimp only at hc F' N' ⊢
      k_steps
      dsimp only
      exact hret _ _ _ _ _ (by assumption) (by assumption) ⟨_, _, _, rfl, .head _, hc.2.2.1.mono fun _ hp => .tail _ (.tail _ hp)⟩

end Mine
end
section
open PySem PySem.W PySem.Spec PySem.Calls PyProof.Rows
set_option Elab.async false
set_option maxRecDepth 100000
set_option maxHeartbeats 8000000
set_option pp.maxSteps 3000
namespace Mine
theorem join_ (w : World) (mean : ExcName → Option Value) (mg mb : Str → Option Value) (x y : Str) (t u : Tok) (a b : List Nat) (hx : x = S a) (hy : y = S b) (ha : a ≠ []) (hb' : b.head? ≠ some 47) (hb0 : b ≠ [])
    (hn : a.length + b.length ≤ 1000) :
    PC w mean mg mb 4 145 [.str x t, .str y u] (fun _ => True) (StrOut (S (if a.getLast? = some 47 then a ++ b else a ++ 47 :: b))) := by
  w_top off
  k_with_none
  (k_with "call builtin:issubclass" => (k_here; k_dflt (refine' issub_tuple ?kD ?kc ?_; (case kD => exact (News.get (by k_asm) (by k_mem))); (case kc => exact rfl); k_whole)))
  (k_with "pyIter ref" => (k_here; (with_reducible show wpAny _ _ (pyIter (Value.ref _)) (fun it s₂ => LoopAtV _ _ _ _ _ _ _ _ _ it s₂) _ _); refine Stop.mk ?_))
  (k_with "eval ListComp" => (k_here; (with_reducible apply comp_evalG); (case hclos => with_unfolding_all rfl); (case hcell => decide); (case hkind => with_unfolding_all rfl); (case hnames => decide); (case hx => with_unfolding_all rfl); (case hs => intro _; with_unfolding_all rfl)))
  (k_with "pyIter ref" => (k_here; (with_reducible show wpAny _ _ (pyIter (Value.ref _)) (fun it s₂ => CG _ _ _ _ _ _ _ _ _ it s₂) _ _); refine Stop.mk ?_))
  (k_with "binaryOp Pow int int" => (k_here; (with_reducible refine pow_int_small ?kb1 ?kb2 ?kb3 ?_); (case kb1 => (first | lia | omega)); (case kb2 => (first | lia | omega)); (case kb3 => decide)))
  (k_with "binaryOp FloorDiv int int" => (k_here; (with_reducible refine floordiv_int (pow64_ne _) ?_ (Or.inl (PyProof.noPylong_of_log2 (pow64_log _ (by (first | lia | omega))))))))
  (k_with "binaryOp FloorDiv int int" => (k_here; (with_reducible refine floordiv_int (by decide) ?_ (Or.inl (PyProof.noPylong_of_log2 (by decide +kernel))))))
  (k_with "binaryOp Mod int int" => (k_here; (with_reducible refine mod_int' (by decide) ?_ (Or.inl (PyProof.noPylong_of_log2 (by decide +kernel))))))
  (k_with "eval Name" => (k_here; (with_reducible show wpAny _ _ (eval (Expr.Name _ _) (compEnvC _ _ _ _)) _ _ _); (with_unfolding_all refine' nameC_F ?N ?c ?m ?d ?k ?x ?dd ?_; (case k => exact rfl); (case x => exact rfl); (case dd => decide); (case N => with_reducible assumption); (case c => exact rfl); (case m => k_mem); (case d => k_asm); k_whole)))
  (k_with "eval Name" => (k_here; (with_reducible show wpAny _ _ (eval (Expr.Name _ _) (compEnvC _ _ _ _)) _ _ _); (with_unfolding_all refine' nameC_L ?n ?v ?k ?x ?d ?_; (case k => exact rfl); (case x => exact rfl); (case d => decide); (case n => with_reducible assumption); (case v => with_reducible assumption); k_whole)))
  (k_with "call ref" => (k_here; (first | (with_reducible show wpAny _ _ (call (Value.ref 138) _) _ _ _) | (with_reducible show wpAny _ _ (call (Value.ref 159) _) _ _ _) | (with_reducible show wpAny _ _ (call (Value.ref 44) _) _ _ _) | (with_reducible show wpAny _ _ (call (Value.ref 35) _) _ _ _)); k_dflt ((refine wpAny_call ?_); (refine' code_def ?k1 ?k2 ?k3 ?k4 ?k5 ?kA ?kF ?kK ?k6 ?k7 ?k8 ?k9 ?kB ?_ ?c2 ?c3 ?c4 ?c5); (case kA => exact rfl); (case kF => exact rfl); (case kK => first | exact rfl | assumption); (case k1 => k_asm); (case k2 => k_asm); (case k3 => k_asm); (case k4 => k_asm); (case k5 => k_asm); (case k6 => k_is); (case k7 => k_is); (case k8 => ktr_room); (case k9 => first | exact BindsTo.of_eq rfl | exact binds_K (by k_in) rfl (by k_is) rfl rfl rfl); (case c5 => decide); (case kB => exact locs rfl); (case c2 => exact rfl); (case c3 => exact rfl); (case c4 => exact rfl); k_whole; (intro _ _ _ _ _ _ _ _ _); (try dsimp only); (try k_fold))))
  (k_with "exec Assign cons ListComp" => (k_here; (with_reducible apply comp_assignG); (case hsw => with_unfolding_all rfl); (case hclos => with_unfolding_all rfl); (case hcell => decide); (case hkind => with_unfolding_all rfl); (case hnames => decide); (case hx => with_unfolding_all rfl); (case hy => with_unfolding_all rfl); (case hp => with_unfolding_all rfl); (case hs => intro _; with_unfolding_all rfl)))
  (k_with "pyIter ref" => (k_here; (with_reducible show wpAny _ _ (pyIter (Value.ref _)) (fun it s₂ => CGA _ _ _ _ _ _ _ _ _ _ it s₂) _ _); refine Stop.mk ?_))
  (k_with "pyIter str" => (k_here; (with_reducible show wpAny _ _ (pyIter (Value.str _ _)) (fun it s₂ => CGA _ _ _ _ _ _ _ _ _ _ it s₂) _ _); refine Stop.mk ?_))
  (k_with "pyIter bytes" => (k_here; (with_reducible show wpAny _ _ (pyIter (Value.bytes _ _)) (fun it s₂ => CG _ _ _ _ _ _ _ _ _ it s₂) _ _); refine Stop.mk ?_))
  (k_with "ite" => (k_here; first | (refine ite_pos (by with_reducible assumption) ?_) | (refine ite_neg (by with_reducible assumption) ?_)))
  (k_with "call ref" => (k_here; (with_reducible show wpAny _ _ (call (Value.ref 124) [Value.str _ _]) _ _ _); (k_dflt (refine' PC.useStr (fspath_str _ _ _ _ _ _) ?B ?F ?X ?N ?T ?hk ?hd ?hu trivial ?_; ((case B => k_asm); (case F => k_asm); (case X => k_asm); (case N => k_asm); (case T => k_asm); (case hk => first | exact rfl | assumption); (case hd => ktr_room); (case hu => ktr_units)); k_whole)); (intro _ _ _ _ _ _ _); (try dsimp only); (try k_sweep)))
  (k_with "call ref" => (k_here; (with_reducible show wpAny _ _ (call (Value.ref 152) [Value.str _ _]) _ _ _); (k_dflt (refine' PC.usePair (SplitAt.pc ?C _) ?B ?F ?X ?N ?T ?hk ?hd ?hu trivial ?_; (case C => with_reducible assumption); ((case B => k_asm); (case F => k_asm); (case X => k_asm); (case N => k_asm); (case T => k_asm); (case hk => first | exact rfl | assumption); (case hd => ktr_room); (case hu => ktr_units)); k_whole)); (intro _ _ _ _ _ _ _ _ _); (try dsimp only); (try k_sweep)))
  (k_with "truthy str" => (k_here; (with_reducible show wpAny _ _ (PySem.truthy (Value.str _ _)) _ _ _); (refine truthy_yes (by (first | lia | omega)) (by (first | lia | omega)) ?_)))
  (k_with "truthy ref" => (k_here; (with_reducible show wpAny _ _ (PySem.truthy (Value.ref _)) _ _ _); (k_dflt (first | (refine' truthy_listY ?mtyN ?mtym ?mtya ?mtyb ?_; (case mtyN => k_asm); (case mtym => k_mem); (case mtya => (first | lia | omega)); (case mtyb => (first | lia | omega)); k_whole) | (refine' truthy_listN ?mtnN ?mtnm ?mtna ?_; (case mtnN => k_asm); (case mtnm => k_mem); (case mtna => (first | lia | omega)); k_whole)))))
  (k_with "subscriptTail" => (k_here; (with_reducible show wpAny _ _ (subscriptTail _ _ (Value.ref _) (Value.int (-1) _)) _ _ _); k_dflt (refine' sub_last ?mslN ?mslm ?mslv ?mslz ?_ ?msls; (case mslN => k_asm); (case mslm => k_mem); (case mslv => with_reducible assumption); (case mslz => (first | lia | omega)); (case msls => with_unfolding_all rfl); k_whole)))
  (k_with "call builtin:list.pop" => (k_here; k_dflt (refine' kl_pop ?mplF ?mplN ?mple ?mplU ?mplz ?_; (case mplF => k_asm); (case mplN => k_asm); (case mple => with_reducible assumption); (case mplU => k_upd); (case mplz => with_reducible assumption); k_whole); intro _ _ _; (try k_sweep)))
  (k_with "call builtin:str.join" => (k_here; (with_reducible show wpAny _ _ (call (Value.builtin _) [Value.str _ _, Value.ref _]) _ _ _); k_dflt (refine' join_list ?mjnl ?mjni ?mjnk ?_; (case mjnl => exact News.isList (by k_asm) (by k_mem)); (case mjni => with_reducible assumption); (case mjnk => with_reducible assumption); k_whole); intro _ _))
  (k_with "exec Try" => (k_here; (with_reducible show wpAny _ _ (exec (Stmt.Try _ (_ :: _) _ [] _) _) _ _ _); refine wpAny_Try_except ?_))
  have mFill : ∀ P : Params, (Mine.hd.heap_39 P).In {} → PySem.Challenge.rw_pd0187_01.Holds → True := by
    k_fill
    exact fun _ _ _ => trivial
  clear mFill
  refine' PC.ofR (rest := [.str y u]) (fun D => [(Str.ofString "a", .str x t), (Str.ofString "p", .ref D)]) _ (fun _ _ _ h => h) ?ho ?hcd ?hp ?hg ?hloc ?hco ?hgen ?hk ?hcell ?h
  (case ho => k_is)
  (case hcd => k_is)
  (case hp => exact rfl)
  (case hg => exact fun _ => rfl)
  (case hloc => exact fun _ => locs rfl)
  (case hco => exact rfl)
  (case hgen => exact rfl)
  (case hk => exact rfl)
  (case hcell => decide)
  case h =>
    intro dp un gd env outer A₁ base g L D s Q B F X T N pre hd hu hret
    have hx0 : 0 < x.length := by rw [hx, S_len]; exact List.length_pos_iff.mpr ha
    have hx1 : x.length ≤ 1000 := by rw [hx, S_len]; (first | lia | omega)
    have hy1 : y.length ≤ 1000 := by rw [hy, S_len]; (first | lia | omega)
    have e1 : ¬ (Txt.startswith y (Str.ofString "/") = true) := by
      obtain ⟨c, r, rfl⟩ : ∃ c r, b = c :: r := ⟨b.head hb0, b.tail, (List.cons_head_tail hb0).symm⟩
      rw [hy, slash, starts_one]; simpa using hb'
    by_cases hl : a.getLast? = some 47
    · have e2 : Txt.endswith x (Str.ofString "/") = true := by
        rw [hx, slash, snoc_of_last hl, ends_one]; rfl
      k_steps
      dsimp only
      rw [if_pos hl] at hret
      refine hret _ _ _ _ [] (by assumption) News.nil ?_
      rw [hx, hy, S_app]
      exact ⟨rfl, _, rfl⟩
    · have e2 : ¬ (Txt.endswith x (Str.ofString "/") = true) := by
        rw [hx, slash, ← List.dropLast_concat_getLast ha, ends_one]
        rw [List.getLast?_eq_some_getLast ha] at hl
        simpa using hl
      k_steps
      dsimp only
      rw [if_neg hl] at hret
      refine hret _ _ _ _ [] (by assumption) News.nil ?_
      rw [hx, hy, slash, S_app, S_app]
      exact ⟨rfl, _, rfl⟩

end Mine
end
section
open PySem PySem.W PySem.Spec PySem.Calls PyProof.Rows
set_option Elab.async false
set_option maxRecDepth 100000
set_option maxHeartbeats 8000000
set_option pp.maxSteps 3000
namespace Mine
def PathAt (w : World) (mean : ExcName → Option Value) (mg mb : Str → Option Value) (f : Addr) (n : Nat) (vs : List Str) (z : Str) : Prop := ∀ ys : List Value, StrsAre ys vs → PC w mean mg mb n f ys (fun _ => True) (StrOut z)
theorem PathAt.pc {w : World} {mean : ExcName → Option Value} {mg mb : Str → Option Value} {f : Addr} {n : Nat} {vs : List Str} {z : Str} (h : PathAt w mean mg mb f n vs z) {ys : List Value} (hy : StrsAre ys vs) : PC w mean mg mb n f ys (fun _ => True) (StrOut z) := h ys hy
/-- a step of the path: nought takes a name back -/
def ostep (os : List Int) (t : Int) (o : Int) : List Int := if t = 0 then os.dropLast else os ++ [o]
def owalk (ts os : List Int) (i : Nat) : List Int := (List.range i).foldl (fun a k => ostep a (ts.getD k 0) (os.getD k 0)) []
theorem owalk_succ (ts os : List Int) (i : Nat) : owalk ts os (i + 1) = ostep (owalk ts os i) (ts.getD i 0) (os.getD i 0) := by
  simp [owalk, List.range_succ, List.foldl_append]

theorem owalk_len (ts os : List Int) : ∀ i, (owalk ts os i).length ≤ i
  | 0 => Nat.le_refl _
  | i + 1 => by
    rw [owalk_succ, ostep]
    have := owalk_len ts os i
    split
    · rw [List.length_dropLast]; (first | lia | omega)
    · simp; (first | lia | omega)
theorem owalk_mem (ts os : List Int) (hb : ∀ o ∈ os, 0 ≤ o ∧ o < 256) : ∀ i, i ≤ os.length → ∀ o ∈ owalk ts os i, 0 ≤ o ∧ o < 256
  | 0, _, _, h => nomatch h
  | i + 1, hi, o, h => by
    have ih := owalk_mem ts os hb i (by (first | lia | omega))
    rw [owalk_succ, ostep] at h
    split at h
    · exact ih o ((List.dropLast_sublist _).subset h)
    · rcases List.mem_append.mp h with h | h
      · exact ih o h
      · rw [List.mem_singleton.mp h]
        have e : os.getD i 0 = os[i]'(by (first | lia | omega)) := by simp [List.getD, show i < os.length by (first | lia | omega)]
        rw [e]; exact hb _ (List.getElem_mem _)
theorem join_path (cur : List Int) (c : List Nat) (hb : ∀ o ∈ cur, 0 ≤ o ∧ o < 256) : (if (pathL cur).getLast? = some 47 then pathL cur ++ c else pathL cur ++ 47 :: c) = 47 :: joinL (cur.map hex2 ++ [c]) := by
  by_cases h : cur = []
  · subst h
    rw [if_pos (show (pathL []).getLast? = some 47 from rfl)]; rfl
  · rw [if_neg (pathL_last cur h hb), joinL_snoc _ _ (by simpa using h)]; rfl
theorem hex2_ne (o : Int) (h : 0 ≤ o ∧ o < 256) : hex2 o ≠ [46, 46] := by
  intro q
  have h1 := hx_le (o / 16) (by (first | lia | omega)) (by (first | lia | omega))
  have h2 : hx (o / 16) = 46 := (List.cons.inj q).1
  (first | lia | omega)
theorem fold_hex : ∀ (cur : List Int) (st : List (List Nat)), (∀ o ∈ cur, 0 ≤ o ∧ o < 256) → (cur.map hex2).foldl nstep st = st ++ cur.map hex2
  | [], st, _ => by simp
  | o :: r, st, h => by
    simp only [List.map_cons, List.foldl_cons]
    rw [fold_hex r _ fun y hy => h y (.tail _ hy), nstep, if_neg (hex2_ne o (h o (.head _)))]
    simp
theorem norm_path (cur : List Int) (c : List Nat) (hb : ∀ o ∈ cur, 0 ≤ o ∧ o < 256) : (cur.map hex2 ++ [c]).foldl nstep [] = nstep (cur.map hex2) c := by
  rw [List.foldl_append, fold_hex cur [] hb]; rfl
theorem hex_clean (o : Int) (h : 0 ≤ o ∧ o < 256) : 47 ∉ hex2 o ∧ hex2 o ≠ [] ∧ hex2 o ≠ [46] ∧ (hex2 o).length ≤ 2 :=
  ⟨hex2_free o h.1 h.2, by simp [hex2], by simp [hex2], by simp [hex2]⟩
theorem flat_take (os : List Int) : ∀ i, i < os.length → (((os.map hex2).flatten).drop (2 * i)).take 2 = hex2 (os.getD i 0) := by
  induction os with
  | nil => intro i h; simp at h
  | cons o r ih =>
    intro i h
    cases i with
    | zero => simp [hex2]
    | succ i =>
      have e : 2 * (i + 1) = (2 * i) + 1 + 1 := by (first | lia | omega)
      rw [e, List.map_cons, List.flatten_cons]
      simp only [hex2, List.cons_append, List.nil_append, List.drop_succ_cons]
      have := ih i (by simpa using h)
      simpa [hex2] using this
theorem flat_len (os : List Int) : ((os.map hex2).flatten).length = 2 * os.length := by
  induction os with
  | nil => rfl
  | cons o r ih => rw [List.map_cons, List.flatten_cons, List.length_append, ih, hex2_len, List.length_cons]; (first | lia | omega)

structure WyS where
  ws : List Value
  nn : Nat
  t : Tok
  u : Str → Option Value

theorem law_ways (w : World) (mean : ExcName → Option Value) (mg mb : Str → Option Value) (x : Str) (t : Tok) (l : Addr) (vs : List Value) (ts os : List Int) (hx : x = S (os.map hex2).flatten) (hi : IntsAre vs ts) (hb : ∀ o ∈ os, 0 ≤ o ∧ o < 256) (hl : ts.length = os.length) (hn : os.length ≤ 64) :
    PC w mean mg mb 7 178 [.str x t, .ref l] (fun h => h.IsList l vs.toArray) (fun nw r => ∃ l ws nn, r = .ref l ∧ (l, listOf ws.toArray nn) ∈ nw ∧ StrsAre ws ((List.range ts.length).map fun i => S (pathL (owalk ts os (i + 1))))) := by
  w_top off
  k_with_none
  (k_with "call builtin:issubclass" => (k_here; k_dflt (refine' issub_tuple ?kD ?kc ?_; (case kD => exact (News.get (by k_asm) (by k_mem))); (case kc => exact rfl); k_whole)))
  (k_with "exec For Name Call cons nil" => (k_here; (with_unfolding_all refine' For_invVF ?kF0 ?k1 ?k2 ?_; (case kF0 => k_asm); (case k1 => exact rfl); (case k2 => exact rfl); k_whole)))
  (k_with "exec For Name Name cons nil" => (k_here; (with_unfolding_all refine' For_invVF ?kF0 ?k1 ?k2 ?_; (case kF0 => k_asm); (case k1 => exact rfl); (case k2 => exact rfl); k_whole)))
  (k_with "pyIter ref" => (k_here; (with_reducible show wpAny _ _ (pyIter (Value.ref _)) (fun it s₂ => LoopAtV _ _ _ _ _ _ _ _ _ it s₂) _ _); refine Stop.mk ?_))
  (k_with "eval ListComp" => (k_here; (with_reducible apply comp_evalG); (case hclos => with_unfolding_all rfl); (case hcell => decide); (case hkind => with_unfolding_all rfl); (case hnames => decide); (case hx => with_unfolding_all rfl); (case hs => intro _; with_unfolding_all rfl)))
  (k_with "pyIter ref" => (k_here; (with_reducible show wpAny _ _ (pyIter (Value.ref _)) (fun it s₂ => CG _ _ _ _ _ _ _ _ _ it s₂) _ _); refine Stop.mk ?_))
  (k_with "binaryOp Pow int int" => (k_here; (with_reducible refine pow_int_small ?kb1 ?kb2 ?kb3 ?_); (case kb1 => (first | lia | omega)); (case kb2 => (first | lia | omega)); (case kb3 => decide)))
  (k_with "binaryOp FloorDiv int int" => (k_here; (with_reducible refine floordiv_int (pow64_ne _) ?_ (Or.inl (PyProof.noPylong_of_log2 (pow64_log _ (by (first | lia | omega))))))))
  (k_with "binaryOp FloorDiv int int" => (k_here; (with_reducible refine floordiv_int (by decide) ?_ (Or.inl (PyProof.noPylong_of_log2 (by decide +kernel))))))
  (k_with "binaryOp Mod int int" => (k_here; (with_reducible refine mod_int' (by decide) ?_ (Or.inl (PyProof.noPylong_of_log2 (by decide +kernel))))))
  (k_with "eval Name" => (k_here; (with_reducible show wpAny _ _ (eval (Expr.Name _ _) (compEnvC _ _ _ _)) _ _ _); (with_unfolding_all refine' nameC_F ?N ?c ?m ?d ?k ?x ?dd ?_; (case k => exact rfl); (case x => exact rfl); (case dd => decide); (case N => with_reducible assumption); (case c => exact rfl); (case m => k_mem); (case d => k_asm); k_whole)))
  (k_with "eval Name" => (k_here; (with_reducible show wpAny _ _ (eval (Expr.Name _ _) (compEnvC _ _ _ _)) _ _ _); (with_unfolding_all refine' nameC_L ?n ?v ?k ?x ?d ?_; (case k => exact rfl); (case x => exact rfl); (case d => decide); (case n => with_reducible assumption); (case v => with_reducible assumption); k_whole)))
  (k_with "call ref" => (k_here; (first | (with_reducible show wpAny _ _ (call (Value.ref 138) _) _ _ _) | (with_reducible show wpAny _ _ (call (Value.ref 159) _) _ _ _) | (with_reducible show wpAny _ _ (call (Value.ref 44) _) _ _ _) | (with_reducible show wpAny _ _ (call (Value.ref 35) _) _ _ _)); k_dflt ((refine wpAny_call ?_); (refine' code_def ?k1 ?k2 ?k3 ?k4 ?k5 ?kA ?kF ?kK ?k6 ?k7 ?k8 ?k9 ?kB ?_ ?c2 ?c3 ?c4 ?c5); (case kA => exact rfl); (case kF => exact rfl); (case kK => first | exact rfl | assumption); (case k1 => k_asm); (case k2 => k_asm); (case k3 => k_asm); (case k4 => k_asm); (case k5 => k_asm); (case k6 => k_is); (case k7 => k_is); (case k8 => ktr_room); (case k9 => first | exact BindsTo.of_eq rfl | exact binds_K (by k_in) rfl (by k_is) rfl rfl rfl); (case c5 => decide); (case kB => exact locs rfl); (case c2 => exact rfl); (case c3 => exact rfl); (case c4 => exact rfl); k_whole; (intro _ _ _ _ _ _ _ _ _); (try dsimp only); (try k_fold))))
  (k_with "exec Assign cons ListComp" => (k_here; (with_reducible apply comp_assignG); (case hsw => with_unfolding_all rfl); (case hclos => with_unfolding_all rfl); (case hcell => decide); (case hkind => with_unfolding_all rfl); (case hnames => decide); (case hx => with_unfolding_all rfl); (case hy => with_unfolding_all rfl); (case hp => with_unfolding_all rfl); (case hs => intro _; with_unfolding_all rfl)))
  (k_with "pyIter ref" => (k_here; (with_reducible show wpAny _ _ (pyIter (Value.ref _)) (fun it s₂ => CGA _ _ _ _ _ _ _ _ _ _ it s₂) _ _); refine Stop.mk ?_))
  (k_with "pyIter str" => (k_here; (with_reducible show wpAny _ _ (pyIter (Value.str _ _)) (fun it s₂ => CGA _ _ _ _ _ _ _ _ _ _ it s₂) _ _); refine Stop.mk ?_))
  (k_with "pyIter bytes" => (k_here; (with_reducible show wpAny _ _ (pyIter (Value.bytes _ _)) (fun it s₂ => CG _ _ _ _ _ _ _ _ _ it s₂) _ _); refine Stop.mk ?_))
  (k_with "ite" => (k_here; first | (refine ite_pos (by with_reducible assumption) ?_) | (refine ite_neg (by with_reducible assumption) ?_)))
  (k_with "call ref" => (k_here; (with_reducible show wpAny _ _ (call (Value.ref 124) [Value.str _ _]) _ _ _); (k_dflt (refine' PC.useStr (fspath_str _ _ _ _ _ _) ?B ?F ?X ?N ?T ?hk ?hd ?hu trivial ?_; ((case B => k_asm); (case F => k_asm); (case X => k_asm); (case N => k_asm); (case T => k_asm); (case hk => first | exact rfl | assumption); (case hd => ktr_room); (case hu => ktr_units)); k_whole)); (intro _ _ _ _ _ _ _); (try dsimp only); (try k_sweep)))
  (k_with "call ref" => (k_here; (with_reducible show wpAny _ _ (call (Value.ref 152) [Value.str _ _]) _ _ _); (k_dflt (refine' PC.usePair (SplitAt.pc ?C _) ?B ?F ?X ?N ?T ?hk ?hd ?hu trivial ?_; (case C => with_reducible assumption); ((case B => k_asm); (case F => k_asm); (case X => k_asm); (case N => k_asm); (case T => k_asm); (case hk => first | exact rfl | assumption); (case hd => ktr_room); (case hu => ktr_units)); k_whole)); (intro _ _ _ _ _ _ _ _ _); (try dsimp only); (try k_sweep)))
  (k_with "truthy str" => (k_here; (with_reducible show wpAny _ _ (PySem.truthy (Value.str _ _)) _ _ _); (refine truthy_yes (by (first | lia | omega)) (by (first | lia | omega)) ?_)))
  (k_with "truthy ref" => (k_here; (with_reducible show wpAny _ _ (PySem.truthy (Value.ref _)) _ _ _); (k_dflt (first | (refine' truthy_listY ?mtyN ?mtym ?mtya ?mtyb ?_; (case mtyN => k_asm); (case mtym => k_mem); (case mtya => (first | lia | omega)); (case mtyb => (first | lia | omega)); k_whole) | (refine' truthy_listN ?mtnN ?mtnm ?mtna ?_; (case mtnN => k_asm); (case mtnm => k_mem); (case mtna => (first | lia | omega)); k_whole)))))
  (k_with "subscriptTail" => (k_here; (with_reducible show wpAny _ _ (subscriptTail _ _ (Value.ref _) (Value.int (-1) _)) _ _ _); k_dflt (refine' sub_last ?mslN ?mslm ?mslv ?mslz ?_ ?msls; (case mslN => k_asm); (case mslm => k_mem); (case mslv => with_reducible assumption); (case mslz => (first | lia | omega)); (case msls => with_unfolding_all rfl); k_whole)))
  (k_with "call builtin:list.pop" => (k_here; k_dflt (refine' kl_pop ?mplF ?mplN ?mple ?mplU ?mplz ?_; (case mplF => k_asm); (case mplN => k_asm); (case mple => with_reducible assumption); (case mplU => k_upd); (case mplz => with_reducible assumption); k_whole); intro _ _ _; (try k_sweep)))
  (k_with "call builtin:str.join" => (k_here; (with_reducible show wpAny _ _ (call (Value.builtin _) [Value.str _ _, Value.ref _]) _ _ _); k_dflt (refine' join_list ?mjnl ?mjni ?mjnk ?_; (case mjnl => exact News.isList (by k_asm) (by k_mem)); (case mjni => with_reducible assumption); (case mjnk => with_reducible assumption); k_whole); intro _ _))
  (k_with "call ref" => (k_here; first
    | ((with_reducible show wpAny _ _ (call (Value.ref 145) [Value.str _ _, Value.str _ _]) _ _ _); (k_dflt (refine' PC.useStr (PathAt.pc ?C (.cons _ _ (.cons _ _ .nil))) ?B ?F ?X ?N ?T ?hk ?hd ?hu trivial ?_; (case C => with_reducible assumption); ((case B => k_asm); (case F => k_asm); (case X => k_asm); (case N => k_asm); (case T => k_asm); (case hk => first | exact rfl | assumption); (case hd => ktr_room); (case hu => ktr_units)); k_whole)); (intro _ _ _ _ _ _ _); (try dsimp only); (try k_sweep))
    | ((with_reducible show wpAny _ _ (call (Value.ref 166) [Value.str _ _]) _ _ _); (k_dflt (refine' PC.useStr (PathAt.pc ?C (.cons _ _ .nil)) ?B ?F ?X ?N ?T ?hk ?hd ?hu trivial ?_; (case C => with_reducible assumption); ((case B => k_asm); (case F => k_asm); (case X => k_asm); (case N => k_asm); (case T => k_asm); (case hk => first | exact rfl | assumption); (case hd => ktr_room); (case hu => ktr_units)); k_whole)); (intro _ _ _ _ _ _ _); (try dsimp only); (try k_sweep))))
  have mFill : ∀ P : Params, (Mine.hd.heap_39 P).In {} → PySem.Challenge.rw_pd0187_01.Holds → True := by
    k_fill
    exact fun _ _ _ => trivial
  clear mFill
  refine' PC.of [(Str.ofString "text", .str x t), (Str.ofString "turns", .ref l)] (fun _ _ u h => h.at fun o e => u _ _ e) ?ho ?hcd ?hbind ?hloc ?hco ?hgen ?hk ?hcell ?h
  (case ho => k_is)
  (case hcd => k_is)
  (case hbind => exact fun _ _ => BindsTo.of_eq rfl)
  (case hloc => exact locs rfl)
  (case hco => exact rfl)
  (case hgen => exact rfl)
  (case hk => exact rfl)
  (case hcell => decide)
  case h =>
    intro dp un gd env outer A₁ base g L s Q B F X T N pre hd hu hret
    k_steps
    rename_i la h3 l1 h2 h1 F1 N1 h0 tk0 t0 u0 v0 R0 F0 N0 U0
    unfold Stop
    refine loop_range (n := ts.length) (fun i (c : WyS) => StrsAre c.ws ((List.range i).map fun i => S (pathL (owalk ts os (i + 1)))))
      (fun c y => if y = Str.ofString "way" then some (Value.str (S (pathL (owalk ts os c.ws.length))) c.t) else if y = Str.ofString "ways" then some (Value.ref la) else List.lookup y [(Str.ofString "text", Value.str x t), (Str.ofString "turns", Value.ref l)].reverse)
      (fun c => [(la, listOf c.ws.toArray c.nn)]) ⟨[], 0, tk, fun _ => none⟩ rfl R0 rfl (by (first | lia | omega)) F0 N0 ?_ (fun z hz => ?_) (fun p hp => hp) ?_ ?_
    · exact .nil
    · show _ = if z = Str.ofString "way" then some (Value.str (S [47]) tk) else _
      rw [← slash]
    · intro i c t1 h tk own hi' hc hoff F' N'
      obtain ⟨ws, nn, tw, uu⟩ := c
      change OwnOff own [la] at hoff
      dsimp only at hc F' N' ⊢
      have hlen := hc.length
      rw [List.length_map, List.length_range] at hlen
      have hcb := owalk_mem ts os hb i (by (first | lia | omega))
      have hcl := owalk_len ts os i
      have hsu := owalk_succ ts os i
      have hcc : StrsAre ws ((List.range i).map fun i => S (pathL (owalk ts os (i + 1)))) := hc
      rw [hlen] at F'
      generalize hcur : owalk ts os i = cur at *
      have hxl : x.length = 2 * os.length := by rw [hx, S_len, flat_len]
      have hpl := pathL_len cur
      by_cases ht : ts.getD i 0 = 0
      · have ht' : ts.getD ((i : Int)).toNat 0 = 0 := ht
        have HJ : PathAt w mean mg mb 145 4 [S (pathL cur), Str.ofString ".."] (S (47 :: joinL (cur.map hex2 ++ [[46, 46]]))) := by
          intro ys hy
          cases hy with
          | cons _ ta r => cases r with
            | cons _ tb r => cases r with
              | nil =>
                rw [← join_path cur _ hcb]
                exact join_ w mean mg mb _ _ ta tb (pathL cur) [46, 46] rfl dotdot (by simp [pathL]) (by simp) (by simp) (by simp; (first | lia | omega))
        have HN : PathAt w mean mg mb 166 5 [S (47 :: joinL (cur.map hex2 ++ [[46, 46]]))] (S (pathL cur.dropLast)) := by
          intro ys hy
          cases hy with
          | cons _ ta r => cases r with
            | nil =>
              have e : S (pathL cur.dropLast) = S (47 :: joinL ((cur.map hex2 ++ [[46, 46]]).foldl nstep [])) := by
                rw [norm_path cur _ hcb, nstep, if_pos rfl, ← List.map_dropLast]; rfl
              rw [e]
              refine normpath_ w mean mg mb _ ta (cur.map hex2 ++ [[46, 46]]) rfl (by simp) (fun c hc => ?_) (by simp; (first | lia | omega))
              rcases List.mem_append.mp hc with hc | hc
              · obtain ⟨o, ho, rfl⟩ := List.mem_map.mp hc
                exact hex_clean o (hcb o ho)
              · rw [List.mem_singleton.mp hc]; decide
        k_steps
        
        · rename_i h1E tkE tE niE xE hE FE NE
          have e1 : owalk ts os (i + 1) = cur.dropLast := by rw [hsu, ostep, if_pos ht]
          refine JS.mk_ ⟨ws ++ [.str (S (pathL (cur.dropLast))) tE], nn + 1, tE, fun _ => none⟩ FE NE ?_ ?_ ?_ (fun p hp => .tail _ hp) hoff
          · show StrsAre _ ((List.range (i + 1)).map fun i => S (pathL (owalk ts os (i + 1))))
            rw [List.range_succ, List.map_append]
            simp only [List.map_cons, List.map_nil, e1]
            exact strsAre_snoc hcc _ _
          · intro z hz
            dsimp only
            rw [List.length_append, List.length_singleton, hlen, e1]
            by_cases hw : z = Str.ofString "way"
            · rw [if_pos hw, if_pos hw]
            · rw [if_neg hw, if_neg hz, if_neg hw, if_neg hw]
          · intro p hp
            rw [List.mem_singleton.mp hp]; simp
        · exact absurd ht (by assumption)
      · have ht' : ¬ ts.getD ((i : Int)).toNat 0 = 0 := ht
        have ho := owalk_mem ts os hb (i + 1) (by (first | lia | omega)) (os.getD i 0) (by rw [hsu, ostep, if_neg ht]; simp)
        have HJ : PathAt w mean mg mb 145 4 [S (pathL cur), Txt.slice x (some (2 * (i : Int))) (some (2 * (i : Int) + 2))] (S (47 :: joinL (cur.map hex2 ++ [hex2 (os.getD i 0)]))) := by
          have e : Txt.slice x (some (2 * (i : Int))) (some (2 * (i : Int) + 2)) = S (hex2 (os.getD i 0)) := by
            rw [hx, slice_mid _ _ _ (by rw [flat_len]; (first | lia | omega)), ← flat_take os i (by (first | lia | omega))]
            congr 2
            · (first | lia | omega)
          rw [e]
          intro ys hy
          cases hy with
          | cons _ ta r => cases r with
            | cons _ tb r => cases r with
              | nil =>
                rw [← join_path cur _ hcb]
                have hf := hex2_free _ ho.1 ho.2
                exact join_ w mean mg mb _ _ ta tb (pathL cur) (hex2 (os.getD i 0)) rfl rfl (by simp [pathL]) (fun q => hf (List.mem_of_mem_head? q)) (by simp [hex2]) (by rw [hex2_len]; (first | lia | omega))
        have HN : PathAt w mean mg mb 166 5 [S (47 :: joinL (cur.map hex2 ++ [hex2 (os.getD i 0)]))] (S (pathL (cur ++ [os.getD i 0]))) := by
          intro ys hy
          cases hy with
          | cons _ ta r => cases r with
            | nil =>
              have e : S (pathL (cur ++ [os.getD i 0])) = S (47 :: joinL ((cur.map hex2 ++ [hex2 (os.getD i 0)]).foldl nstep [])) := by
                rw [norm_path cur _ hcb, nstep, if_neg (hex2_ne _ ho), pathL, List.map_append]; rfl
              rw [e]
              refine normpath_ w mean mg mb _ ta (cur.map hex2 ++ [hex2 (os.getD i 0)]) rfl (by simp) (fun c hc => ?_) (by simp; (first | lia | omega))
              rcases List.mem_append.mp hc with hc | hc
              · obtain ⟨o, ho, rfl⟩ := List.mem_map.mp hc
                exact hex_clean o (hcb o ho)
              · rw [List.mem_singleton.mp hc]; exact hex_clean _ ho
        k_steps
        · exact absurd (by assumption) ht
        · rename_i h1E tkE tE niE xE hE FE NE
          have e1 : owalk ts os (i + 1) = cur ++ [os.getD i 0] := by rw [hsu, ostep, if_neg ht]
          refine JS.mk_ ⟨ws ++ [.str (S (pathL (cur ++ [os.getD i 0]))) tE], nn + 1, tE, fun _ => none⟩ FE NE ?_ ?_ ?_ (fun p hp => .tail _ hp) hoff
          · show StrsAre _ ((List.range (i + 1)).map fun i => S (pathL (owalk ts os (i + 1))))
            rw [List.range_succ, List.map_append]
            simp only [List.map_cons, List.map_nil, e1]
            exact strsAre_snoc hcc _ _
          · intro z hz
            dsimp only
            rw [List.length_append, List.length_singleton, hlen, e1]
            by_cases hw : z = Str.ofString "way"
            · rw [if_pos hw, if_pos hw]
            · rw [if_neg hw, if_neg hz, if_neg hw, if_neg hw]
          · intro p hp
            rw [List.mem_singleton.mp hp]; simp
        
    · intro c u h tk hc F' N'
      obtain ⟨ws, nn, tw, uu⟩ := c
      dsimp only at hc F' N' ⊢
      k_steps
      dsimp only
      exact hret _ _ _ _ _ (by assumption) (by assumption) ⟨_, _, _, rfl, .head _, hc⟩

end Mine
end
section
open PySem PySem.W PySem.Spec PySem.Calls PyProof.Rows PySem.Builtin
set_option Elab.async false
set_option maxRecDepth 100000
set_option maxHeartbeats 8000000
namespace Mine
def hexOut (b : List UInt8) : Array Nat := b.zipIdx.foldl (fun (out : Array Nat) (ci : UInt8 × Nat) => (out.push (Bytes.hexDigit (ci.1.toNat / 16))).push (Bytes.hexDigit (ci.1.toNat % 16))) #[]
theorem hex_eq (b : Array UInt8) (t : Tok) : «bytes.hex» ⟨[.bytes b t], []⟩ = retStr ⟨hexOut b.toList⟩ := by rfl
theorem upper_eq (b : Array UInt8) (t : Tok) : «bytes.upper» ⟨[.bytes b t], []⟩ = (do ret (← mkBytes (b.toList.map Bytes.toUpper).toArray)) := by rfl
theorem encodeRoad_ascii (id : String) (self : Value) (x : Str) (errors : Option Str) : _codecs.encodeRoad id self x (Str.ofString "ascii") errors = (do mkBytes (← _codecs.encodeNarrow id _codecs.asciiCodec errors self x)) := by
  first | rfl | (unfold _codecs.encodeRoad; rfl) | (unfold _codecs.encodeRoad; simp only []; rfl) | decide
theorem encode_tree2 (x : Str) (t u : Tok) : «str.encode» ⟨[.str x t, .str (Str.ofString "ascii") u], []⟩ = (do ret (← _codecs.encodeRoad "str.encode" (.str x t) x (Str.ofString "ascii") none)) := by
  first | rfl | kernel_rfl
theorem extract_all (a : Array Nat) : a.extract 0 a.size = a := by simp
theorem findNone {a : Array Nat} {p : Nat → Bool} (h : ∀ c ∈ a.toList, p c = false) : a.findIdx? p = none := by
  rw [Array.findIdx?_eq_none_iff]
  intro x hx
  exact h x (by simpa using hx)
theorem fold_bytes (f : Nat → UInt8) (l : List Nat) (acc : Array UInt8) : l.foldl (fun acc y => acc ++ [f y].toArray) acc = acc ++ (l.map f).toArray := by
  induction l generalizing acc with
  | nil => simp
  | cons y r ih => rw [List.foldl_cons, ih]; simp
theorem forIn_two {σ : Type} (F : Nat → σ → Sem (ForInStep σ)) (s₀ s₁ : σ) (h1 : F 0 s₀ = pure (.yield s₁)) (h2 : ∀ j, F j s₁ = pure (.done s₁)) (n : Nat) : forIn (List.range' 0 (n + 1)) s₀ F = (pure s₁ : Sem σ) := by
  rw [List.range'_succ, List.forIn_cons, h1]
  show (forIn (List.range' (0 + 1) n) s₁ F) = _
  cases n with
  | zero => rfl
  | succ n =>
    rw [List.range'_succ, List.forIn_cons, h2]; rfl
theorem encode_clean (id : String) (self : Value) (x : Str) (h : ∀ c ∈ x.cps.toList, c < 128) (hz : x.length ≤ 2 ^ 20) :
    _codecs.encodeNarrow id _codecs.asciiCodec none self x = pure ((x.cps.toList.map (·.toUInt8)).toArray) := by
  have hb : ∀ c ∈ x.cps.toList, _codecs.asciiCodec.bad c = false := fun c hc => by
    have := h c hc
    show decide (c ≥ 128) = false
    simp; (first | lia | omega)
  unfold _codecs.encodeNarrow
  dsimp only
  rw [Std.Legacy.Range.forIn_eq_forIn_range']
  simp only [Std.Legacy.Range.size, Nat.sub_zero, Nat.add_sub_cancel, Nat.div_one]
  cases hn : x.length with
  | zero =>
    have e : x.cps = #[] := Array.size_eq_zero_iff.mp hn
    simp [e]
  | succ n =>
    rw [forIn_two _ _ (x.cps.size, (x.cps.toList.map (·.toUInt8)).toArray, {}) ?h1 ?h2 n]
    case h1 =>
      have hs : 0 < x.cps.size := by show 0 < x.length; (first | lia | omega)
      have hx0 : x.cps[0]? = some (x.cps[0]'hs) := by simp [hs]
      have hb0 : _codecs.asciiCodec.bad (x.cps[0]'hs) = false := hb _ (by simp)
      have hf : Array.findIdx? _codecs.asciiCodec.bad x.cps = none := findNone hb
      have hfold : Array.foldl (fun acc y => acc ++ (_codecs.asciiCodec.bytesOf y).toArray) #[] x.cps = (x.cps.toList.map (·.toUInt8)).toArray := by
        rw [← Array.foldl_toList]
        exact (fold_bytes (fun c => c.toUInt8) x.cps.toList #[]).trans (by simp)
      have h0 : ¬ (#[] : Array UInt8).size > sizeLine := by decide
      have hex : x.cps.extract 0 x.cps.size = x.cps := extract_all _
      simp only [if_neg h0, hx0, hb0, Bool.not_false, if_true, hex, hf, Option.getD_none, hfold, Nat.zero_add]
    case h2 =>
      intro j
      have h0 : ¬ ((x.cps.toList.map (·.toUInt8)).toArray).size > sizeLine := by
        have : x.cps.size ≤ 2 ^ 20 := hz
        simp only [List.size_toArray, List.length_map, Array.length_toList]
        show ¬ _ > 2 ^ 24
        (first | lia | omega)
      have hx1 : x.cps[x.cps.size]? = none := by simp
      simp only [if_neg h0, hx1]
    simp only [pure_bind]
theorem slot_bytes_upper : Slot "bytes" "upper" "bytes.upper" :=
  .of (owner := "bytes") (n := "upper") (by rw [typeLookup_type, builtinLookup_eq_fast]; kernel_rfl) (by decide +kernel) (by decide +kernel) (by decide +kernel)
    (by first | exact .inl (by decide +kernel) | exact .inr (by decide +kernel)) (by rw [isSubtype_type]; kernel_rfl)
theorem type_bytes_upper : typeOf (.builtin "bytes.upper") = pure (.type "method_descriptor") := by show builtinType _ = _; rw [builtinType_eq_fast]; kernel_rfl
theorem entry_bytes_upper : entryFor table "bytes.upper" = some Builtin.«bytes.upper» := entryFor_of_tree (by kernel_rfl)
theorem args_bytes_upper_1 (a : Value) : argsOk "bytes.upper" ⟨[a], []⟩ := by
  unfold argsOk; rw [signature?_of (id := "bytes.upper") (n := ['r', 'e', 'p', 'p', 'u']) (o := ['s', 'e', 't', 'y', 'b']) (by kernel_rfl) FB.owner_bytes]; kernel_rfl

theorem hexOut_eq (b : List UInt8) : (hexOut b).toList = b.flatMap fun c => [Bytes.hexDigit (c.toNat / 16), Bytes.hexDigit (c.toNat % 16)] := by
  have key : ∀ (l : List UInt8) (k : Nat) (acc : Array Nat), ((l.zipIdx k).foldl (fun (out : Array Nat) (ci : UInt8 × Nat) => (out.push (Bytes.hexDigit (ci.1.toNat / 16))).push (Bytes.hexDigit (ci.1.toNat % 16))) acc).toList = acc.toList ++ l.flatMap fun c => [Bytes.hexDigit (c.toNat / 16), Bytes.hexDigit (c.toNat % 16)] := by
    intro l
    induction l with
    | nil => intro k acc; simp
    | cons c r ih => intro k acc; rw [List.zipIdx_cons, List.foldl_cons, ih]; simp
  exact (key b 0 #[]).trans (by simp)

section
variable {prog : Program} {w : World} {A : Around} {E : Value → Shared → Prop} {s : Shared}
theorem call_hex {b : Array UInt8} {t : Tok} {Q : Value → Shared → Prop} (hz : (hexOut b.toList).size ≤ 2 ^ 20) (h : ∀ t' k, Q (.str ⟨hexOut b.toList⟩ t') { s with toks := k }) : wpAny (model prog w) A (call (.builtin "bytes.hex") [.bytes b t]) Q E s := by
  refine call_meets FB.slot_bytes_hex (typeIs_bytes _ _ _) FB.entry_bytes_hex (FB.args_bytes_hex_1 _) (S := fun _ R s => (hexOut b.toList).size ≤ 2 ^ 20 ∧ ∀ t' k, R (.ok (.ret (.str ⟨hexOut b.toList⟩ t'))) { s with toks := k }) (.of_wp fun prog w A R s hS => ?_) ⟨hz, h⟩
  obtain ⟨hz, h⟩ := hS
  rw [hex_eq]
  exact wpAny_bind (wpAny_mkStr (wpAny_pure ⟨_, rfl, h _ _⟩) (Nat.le_trans hz (by decide)))
theorem call_encode {x : Str} {t u : Tok} {Q : Value → Shared → Prop} (hc : ∀ c ∈ x.cps.toList, c < 128) (hz : x.length ≤ 2 ^ 20) (h : ∀ t' k, Q (.bytes (x.cps.toList.map (·.toUInt8)).toArray t') { s with toks := k }) :
    wpAny (model prog w) A (call (.builtin "str.encode") [.str x t, .str (Str.ofString "ascii") u]) Q E s := by
  refine call_meets PySem.F.slot_str_encode rfl PySem.F.entry_str_encode (PySem.F.args_str_encode_2 _ _) (S := fun _ R s => (∀ c ∈ x.cps.toList, c < 128) ∧ x.length ≤ 2 ^ 20 ∧ ∀ t' k, R (.ok (.ret (.bytes (x.cps.toList.map (·.toUInt8)).toArray t'))) { s with toks := k }) (.of_wp fun prog w A R s hS => ?_) ⟨hc, hz, h⟩
  obtain ⟨hc, hz, h⟩ := hS
  rw [encode_tree2, encodeRoad_ascii, encode_clean _ _ _ hc hz]
  simp only [pure_bind]
  exact wpAny_bind (wpAny_mkBytes (wpAny_pure ⟨_, rfl, h _ _⟩) (by simp only [List.size_toArray, List.length_map, Array.length_toList]; exact Nat.le_trans hz (by decide)))
theorem call_upper {b : Array UInt8} {t : Tok} {Q : Value → Shared → Prop} (hz : b.size ≤ 2 ^ 20) (h : ∀ t' k, Q (.bytes (b.toList.map Bytes.toUpper).toArray t') { s with toks := k }) : wpAny (model prog w) A (call (.builtin "bytes.upper") [.bytes b t]) Q E s := by
  refine call_meets slot_bytes_upper (typeIs_bytes _ _ _) entry_bytes_upper (args_bytes_upper_1 _) (S := fun _ R s => b.size ≤ 2 ^ 20 ∧ ∀ t' k, R (.ok (.ret (.bytes (b.toList.map Bytes.toUpper).toArray t'))) { s with toks := k }) (.of_wp fun prog w A R s hS => ?_) ⟨hz, h⟩
  obtain ⟨hz, h⟩ := hS
  rw [upper_eq]
  exact wpAny_bind (wpAny_mkBytes (wpAny_pure ⟨_, rfl, h _ _⟩) (by simp only [List.size_toArray, List.length_map, Array.length_toList]; exact Nat.le_trans hz (by decide)))
theorem noRefB {b : Array UInt8} {t : Tok} : ∀ a, Value.bytes b t = .ref a → ∃ o, s.heap.get? a = some o ∧ o.dict = none := fun _ e => nomatch e
theorem meth_hex {M : Model} {b : Array UInt8} {t : Tok} {pl : Sem Bool} {Q : Value × List Value → Shared → Prop} (h : Q (.builtin "bytes.hex", [.bytes b t]) s) : wpAny M A (getMethod (.bytes b t) (Str.ofString "hex") pl) Q E s :=
  getMethod_builtin (typeIs_bytes _ _ _) FB.plainAttrs_bytes FB.slot_bytes_hex FB.type_bytes_hex noRefB h
theorem meth_upper {M : Model} {b : Array UInt8} {t : Tok} {pl : Sem Bool} {Q : Value × List Value → Shared → Prop} (h : Q (.builtin "bytes.upper", [.bytes b t]) s) : wpAny M A (getMethod (.bytes b t) (Str.ofString "upper") pl) Q E s :=
  getMethod_builtin (typeIs_bytes _ _ _) FB.plainAttrs_bytes slot_bytes_upper type_bytes_upper noRefB h
theorem meth_encode {M : Model} {x : Str} {t : Tok} {pl : Sem Bool} {Q : Value × List Value → Shared → Prop} (h : Q (.builtin "str.encode", [.str x t]) s) : wpAny M A (getMethod (.str x t) (Str.ofString "encode") pl) Q E s :=
  getMethod_builtin rfl PySem.F.plainAttrs_str PySem.F.slot_str_encode PySem.F.type_str_encode (fun _ e => nomatch e) h
end
end Mine
end
section
open PySem PySem.W PySem.Spec PySem.Calls PyProof.Rows
set_option Elab.async false
set_option maxRecDepth 100000
set_option maxHeartbeats 8000000
set_option pp.maxSteps 3000
namespace Mine
def b16 (x : Array UInt8) : Array UInt8 := ((({ cps := hexOut x.toList } : Str).cps.toList.map (·.toUInt8)).toArray.toList.map Builtin.Bytes.toUpper).toArray
theorem hexOut_lt (l : List UInt8) : ∀ c ∈ (hexOut l).toList, c < 128 := by
  intro c hc
  rw [hexOut_eq] at hc
  obtain ⟨b, _, hb⟩ := List.mem_flatMap.mp hc
  have h1 : b.toNat < 256 := b.toNat_lt
  unfold Builtin.Bytes.hexDigit at hb
  simp only [List.mem_cons, List.not_mem_nil, or_false] at hb
  rcases hb with rfl | rfl <;> (split <;> (first | lia | omega))
theorem hexOut_len (l : List UInt8) : (hexOut l).size = 2 * l.length := by
  rw [← Array.length_toList, hexOut_eq]
  induction l with
  | nil => rfl
  | cons c r ih => rw [List.flatMap_cons, List.length_append, ih]; simp only [List.length_cons, List.length_nil]; (first | lia | omega)
theorem b16_ (w : World) (mean : ExcName → Option Value) (mg mb : Str → Option Value) (x : Array UInt8) (t : Tok) (hn : x.size ≤ 64) :
    PC w mean mg mb 5 51 [.bytes x t] (fun _ => True) (fun nw r => nw = [] ∧ ∃ t', r = .bytes (b16 x) t') := by
  w_top off
  k_with_none
  (k_with "call builtin:issubclass" => (k_here; k_dflt (refine' issub_tuple ?kD ?kc ?_; (case kD => exact (News.get (by k_asm) (by k_mem))); (case kc => exact rfl); k_whole)))
  (k_with "exec For Name Call cons nil" => (k_here; (with_unfolding_all refine' For_invVF ?kF0 ?k1 ?k2 ?_; (case kF0 => k_asm); (case k1 => exact rfl); (case k2 => exact rfl); k_whole)))
  (k_with "exec For Name Name cons nil" => (k_here; (with_unfolding_all refine' For_invVF ?kF0 ?k1 ?k2 ?_; (case kF0 => k_asm); (case k1 => exact rfl); (case k2 => exact rfl); k_whole)))
  (k_with "pyIter ref" => (k_here; (with_reducible show wpAny _ _ (pyIter (Value.ref _)) (fun it s₂ => LoopAtV _ _ _ _ _ _ _ _ _ it s₂) _ _); refine Stop.mk ?_))
  (k_with "eval ListComp" => (k_here; (with_reducible apply comp_evalG); (case hclos => with_unfolding_all rfl); (case hcell => decide); (case hkind => with_unfolding_all rfl); (case hnames => decide); (case hx => with_unfolding_all rfl); (case hs => intro _; with_unfolding_all rfl)))
  (k_with "pyIter ref" => (k_here; (with_reducible show wpAny _ _ (pyIter (Value.ref _)) (fun it s₂ => CG _ _ _ _ _ _ _ _ _ it s₂) _ _); refine Stop.mk ?_))
  (k_with "binaryOp Pow int int" => (k_here; (with_reducible refine pow_int_small ?kb1 ?kb2 ?kb3 ?_); (case kb1 => (first | lia | omega)); (case kb2 => (first | lia | omega)); (case kb3 => decide)))
  (k_with "binaryOp FloorDiv int int" => (k_here; (with_reducible refine floordiv_int (pow64_ne _) ?_ (Or.inl (PyProof.noPylong_of_log2 (pow64_log _ (by (first | lia | omega))))))))
  (k_with "binaryOp FloorDiv int int" => (k_here; (with_reducible refine floordiv_int (by decide) ?_ (Or.inl (PyProof.noPylong_of_log2 (by decide +kernel))))))
  (k_with "binaryOp Mod int int" => (k_here; (with_reducible refine mod_int' (by decide) ?_ (Or.inl (PyProof.noPylong_of_log2 (by decide +kernel))))))
  (k_with "eval Name" => (k_here; (with_reducible show wpAny _ _ (eval (Expr.Name _ _) (compEnvC _ _ _ _)) _ _ _); (with_unfolding_all refine' nameC_F ?N ?c ?m ?d ?k ?x ?dd ?_; (case k => exact rfl); (case x => exact rfl); (case dd => decide); (case N => with_reducible assumption); (case c => exact rfl); (case m => k_mem); (case d => k_asm); k_whole)))
  (k_with "eval Name" => (k_here; (with_reducible show wpAny _ _ (eval (Expr.Name _ _) (compEnvC _ _ _ _)) _ _ _); (with_unfolding_all refine' nameC_L ?n ?v ?k ?x ?d ?_; (case k => exact rfl); (case x => exact rfl); (case d => decide); (case n => with_reducible assumption); (case v => with_reducible assumption); k_whole)))
  (k_with "call ref" => (k_here; (first | (with_reducible show wpAny _ _ (call (Value.ref 138) _) _ _ _) | (with_reducible show wpAny _ _ (call (Value.ref 159) _) _ _ _) | (with_reducible show wpAny _ _ (call (Value.ref 44) _) _ _ _) | (with_reducible show wpAny _ _ (call (Value.ref 35) _) _ _ _)); k_dflt ((refine wpAny_call ?_); (refine' code_def ?k1 ?k2 ?k3 ?k4 ?k5 ?kA ?kF ?kK ?k6 ?k7 ?k8 ?k9 ?kB ?_ ?c2 ?c3 ?c4 ?c5); (case kA => exact rfl); (case kF => exact rfl); (case kK => first | exact rfl | assumption); (case k1 => k_asm); (case k2 => k_asm); (case k3 => k_asm); (case k4 => k_asm); (case k5 => k_asm); (case k6 => k_is); (case k7 => k_is); (case k8 => ktr_room); (case k9 => first | exact BindsTo.of_eq rfl | exact binds_K (by k_in) rfl (by k_is) rfl rfl rfl); (case c5 => decide); (case kB => exact locs rfl); (case c2 => exact rfl); (case c3 => exact rfl); (case c4 => exact rfl); k_whole; (intro _ _ _ _ _ _ _ _ _); (try dsimp only); (try k_fold))))
  (k_with "exec Assign cons ListComp" => (k_here; (with_reducible apply comp_assignG); (case hsw => with_unfolding_all rfl); (case hclos => with_unfolding_all rfl); (case hcell => decide); (case hkind => with_unfolding_all rfl); (case hnames => decide); (case hx => with_unfolding_all rfl); (case hy => with_unfolding_all rfl); (case hp => with_unfolding_all rfl); (case hs => intro _; with_unfolding_all rfl)))
  (k_with "pyIter ref" => (k_here; (with_reducible show wpAny _ _ (pyIter (Value.ref _)) (fun it s₂ => CGA _ _ _ _ _ _ _ _ _ _ it s₂) _ _); refine Stop.mk ?_))
  (k_with "pyIter str" => (k_here; (with_reducible show wpAny _ _ (pyIter (Value.str _ _)) (fun it s₂ => CGA _ _ _ _ _ _ _ _ _ _ it s₂) _ _); refine Stop.mk ?_))
  (k_with "pyIter bytes" => (k_here; (with_reducible show wpAny _ _ (pyIter (Value.bytes _ _)) (fun it s₂ => CG _ _ _ _ _ _ _ _ _ it s₂) _ _); refine Stop.mk ?_))
  (k_with "ite" => (k_here; first | (refine ite_pos (by with_reducible assumption) ?_) | (refine ite_neg (by with_reducible assumption) ?_)))
  (k_with "call ref" => (k_here; (with_reducible show wpAny _ _ (call (Value.ref 124) [Value.str _ _]) _ _ _); (k_dflt (refine' PC.useStr (fspath_str _ _ _ _ _ _) ?B ?F ?X ?N ?T ?hk ?hd ?hu trivial ?_; ((case B => k_asm); (case F => k_asm); (case X => k_asm); (case N => k_asm); (case T => k_asm); (case hk => first | exact rfl | assumption); (case hd => ktr_room); (case hu => ktr_units)); k_whole)); (intro _ _ _ _ _ _ _); (try dsimp only); (try k_sweep)))
  (k_with "call ref" => (k_here; (with_reducible show wpAny _ _ (call (Value.ref 152) [Value.str _ _]) _ _ _); (k_dflt (refine' PC.usePair (SplitAt.pc ?C _) ?B ?F ?X ?N ?T ?hk ?hd ?hu trivial ?_; (case C => with_reducible assumption); ((case B => k_asm); (case F => k_asm); (case X => k_asm); (case N => k_asm); (case T => k_asm); (case hk => first | exact rfl | assumption); (case hd => ktr_room); (case hu => ktr_units)); k_whole)); (intro _ _ _ _ _ _ _ _ _); (try dsimp only); (try k_sweep)))
  (k_with "truthy str" => (k_here; (with_reducible show wpAny _ _ (PySem.truthy (Value.str _ _)) _ _ _); (refine truthy_yes (by (first | lia | omega)) (by (first | lia | omega)) ?_)))
  (k_with "truthy ref" => (k_here; (with_reducible show wpAny _ _ (PySem.truthy (Value.ref _)) _ _ _); (k_dflt (first | (refine' truthy_listY ?mtyN ?mtym ?mtya ?mtyb ?_; (case mtyN => k_asm); (case mtym => k_mem); (case mtya => (first | lia | omega)); (case mtyb => (first | lia | omega)); k_whole) | (refine' truthy_listN ?mtnN ?mtnm ?mtna ?_; (case mtnN => k_asm); (case mtnm => k_mem); (case mtna => (first | lia | omega)); k_whole)))))
  (k_with "subscriptTail" => (k_here; (with_reducible show wpAny _ _ (subscriptTail _ _ (Value.ref _) (Value.int (-1) _)) _ _ _); k_dflt (refine' sub_last ?mslN ?mslm ?mslv ?mslz ?_ ?msls; (case mslN => k_asm); (case mslm => k_mem); (case mslv => with_reducible assumption); (case mslz => (first | lia | omega)); (case msls => with_unfolding_all rfl); k_whole)))
  (k_with "call builtin:list.pop" => (k_here; k_dflt (refine' kl_pop ?mplF ?mplN ?mple ?mplU ?mplz ?_; (case mplF => k_asm); (case mplN => k_asm); (case mple => with_reducible assumption); (case mplU => k_upd); (case mplz => with_reducible assumption); k_whole); intro _ _ _; (try k_sweep)))
  (k_with "call builtin:str.join" => (k_here; (with_reducible show wpAny _ _ (call (Value.builtin _) [Value.str _ _, Value.ref _]) _ _ _); k_dflt (refine' join_list ?mjnl ?mjni ?mjnk ?_; (case mjnl => exact News.isList (by k_asm) (by k_mem)); (case mjni => with_reducible assumption); (case mjnk => with_reducible assumption); k_whole); intro _ _))
  (k_with "call type:type" => (k_here; (with_reducible show wpAny _ _ (call _ [Value.bytes _ _]) _ _ _); refine call_type_of (Tx := "bytes") rfl (by decide +kernel) ?_))
  (k_with "getMethod bytes" => (k_here; (with_reducible show wpAny _ _ (getMethod (Value.bytes _ _) (PySem.Str.ofString "hex") _) _ _ _); k_dflt (refine meth_hex ?_)))
  (k_with "getMethod bytes" => (k_here; (with_reducible show wpAny _ _ (getMethod (Value.bytes _ _) (PySem.Str.ofString "upper") _) _ _ _); k_dflt (refine meth_upper ?_)))
  (k_with "getMethod str" => (k_here; (with_reducible show wpAny _ _ (getMethod (Value.str _ _) (PySem.Str.ofString "encode") _) _ _ _); k_dflt (refine meth_encode ?_)))
  (k_with "call builtin:bytes.hex" => (k_here; k_dflt (refine' call_hex ?mchz ?_; (case mchz => with_reducible assumption); k_whole); intro _ _))
  (k_with "call builtin:str.encode" => (k_here; k_dflt (refine' call_encode ?mcec ?mcez ?_; (case mcec => with_reducible assumption); (case mcez => with_reducible assumption); k_whole); intro _ _))
  (k_with "call builtin:bytes.upper" => (k_here; k_dflt (refine' call_upper ?mcuz ?_; (case mcuz => with_reducible assumption); k_whole); intro _ _))
  have mFill : ∀ P : Params, (Mine.hd.heap_39 P).In {} → PySem.Challenge.rw_pd0187_01.Holds → True := by
    k_fill
    exact fun _ _ _ => trivial
  clear mFill
  refine' PC.of [(Str.ofString "s", .bytes x t)] (fun _ _ _ h => h) ?ho ?hcd ?hbind ?hloc ?hco ?hgen ?hk ?hcell ?h
  (case ho => k_is)
  (case hcd => k_is)
  (case hbind => exact fun _ _ => BindsTo.of_eq rfl)
  (case hloc => exact locs rfl)
  (case hco => exact rfl)
  (case hgen => exact rfl)
  (case hk => exact rfl)
  (case hcell => decide)
  case h =>
    intro dp un gd env outer A₁ base g L s Q B F X T N pre hd hu hret
    have hl : (hexOut x.toList).size = 2 * x.size := by rw [hexOut_len, Array.length_toList]
    have z1 : (hexOut x.toList).size ≤ 2 ^ 20 := by (first | lia | omega)
    have z2 : ({ cps := hexOut x.toList } : Str).length ≤ 2 ^ 20 := z1
    have z3 : ∀ c ∈ ({ cps := hexOut x.toList } : Str).cps.toList, c < 128 := hexOut_lt _
    have z4 : (({ cps := hexOut x.toList } : Str).cps.toList.map (·.toUInt8)).toArray.size ≤ 2 ^ 20 := by simp only [List.size_toArray, List.length_map, Array.length_toList]; exact z1
    k_steps
    exact hret _ _ _ _ [] (by assumption) News.nil ⟨rfl, _, rfl⟩

end Mine
end
section
open PySem PySem.W PySem.Spec PySem.Calls PyProof.Rows
set_option Elab.async false
set_option maxRecDepth 100000
set_option maxHeartbeats 8000000
namespace Mine

theorem octs_succ (v : Int) (n : Nat) (_ : 0 ≤ v) : octs v (n + 1) = octs (v / 64) n ++ [64 + v % 64] := by
  unfold octs
  rw [List.range_succ, List.map_append]
  congr 1
  · refine List.map_congr_left fun i hi => ?_
    have hi := List.mem_range.mp hi
    have e : n + 1 - 1 - i = (n - 1 - i) + 1 := by (first | lia | omega)
    rw [e, Int.pow_succ', ← Int.ediv_ediv_of_nonneg (by decide)]
  · simp
theorem octs_zero (v : Int) : octs v 0 = [] := rfl
theorem octs_cons (v d : Int) (n : Nat) (hv : 0 ≤ v) (h0 : 0 ≤ d) (h1 : d < 64) : octs (v * 64 + d) (n + 1) = octs v n ++ [64 + d] := by
  rw [octs_succ _ _ (by (first | lia | omega))]
  congr 2
  · (first | lia | omega)
  · congr 1; (first | lia | omega)
theorem octs_drop (v : Int) (n : Nat) (hv : 0 ≤ v) : (octs v (n + 1)).dropLast = octs (v / 64) n := by
  rw [octs_succ _ _ hv, List.dropLast_concat]
theorem row_eq (p : Int × Int) (h0 : 0 ≤ p.1) (h1 : 1 ≤ p.2) : rowOf p = octs (p.1 / 64) (p.2.toNat - 1) ++ [p.1 % 64] := by
  obtain ⟨k, hk⟩ : ∃ k, p.2.toNat = k + 1 := ⟨p.2.toNat - 1, by (first | lia | omega)⟩
  unfold rowOf
  rw [hk, octs_drop _ _ h0, octs_succ _ _ h0]
  simp
  (first | lia | omega)

def oc (x : Int) : Int := x / 4 % 64 + if x % 4 = 1 then 0 else 64
theorem oc_bnd (x : Int) : 0 ≤ oc x ∧ oc x < 128 := by unfold oc; split <;> (first | lia | omega)

theorem octets_step (c : LS) (x : Int) (hv : 0 ≤ c.value) (hz : 0 ≤ c.size) (hd : ∀ p ∈ c.done, 0 ≤ p.1 ∧ 1 ≤ p.2) : octetsOf (sstep c x) = ostep (octetsOf c) (x % 4) (oc x) := by
  obtain ⟨d, v, z⟩ := c
  dsimp only at hv hz hd
  unfold sstep ostep oc
  dsimp only
  split
  · rename_i h
    rw [if_neg (by (first | lia | omega) : ¬ x % 4 = 0)]
    simp only [if_neg (by (first | lia | omega) : ¬ x % 4 = 1)]
    unfold octetsOf
    dsimp only
    have e : (z + 1).toNat = z.toNat + 1 := by (first | lia | omega)
    rw [e, octs_cons _ _ _ hv (by (first | lia | omega)) (by (first | lia | omega)), ← List.append_assoc, Int.add_comm]
  · split
    · rename_i h h'
      rw [if_neg (by (first | lia | omega) : ¬ x % 4 = 0)]
      unfold octetsOf
      dsimp only
      rw [List.map_append, List.flatten_append, List.map_singleton, List.flatten_singleton, row_eq _ (by dsimp only; (first | lia | omega)) (by dsimp only; (first | lia | omega))]
      dsimp only
      have e : (z + 1).toNat - 1 = z.toNat := by (first | lia | omega)
      rw [e]
      have e1 : (v * 64 + x / 4 % 64) / 64 = v := by (first | lia | omega)
      have e2 : (v * 64 + x / 4 % 64) % 64 = x / 4 % 64 := by (first | lia | omega)
      rw [e1, e2, show (0 : Int).toNat = 0 from rfl, octs_zero, List.append_nil, List.append_assoc, Int.add_zero]
    · rename_i h h'
      have h0 : x % 4 = 0 := by (first | lia | omega)
      rw [if_pos h0]
      split
      · rename_i hz'
        unfold octetsOf
        dsimp only
        obtain ⟨k, hk⟩ : ∃ k, z.toNat = k + 1 := ⟨z.toNat - 1, by (first | lia | omega)⟩
        have e : (z - 1).toNat = k := by (first | lia | omega)
        rw [e, hk, List.dropLast_append_of_ne_nil (by rw [octs_succ _ _ hv]; simp), octs_drop _ _ hv]
      · rename_i hz'
        have e0 : z.toNat = 0 := by (first | lia | omega)
        split
        · rename_i p hp
          have e := snoc_of_last hp
          have hp' := hd p (e ▸ List.mem_append_right _ (.head _))
          unfold octetsOf
          dsimp only
          rw [e0, octs_zero, List.append_nil]
          conv => rhs; rw [e]
          rw [List.map_append, List.flatten_append, List.map_singleton, List.flatten_singleton, row_eq _ hp'.1 hp'.2, ← List.append_assoc, List.dropLast_concat]
          congr 2
          (first | lia | omega)
        · rename_i hp
          have e : d = [] := by simpa using hp
          subst e
          unfold octetsOf
          dsimp only
          rw [e0]; rfl

theorem sinv_all (ns : List Int) : ∀ i, i ≤ ns.length → SInv i (srun ns i)
  | 0, _ => ⟨Int.le_refl 0, Int.le_refl 0, (fun _ h => nomatch h), Int.le_refl 0⟩
  | i + 1, h => by
    have hn : ns[i]? = some (ns[i]'h) := List.getElem?_eq_getElem h
    rw [srun_succ hn]
    exact sinv_step hn (sinv_all ns i (by (first | lia | omega)))

theorem octets_run (ns : List Int) : ∀ i, i ≤ ns.length → octetsOf (srun ns i) = owalk (ns.map (· % 4)) (ns.map oc) i
  | 0, _ => rfl
  | i + 1, h => by
    have hn : ns[i]? = some (ns[i]'h) := List.getElem?_eq_getElem h
    have I := sinv_all ns i (by (first | lia | omega))
    rw [srun_succ hn, owalk_succ, octets_step _ _ I.v I.z I.d, octets_run ns i (by (first | lia | omega))]
    congr 1 <;> simp [List.getD, hn]

/-- the numbers below the bound of their figures -/
structure Sized (c : LS) : Prop where
  v : c.value < 64 ^ c.size.toNat
  d : ∀ p ∈ c.done, p.1 < 64 ^ p.2.toNat
theorem sized_step {c : LS} {x : Int} {i : Nat} (I : SInv i c) (h : Sized c) : Sized (sstep c x) := by
  obtain ⟨d, v, z⟩ := c
  obtain ⟨hv, hz, hd, -⟩ := I
  obtain ⟨hs, hds⟩ := h
  dsimp only at hv hz hd hs hds
  unfold sstep
  dsimp only
  have e : (z + 1).toNat = z.toNat + 1 := by (first | lia | omega)
  have up : v * 64 + x / 4 % 64 < 64 ^ (z + 1).toNat := by
    rw [e, Int.pow_succ]; (first | lia | omega)
  have down : ∀ (a : Int) (k : Int), 0 < k → a < 64 ^ k.toNat → a / 64 < 64 ^ (k - 1).toNat := fun a k hk ha => by
    have e' : k.toNat = (k - 1).toNat + 1 := by (first | lia | omega)
    rw [e', Int.pow_succ] at ha
    (first | lia | omega)
  split
  · exact ⟨up, hds⟩
  · split
    · refine ⟨by show (0 : Int) < 64 ^ 0; decide, fun p hp => ?_⟩
      rcases List.mem_append.mp hp with hp | hp
      · exact hds p hp
      · rw [List.mem_singleton.mp hp]; exact up
    · split
      · exact ⟨down v z (by (first | lia | omega)) hs, hds⟩
      · split
        · rename_i p hp
          have e := snoc_of_last hp
          have hm : p ∈ d := e ▸ List.mem_append_right _ (.head _)
          exact ⟨down p.1 p.2 (by have := (hd p hm).2; (first | lia | omega)) (hds p hm), fun q hq => hds q ((List.dropLast_sublist _).subset hq)⟩
        · exact ⟨hs, hds⟩
theorem sized_all (ns : List Int) : ∀ i, i ≤ ns.length → Sized (srun ns i)
  | 0, _ => ⟨by show (0 : Int) < 64 ^ 0; decide, fun _ h => nomatch h⟩
  | i + 1, h => by
    have hn : ns[i]? = some (ns[i]'h) := List.getElem?_eq_getElem h
    rw [srun_succ hn]
    exact sized_step (sinv_all ns i (by (first | lia | omega))) (sized_all ns i (by (first | lia | omega)))
end Mine
end
section
open PySem PySem.W PySem.Spec PySem.Calls PyProof.Rows
set_option Elab.async false
set_option maxRecDepth 100000
set_option maxHeartbeats 8000000
namespace Mine
/-- one number read: its value and what follows it -/
def vgo (a : Int) : List Int → Option (Int × List Int)
  | [] => none
  | b :: r => if b < 64 then some (a * 64 + b % 64, r) else vgo (a * 64 + b % 64) r
def numsF : Nat → List Int → List Int
  | 0, _ => []
  | k + 1, l => match vgo 0 l with
    | none => []
    | some (v, r) => v :: numsF k r
def nums (l : List Int) : List Int := numsF (l.length + 1) l
theorem vgo_len : ∀ {l : List Int} {a v : Int} {r : List Int}, vgo a l = some (v, r) → ∃ k, 0 < k ∧ k ≤ l.length ∧ r = l.drop k
  | [], _, _, _, h => nomatch h
  | b :: l, a, v, r, h => by
    unfold vgo at h
    split at h
    · cases h; exact ⟨1, Nat.one_pos, by simp, rfl⟩
    · obtain ⟨k, h0, h1, e⟩ := vgo_len h
      exact ⟨k + 1, Nat.succ_pos _, by simpa using h1, by simpa using e⟩
end Mine
end
section
open PySem PySem.W PySem.Spec PySem.Calls PyProof.Rows
set_option Elab.async false
set_option maxRecDepth 100000
set_option maxHeartbeats 8000000
namespace Mine
/-- lists of texts in order, sign by sign -/
def lexG (lt : List Nat → List Nat → Bool) (sz : Nat → Nat → Bool) : List (List Nat) → List (List Nat) → Bool
  | x :: xs, y :: ys => if x = y then lexG lt sz xs ys else lt x y
  | xs, ys => sz xs.length ys.length
def sLt (x y : List Nat) : Bool := decide (x < y)
def sGt (x y : List Nat) : Bool := decide (y < x)
def nLt (x y : Nat) : Bool := decide (x < y)
def nGt (x y : Nat) : Bool := decide (y < x)
section
open AutoSeq1 (wpAny_loadPart')

theorem rc_str_Lt {prog : Program} {w : World} {A : Around} {E : Value → Shared → Prop} {s : Shared} {x y : List Nat} {t u : Tok} {Q : Value → Shared → Prop} (h : Q (.bool (sLt x y)) s) : wpAny (model prog w) A (richCompare .Lt (.str (S x) t) (.str (S y) u)) Q E s :=
  wpAny_richCompare_same (op := .Lt) (T := "str") (typeIs_str s _ t) (typeIs_str s _ u) PyProof.Rows.slot_str_lt
    (wpAny_call_entry PyProof.Rows.slot_str_lt (typeIs_str s _ t) PyProof.Rows.entry_str_lt (show wpAny _ _ (ret (.bool ((S x).cps.toList < (S y).cps.toList))) _ _ s from wpAny_pure ⟨_, rfl, by simp, by
      have e : (decide ((S x).cps.toList < (S y).cps.toList)) = sLt x y := by simp [S_toList, sLt]
      rw [e]; exact h⟩) (PyProof.Rows.args_str_lt _ _))
theorem loop_Lt (a b : Addr) (vs ws : List Value) (n₁ n₂ : Nat) (xs ys : List (List Nat)) (hx : StrsAre vs (xs.map S)) (hy : StrsAre ws (ys.map S)) (k : Nat) :
    ∀ i : Nat, xs.length - i = k → i ≤ xs.length → i ≤ ys.length → Meets (Builtin.«list.__eq__.loop» ⟨[.ref a, .ref b, rawInt i, rawInt 0], []⟩)
      (fun _ R s => s.heap.get? a = some (W.listOf vs.toArray n₁) ∧ s.heap.get? b = some (W.listOf ws.toArray n₂) ∧ R (.ok (.ret (.bool (lexG sLt nLt (xs.drop i) (ys.drop i))))) s) := by
  have hvl := hx.length
  have hwl := hy.length
  rw [List.length_map] at hvl hwl
  have both : ∀ i, (i < xs.length ∧ i < ys.length) ∨ ¬ (i < xs.length ∧ i < ys.length) := fun i => Classical.em _
  have stop : ∀ i, i ≤ xs.length → i ≤ ys.length → ¬ (i < xs.length ∧ i < ys.length) → lexG sLt nLt (xs.drop i) (ys.drop i) = nLt xs.length ys.length := by
    intro i h1 h2 hn
    rcases Nat.lt_or_ge i xs.length with q | q
    · have e : ys.drop i = [] := List.drop_eq_nil_of_le (by (first | lia | omega))
      rw [e, List.drop_eq_getElem_cons q]
      simp only [lexG, nLt, List.length_cons, List.length_drop, List.length_nil]
      congr 1
      simp only [eq_iff_iff]; (first | lia | omega)
    · have e : xs.drop i = [] := List.drop_eq_nil_of_le q
      rw [e]
      simp only [lexG, nLt, List.length_drop, List.length_nil]
      congr 1
      simp only [eq_iff_iff]; (first | lia | omega)
  induction k with
  | zero =>
    intro i hk h1 h2 prog w A R s h
    obtain ⟨hp, g, d, tk, os⟩ := s; obtain ⟨ha, hb, h⟩ := h
    rw [stop i h1 h2 (by (first | lia | omega))] at h
    wp_walk using wpAny_loadPart' ha, wpAny_loadPart' hb
    have hi1 : vs.toArray[((i : Nat) : Int).toNat]? = none := by simp; (first | lia | omega)
    rw [hi1]
    wp_walk using wpAny_loadPart' ha, wpAny_loadPart' hb
    show R (.ok (.ret (.bool (decide (vs.toArray.size < ws.toArray.size))))) _
    simp only [List.size_toArray, hvl, hwl]
    exact h
  | succ k ih =>
    intro i hk h1 h2 prog w A R s h
    obtain ⟨hp, g, d, tk, os⟩ := s; obtain ⟨ha, hb, h⟩ := h
    have hlt : i < xs.length := by (first | lia | omega)
    obtain ⟨t1, hv⟩ := hx.get i (S (xs[i]'hlt)) (by simp [hlt])
    have hi1 : vs.toArray[((i : Nat) : Int).toNat]? = some (.str (S (xs[i]'hlt)) t1) := by simpa using hv
    rcases Nat.lt_or_ge i ys.length with hlt2 | hge
    · obtain ⟨t2, hw⟩ := hy.get i (S (ys[i]'hlt2)) (by simp [hlt2])
      have hi2 : ws.toArray[((i : Nat) : Int).toNat]? = some (.str (S (ys[i]'hlt2)) t2) := by simpa using hw
      have e1 : xs.drop i = xs[i]'hlt :: xs.drop (i + 1) := List.drop_eq_getElem_cons hlt
      have e2 : ys.drop i = ys[i]'hlt2 :: ys.drop (i + 1) := List.drop_eq_getElem_cons hlt2
      have hc : ((i : Int) + 1) = ((i + 1 : Nat) : Int) := by push_cast; rfl
      rw [e1, e2] at h
      simp only [lexG] at h
      generalize xs[i]'hlt = x at *
      generalize ys[i]'hlt2 = y at *
      wp_walk using wpAny_loadPart' ha, wpAny_loadPart' hb
      rw [hi1, hi2]
      refine wpAny_bind (eqBool_str ?_)
      rw [S_beq]
      by_cases hxy : x = y
      · rw [if_pos hxy] at h
        rw [decide_eq_true hxy]
        wp_walk
        rw [hc]
        exact ⟨plainId_quiet PySem.MeetsSeq3.plain_eq_loop _, codeAny_builtin PySem.MeetsSeq3.entry_eq_loop (by
          rw [Around.under_plainId PySem.MeetsSeq3.plain_eq_loop _]
          exact ih (i + 1) (by (first | lia | omega)) (by (first | lia | omega)) (by (first | lia | omega)) prog w A R _ ⟨ha, hb, h⟩)⟩
      · rw [if_neg hxy] at h
        rw [decide_eq_false hxy]
        wp_walk using wpAny_loadPart' ha, wpAny_loadPart' hb
        rw [hi1, hi2]
        dsimp only
        refine wpAny_bind (rc_str_Lt ?_)
        exact wpAny_pure h
    · rw [stop i h1 h2 (by (first | lia | omega))] at h
      have hi2 : ws.toArray[((i : Nat) : Int).toNat]? = none := by simp; (first | lia | omega)
      wp_walk using wpAny_loadPart' ha, wpAny_loadPart' hb
      rw [hi1, hi2]
      wp_walk using wpAny_loadPart' ha, wpAny_loadPart' hb
      show R (.ok (.ret (.bool (decide (vs.toArray.size < ws.toArray.size))))) _
      simp only [List.size_toArray, hvl, hwl]
      exact h
theorem meets_Lt (a b : Addr) (vs ws : List Value) (n₁ n₂ : Nat) (xs ys : List (List Nat)) (hx : StrsAre vs (xs.map S)) (hy : StrsAre ws (ys.map S)) :
    Meets (Builtin.«list.__lt__» ⟨[.ref a, .ref b], []⟩)
      (fun _ R s => s.heap.get? a = some (W.listOf vs.toArray n₁) ∧ s.heap.get? b = some (W.listOf ws.toArray n₂) ∧ R (.ok (.ret (.bool (lexG sLt nLt xs ys)))) s) := by
  intro prog w A R s h
  obtain ⟨hp, g, d, tk, os⟩ := s; obtain ⟨ha, hb, h⟩ := h
  have f3 := AutoSeq1.sub_list_list
  wp_walk using wpAny_loadPart' ha, wpAny_loadPart' hb
  exact ⟨plainId_quiet PySem.MeetsSeq3.plain_eq_loop _, codeAny_builtin PySem.MeetsSeq3.entry_eq_loop (by
    rw [Around.under_plainId PySem.MeetsSeq3.plain_eq_loop _]
    exact loop_Lt a b vs ws n₁ n₂ xs ys hx hy _ 0 rfl (Nat.zero_le _) (Nat.zero_le _) prog w A R _ ⟨ha, hb, h⟩)⟩
theorem rc_list_Lt {prog : Program} {w : World} {A : Around} {E : Value → Shared → Prop} {s : Shared} {a b : Addr} {vs ws : List Value} {n₁ n₂ : Nat} {xs ys : List (List Nat)} (hx : StrsAre vs (xs.map S)) (hy : StrsAre ws (ys.map S)) {Q : Value → Shared → Prop}
    (ha : s.heap.get? a = some (W.listOf vs.toArray n₁)) (hb : s.heap.get? b = some (W.listOf ws.toArray n₂)) (hu : A.units < cLine) (h : Q (.bool (lexG sLt nLt xs ys)) s) : wpAny (model prog w) A (richCompare .Lt (.ref a) (.ref b)) Q E s := by
  refine wpAny_richCompare_same_or (op := .Lt) (T := "list") ⟨_, ha, rfl⟩ ⟨_, hb, rfl⟩ PySem.F.slot_list_lt ?_ (.inr hu)
  exact call_meets PySem.F.slot_list_lt ⟨_, ha, rfl⟩ PySem.F.entry_list_lt (PySem.F.args_list_lt_2 _ _) (meets_Lt a b vs ws n₁ n₂ xs ys hx hy) ⟨ha, hb, by simp, h⟩

theorem rc_str_Gt {prog : Program} {w : World} {A : Around} {E : Value → Shared → Prop} {s : Shared} {x y : List Nat} {t u : Tok} {Q : Value → Shared → Prop} (h : Q (.bool (sGt x y)) s) : wpAny (model prog w) A (richCompare .Gt (.str (S x) t) (.str (S y) u)) Q E s :=
  wpAny_richCompare_same (op := .Gt) (T := "str") (typeIs_str s _ t) (typeIs_str s _ u) PyProof.Rows.slot_str_gt
    (wpAny_call_entry PyProof.Rows.slot_str_gt (typeIs_str s _ t) PyProof.Rows.entry_str_gt (show wpAny _ _ (ret (.bool ((S x).cps.toList > (S y).cps.toList))) _ _ s from wpAny_pure ⟨_, rfl, by simp, by
      have e : (decide ((S x).cps.toList > (S y).cps.toList)) = sGt x y := by simp [S_toList, sGt]
      rw [e]; exact h⟩) (PyProof.Rows.args_str_gt _ _))
theorem loop_Gt (a b : Addr) (vs ws : List Value) (n₁ n₂ : Nat) (xs ys : List (List Nat)) (hx : StrsAre vs (xs.map S)) (hy : StrsAre ws (ys.map S)) (k : Nat) :
    ∀ i : Nat, xs.length - i = k → i ≤ xs.length → i ≤ ys.length → Meets (Builtin.«list.__eq__.loop» ⟨[.ref a, .ref b, rawInt i, rawInt 4], []⟩)
      (fun _ R s => s.heap.get? a = some (W.listOf vs.toArray n₁) ∧ s.heap.get? b = some (W.listOf ws.toArray n₂) ∧ R (.ok (.ret (.bool (lexG sGt nGt (xs.drop i) (ys.drop i))))) s) := by
  have hvl := hx.length
  have hwl := hy.length
  rw [List.length_map] at hvl hwl
  have both : ∀ i, (i < xs.length ∧ i < ys.length) ∨ ¬ (i < xs.length ∧ i < ys.length) := fun i => Classical.em _
  have stop : ∀ i, i ≤ xs.length → i ≤ ys.length → ¬ (i < xs.length ∧ i < ys.length) → lexG sGt nGt (xs.drop i) (ys.drop i) = nGt xs.length ys.length := by
    intro i h1 h2 hn
    rcases Nat.lt_or_ge i xs.length with q | q
    · have e : ys.drop i = [] := List.drop_eq_nil_of_le (by (first | lia | omega))
      rw [e, List.drop_eq_getElem_cons q]
      simp only [lexG, nGt, List.length_cons, List.length_drop, List.length_nil]
      congr 1
      simp only [eq_iff_iff]; (first | lia | omega)
    · have e : xs.drop i = [] := List.drop_eq_nil_of_le q
      rw [e]
      simp only [lexG, nGt, List.length_drop, List.length_nil]
      congr 1
      simp only [eq_iff_iff]; (first | lia | omega)
  induction k with
  | zero =>
    intro i hk h1 h2 prog w A R s h
    obtain ⟨hp, g, d, tk, os⟩ := s; obtain ⟨ha, hb, h⟩ := h
    rw [stop i h1 h2 (by (first | lia | omega))] at h
    wp_walk using wpAny_loadPart' ha, wpAny_loadPart' hb
    have hi1 : vs.toArray[((i : Nat) : Int).toNat]? = none := by simp; (first | lia | omega)
    rw [hi1]
    wp_walk using wpAny_loadPart' ha, wpAny_loadPart' hb
    show R (.ok (.ret (.bool (decide (vs.toArray.size > ws.toArray.size))))) _
    simp only [List.size_toArray, hvl, hwl]
    exact h
  | succ k ih =>
    intro i hk h1 h2 prog w A R s h
    obtain ⟨hp, g, d, tk, os⟩ := s; obtain ⟨ha, hb, h⟩ := h
    have hlt : i < xs.length := by (first | lia | omega)
    obtain ⟨t1, hv⟩ := hx.get i (S (xs[i]'hlt)) (by simp [hlt])
    have hi1 : vs.toArray[((i : Nat) : Int).toNat]? = some (.str (S (xs[i]'hlt)) t1) := by simpa using hv
    rcases Nat.lt_or_ge i ys.length with hlt2 | hge
    · obtain ⟨t2, hw⟩ := hy.get i (S (ys[i]'hlt2)) (by simp [hlt2])
      have hi2 : ws.toArray[((i : Nat) : Int).toNat]? = some (.str (S (ys[i]'hlt2)) t2) := by simpa using hw
      have e1 : xs.drop i = xs[i]'hlt :: xs.drop (i + 1) := List.drop_eq_getElem_cons hlt
      have e2 : ys.drop i = ys[i]'hlt2 :: ys.drop (i + 1) := List.drop_eq_getElem_cons hlt2
      have hc : ((i : Int) + 1) = ((i + 1 : Nat) : Int) := by push_cast; rfl
      rw [e1, e2] at h
      simp only [lexG] at h
      generalize xs[i]'hlt = x at *
      generalize ys[i]'hlt2 = y at *
      wp_walk using wpAny_loadPart' ha, wpAny_loadPart' hb
      rw [hi1, hi2]
      refine wpAny_bind (eqBool_str ?_)
      rw [S_beq]
      by_cases hxy : x = y
      · rw [if_pos hxy] at h
        rw [decide_eq_true hxy]
        wp_walk
        rw [hc]
        exact ⟨plainId_quiet PySem.MeetsSeq3.plain_eq_loop _, codeAny_builtin PySem.MeetsSeq3.entry_eq_loop (by
          rw [Around.under_plainId PySem.MeetsSeq3.plain_eq_loop _]
          exact ih (i + 1) (by (first | lia | omega)) (by (first | lia | omega)) (by (first | lia | omega)) prog w A R _ ⟨ha, hb, h⟩)⟩
      · rw [if_neg hxy] at h
        rw [decide_eq_false hxy]
        wp_walk using wpAny_loadPart' ha, wpAny_loadPart' hb
        rw [hi1, hi2]
        dsimp only
        refine wpAny_bind (rc_str_Gt ?_)
        exact wpAny_pure h
    · rw [stop i h1 h2 (by (first | lia | omega))] at h
      have hi2 : ws.toArray[((i : Nat) : Int).toNat]? = none := by simp; (first | lia | omega)
      wp_walk using wpAny_loadPart' ha, wpAny_loadPart' hb
      rw [hi1, hi2]
      wp_walk using wpAny_loadPart' ha, wpAny_loadPart' hb
      show R (.ok (.ret (.bool (decide (vs.toArray.size > ws.toArray.size))))) _
      simp only [List.size_toArray, hvl, hwl]
      exact h
theorem meets_Gt (a b : Addr) (vs ws : List Value) (n₁ n₂ : Nat) (xs ys : List (List Nat)) (hx : StrsAre vs (xs.map S)) (hy : StrsAre ws (ys.map S)) :
    Meets (Builtin.«list.__gt__» ⟨[.ref a, .ref b], []⟩)
      (fun _ R s => s.heap.get? a = some (W.listOf vs.toArray n₁) ∧ s.heap.get? b = some (W.listOf ws.toArray n₂) ∧ R (.ok (.ret (.bool (lexG sGt nGt xs ys)))) s) := by
  intro prog w A R s h
  obtain ⟨hp, g, d, tk, os⟩ := s; obtain ⟨ha, hb, h⟩ := h
  have f3 := AutoSeq1.sub_list_list
  wp_walk using wpAny_loadPart' ha, wpAny_loadPart' hb
  exact ⟨plainId_quiet PySem.MeetsSeq3.plain_eq_loop _, codeAny_builtin PySem.MeetsSeq3.entry_eq_loop (by
    rw [Around.under_plainId PySem.MeetsSeq3.plain_eq_loop _]
    exact loop_Gt a b vs ws n₁ n₂ xs ys hx hy _ 0 rfl (Nat.zero_le _) (Nat.zero_le _) prog w A R _ ⟨ha, hb, h⟩)⟩
theorem rc_list_Gt {prog : Program} {w : World} {A : Around} {E : Value → Shared → Prop} {s : Shared} {a b : Addr} {vs ws : List Value} {n₁ n₂ : Nat} {xs ys : List (List Nat)} (hx : StrsAre vs (xs.map S)) (hy : StrsAre ws (ys.map S)) {Q : Value → Shared → Prop}
    (ha : s.heap.get? a = some (W.listOf vs.toArray n₁)) (hb : s.heap.get? b = some (W.listOf ws.toArray n₂)) (hu : A.units < cLine) (h : Q (.bool (lexG sGt nGt xs ys)) s) : wpAny (model prog w) A (richCompare .Gt (.ref a) (.ref b)) Q E s := by
  refine wpAny_richCompare_same_or (op := .Gt) (T := "list") ⟨_, ha, rfl⟩ ⟨_, hb, rfl⟩ PySem.F.slot_list_gt ?_ (.inr hu)
  exact call_meets PySem.F.slot_list_gt ⟨_, ha, rfl⟩ PySem.F.entry_list_gt (PySem.F.args_list_gt_2 _ _) (meets_Gt a b vs ws n₁ n₂ xs ys hx hy) ⟨ha, hb, by simp, h⟩
end
end Mine
end
section
open PySem PySem.W PySem.Spec PySem.Calls PyProof.Rows
set_option Elab.async false
set_option maxRecDepth 100000
set_option maxHeartbeats 8000000
namespace Mine
/-- what two lists both begin with -/
def comm {α : Type} [DecidableEq α] : List α → List α → List α
  | x :: xs, y :: ys => if x = y then x :: comm xs ys else []
  | _, _ => []
theorem comm_symm {α : Type} [DecidableEq α] : ∀ xs ys : List α, comm xs ys = comm ys xs
  | [], [] => rfl
  | [], _ :: _ => rfl
  | _ :: _, [] => rfl
  | x :: xs, y :: ys => by
    unfold comm
    by_cases h : x = y
    · subst h; rw [if_pos rfl, if_pos rfl, comm_symm xs ys]
    · rw [if_neg h, if_neg fun q => h q.symm]
theorem comm_map {α β : Type} [DecidableEq α] [DecidableEq β] (f : α → β) : ∀ xs ys : List α, (∀ x ∈ xs, ∀ y ∈ ys, f x = f y → x = y) → comm (xs.map f) (ys.map f) = (comm xs ys).map f
  | [], _, _ => by cases ‹List α› <;> rfl
  | _ :: _, [], _ => rfl
  | x :: xs, y :: ys, h => by
    simp only [List.map_cons]
    unfold comm
    by_cases q : x = y
    · subst q
      rw [if_pos rfl, if_pos rfl, comm_map f xs ys fun a ha b hb => h a (.tail _ ha) b (.tail _ hb)]; rfl
    · rw [if_neg q, if_neg fun e => q (h x (.head _) y (.head _) e)]; rfl
theorem comm_len {α : Type} [DecidableEq α] : ∀ xs ys : List α, (comm xs ys).length ≤ min xs.length ys.length
  | [], _ => by cases ‹List α› <;> simp [comm]
  | _ :: _, [] => by simp [comm]
  | x :: xs, y :: ys => by
    have := comm_len xs ys
    unfold comm
    split
    · simp only [List.length_cons]; (first | lia | omega)
    · simp
theorem comm_take {α : Type} [DecidableEq α] (d : α) : ∀ (xs ys : List α) (k : Nat), (comm xs ys).take (k + 1) = if ((comm xs ys).take k).length = k ∧ k < xs.length ∧ k < ys.length ∧ xs.getD k d = ys.getD k d then (comm xs ys).take k ++ [xs.getD k d] else (comm xs ys).take k
  | [], ys, k => by cases ys <;> simp [comm]
  | _ :: _, [], k => by simp [comm]
  | x :: xs, y :: ys, 0 => by
    unfold comm
    by_cases h : x = y
    · simp [h]
    · simp [h]
  | x :: xs, y :: ys, k + 1 => by
    unfold comm
    by_cases h : x = y
    · rw [if_pos h, List.take_succ_cons, List.take_succ_cons, comm_take d xs ys k]
      simp only [List.length_cons, Nat.succ_lt_succ_iff, List.getD_cons_succ, Nat.add_right_cancel_iff]
      split <;> rfl
    · rw [if_neg h]; simp

theorem nat_lt_tri : ∀ {x y : List Nat}, x ≠ y → (x < y ∧ ¬ y < x) ∨ (¬ x < y ∧ y < x)
  | [], [], h => absurd rfl h
  | [], _ :: _, _ => .inl ⟨by simp, by simp⟩
  | _ :: _, [], _ => .inr ⟨by simp, by simp⟩
  | a :: x, b :: y, h => by
    simp only [List.cons_lt_cons_iff]
    rcases Nat.lt_trichotomy a b with q | q | q
    · exact .inl ⟨.inl q, by (first | lia | omega)⟩
    · subst q
      have := nat_lt_tri (x := x) (y := y) fun e => h (by rw [e])
      simpa using this
    · exact .inr ⟨by (first | lia | omega), .inl q⟩
/-- the first list ends first, or parts from the other before its end -/
def GoodPre (a b : List (List Nat)) : Prop := ∀ i, i < a.length → (∀ j, j < i → a.getD j [] = b.getD j []) → i < b.length
theorem cmp_cases : ∀ xs ys : List (List Nat), (xs = ys ∧ lexG sLt nLt xs ys = false ∧ lexG sGt nGt xs ys = false) ∨
    (lexG sLt nLt xs ys = true ∧ lexG sGt nGt xs ys = false ∧ GoodPre xs ys) ∨ (lexG sLt nLt xs ys = false ∧ lexG sGt nGt xs ys = true ∧ GoodPre ys xs)
  | [], [] => .inl ⟨rfl, rfl, rfl⟩
  | [], _ :: _ => .inr (.inl ⟨by simp [lexG, nLt], by simp [lexG, nGt], fun i h => by simp at h⟩)
  | _ :: _, [] => .inr (.inr ⟨by simp [lexG, nLt], by simp [lexG, nGt], fun i h => by simp at h⟩)
  | x :: xs, y :: ys => by
    simp only [lexG]
    by_cases h : x = y
    · subst h
      simp only [if_pos]
      have up : ∀ {a b : List (List Nat)}, GoodPre a b → GoodPre (x :: a) (x :: b) := fun {a b} g i hi hj => by
        cases i with
        | zero => simp
        | succ i =>
          have := g i (by simpa using hi) fun j hj' => by simpa using hj (j + 1) (by (first | lia | omega))
          simpa using this
      rcases cmp_cases xs ys with ⟨e, h1, h2⟩ | ⟨h1, h2, h3⟩ | ⟨h1, h2, h3⟩
      · exact .inl ⟨by rw [e], h1, h2⟩
      · exact .inr (.inl ⟨h1, h2, up h3⟩)
      · exact .inr (.inr ⟨h1, h2, up h3⟩)
    · simp only [if_neg h]
      have g : ∀ {a b : List (List Nat)} {u v : List Nat}, u ≠ v → GoodPre (u :: a) (v :: b) := fun {a b u v} huv i _ hj => by
        cases i with
        | zero => simp
        | succ i => exact absurd (hj 0 (Nat.succ_pos _)) (by simpa using huv)
      rcases nat_lt_tri h with ⟨h1, h2⟩ | ⟨h1, h2⟩
      · exact .inr (.inl ⟨by simpa [sLt] using h1, by simpa [sGt] using h2, g h⟩)
      · exact .inr (.inr ⟨by simpa [sLt] using h1, by simpa [sGt] using h2, g fun e => h e.symm⟩)
theorem good_self (a : List (List Nat)) : GoodPre a a := fun _ h _ => h
/-- the least and the greatest of two -/
theorem min_max (as bs : List (List Nat)) : GoodPre (if lexG sLt nLt bs as = true then bs else as) (if lexG sGt nGt bs as = true then bs else as) ∧
    comm (if lexG sLt nLt bs as = true then bs else as) (if lexG sGt nGt bs as = true then bs else as) = comm as bs := by
  rcases cmp_cases bs as with ⟨e, h1, h2⟩ | ⟨h1, h2, h3⟩ | ⟨h1, h2, h3⟩
  · subst e
    rw [h1, h2]
    exact ⟨good_self _, rfl⟩
  · rw [h1, h2]
    exact ⟨h3, comm_symm _ _⟩
  · rw [h1, h2]
    exact ⟨h3, rfl⟩
theorem comm_upto : ∀ (a b : List (List Nat)) (i : Nat), i ≤ a.length → i ≤ b.length → (∀ j, j < i → a.getD j [] = b.getD j []) → (comm a b).take i = a.take i
  | _, _, 0, _, _, _ => rfl
  | x :: a, y :: b, i + 1, h1, h2, h => by
    have e : x = y := by simpa using h 0 (Nat.succ_pos _)
    unfold comm
    rw [if_pos e, List.take_succ_cons, List.take_succ_cons, comm_upto a b i (by simpa using h1) (by simpa using h2) fun j hj => by simpa using h (j + 1) (by (first | lia | omega))]
theorem comm_whole (a b : List (List Nat)) (h1 : a.length ≤ b.length) (h : ∀ j, j < a.length → a.getD j [] = b.getD j []) : comm a b = a := by
  have e := comm_upto a b a.length (Nat.le_refl _) h1 h
  have hl := comm_len a b
  rw [List.take_length, List.take_of_length_le (by (first | lia | omega))] at e
  exact e
theorem comm_break : ∀ (a b : List (List Nat)) (i : Nat), i < a.length → i < b.length → (∀ j, j < i → a.getD j [] = b.getD j []) → a.getD i [] ≠ b.getD i [] → comm a b = a.take i
  | x :: a, y :: b, 0, _, _, _, hn => by
    unfold comm
    rw [if_neg (by simpa using hn)]; rfl
  | x :: a, y :: b, i + 1, h1, h2, h, hn => by
    have e : x = y := by simpa using h 0 (Nat.succ_pos _)
    unfold comm
    rw [if_pos e, List.take_succ_cons, comm_break a b i (by simpa using h1) (by simpa using h2) (fun j hj => by simpa using h (j + 1) (by (first | lia | omega))) (by simpa using hn)]
theorem good_end {a b : List (List Nat)} (g : GoodPre a b) (h : ∀ j, j < a.length → a.getD j [] = b.getD j []) : a.length ≤ b.length := by
  rcases Nat.eq_zero_or_pos a.length with q | q
  · (first | lia | omega)
  · have := g (a.length - 1) (by (first | lia | omega)) fun j hj => h j (by (first | lia | omega))
    (first | lia | omega)
end Mine
end
section
open PySem PySem.W PySem.Spec PySem.Calls PyProof.Rows
set_option Elab.async false
set_option maxRecDepth 100000
set_option maxHeartbeats 8000000
namespace Mine
theorem vgo_octs (r : List Int) : ∀ (n : Nat) (v : Int), 0 ≤ v → v < 64 ^ n → vgo 0 (octs v n ++ r) = vgo v r
  | 0, v, h0, h1 => by
    have : v = 0 := by
      have : (64 : Int) ^ 0 = 1 := rfl
      (first | lia | omega)
    subst this; rfl
  | n + 1, v, h0, h1 => by
    rw [Int.pow_succ] at h1
    rw [octs_succ _ _ h0, List.append_assoc, List.singleton_append, vgo_octs ((64 + v % 64) :: r) n (v / 64) (by (first | lia | omega)) (by (first | lia | omega))]
    show (if 64 + v % 64 < 64 then _ else _) = _
    rw [if_neg (by (first | lia | omega))]
    congr 1
    (first | lia | omega)
theorem vgo_row (p : Int × Int) (r : List Int) (h0 : 0 ≤ p.1) (h1 : 1 ≤ p.2) (h2 : p.1 < 64 ^ p.2.toNat) : vgo 0 (rowOf p ++ r) = some (p.1, r) := by
  obtain ⟨k, hk⟩ : ∃ k, p.2.toNat = k + 1 := ⟨p.2.toNat - 1, by (first | lia | omega)⟩
  rw [hk, Int.pow_succ] at h2
  rw [row_eq p h0 h1, hk, Nat.add_sub_cancel, List.append_assoc, List.singleton_append, vgo_octs _ _ _ (by (first | lia | omega)) (by (first | lia | omega))]
  show (if p.1 % 64 < 64 then _ else _) = _
  rw [if_pos (by (first | lia | omega))]
  congr 2
  (first | lia | omega)
theorem nums_tail (t : List Int) : ∀ (d : List (Int × Int)) (k : Nat), (∀ p ∈ d, 0 ≤ p.1 ∧ 1 ≤ p.2) → (∀ p ∈ d, p.1 < 64 ^ p.2.toNat) → numsF (d.length + k) ((d.map rowOf).flatten ++ t) = d.map (·.1) ++ numsF k t
  | [], k, _, _ => by simp
  | p :: d, k, h, h' => by
    have e : (p :: d).length + k = (d.length + k) + 1 := by simp; (first | lia | omega)
    rw [e, List.map_cons, List.flatten_cons, List.append_assoc]
    show (match vgo 0 _ with | none => [] | some (v, r) => v :: numsF (d.length + k) r) = _
    rw [vgo_row p _ (h p (.head _)).1 (h p (.head _)).2 (h' p (.head _))]
    dsimp only
    rw [nums_tail t d k (fun q hq => h q (.tail _ hq)) (fun q hq => h' q (.tail _ hq))]
    rfl
theorem flat_ge : ∀ (d : List (Int × Int)), (∀ p ∈ d, 0 ≤ p.1 ∧ 1 ≤ p.2) → d.length ≤ (d.map rowOf).flatten.length
  | [], _ => Nat.zero_le _
  | p :: d, h => by
    have h1 := flat_ge d fun q hq => h q (.tail _ hq)
    rw [List.map_cons, List.flatten_cons, List.length_append, row_eq p (h p (.head _)).1 (h p (.head _)).2]
    simp only [List.length_append, List.length_cons, List.length_nil]
    (first | lia | omega)
theorem numsF_succ (k : Nat) (l : List Int) : numsF (k + 1) l = match vgo 0 l with
    | none => []
    | some (v, r) => v :: numsF k r := rfl
theorem numsF_nil : ∀ k, numsF k [] = []
  | 0 => rfl
  | _ + 1 => rfl
/-- what the law asks of the reading -/
theorem nums_state {c : LS} {i : Nat} (I : SInv i c) (Z : Sized c) : nums (octetsOf c) = c.done.map (·.1) := by
  have hg := flat_ge c.done I.d
  have hl : c.done.length ≤ (octetsOf c).length := by
    unfold octetsOf
    rw [List.length_append]; (first | lia | omega)
  obtain ⟨k, hk⟩ : ∃ k, (octetsOf c).length + 1 = c.done.length + (k + 1) := ⟨(octetsOf c).length - c.done.length, by (first | lia | omega)⟩
  unfold nums
  rw [hk]
  unfold octetsOf
  rw [nums_tail _ _ _ I.d Z.d, numsF_succ]
  have e := vgo_octs [] c.size.toNat c.value I.v Z.v
  rw [List.append_nil] at e
  rw [e, show vgo c.value [] = none from rfl]
  simp
theorem nums_state0 {c : LS} {i : Nat} (I : SInv i c) (Z : Sized c) : nums (octetsOf c ++ [0]) = c.done.map (·.1) ++ [64 * c.value] := by
  have hg := flat_ge c.done I.d
  have hl : c.done.length ≤ (octetsOf c).length := by
    unfold octetsOf
    rw [List.length_append]; (first | lia | omega)
  obtain ⟨k, hk⟩ : ∃ k, (octetsOf c ++ [0]).length + 1 = c.done.length + (k + 1) := ⟨(octetsOf c ++ [0]).length - c.done.length, by simp; (first | lia | omega)⟩
  unfold nums
  rw [hk]
  unfold octetsOf
  rw [List.append_assoc, nums_tail _ _ _ I.d Z.d, numsF_succ]
  have e := vgo_octs [0] c.size.toNat c.value I.v Z.v
  rw [e, show vgo c.value [0] = some (c.value * 64 + 0 % 64, []) from rfl]
  dsimp only
  rw [numsF_nil]
  congr 2
  (first | lia | omega)

theorem alike_comm (a b : List Int) : ∀ i, i ≤ min a.length b.length → alikeTo a b i = (comm a b).take i
  | 0, _ => by simp [alikeTo]
  | i + 1, h => by
    rw [comm_take 0, ← alike_comm a b i (by (first | lia | omega))]
    show (if (alikeTo a b i).length = i ∧ a.getD i 0 = b.getD i 0 then alikeTo a b i ++ [a.getD i 0] else alikeTo a b i) = _
    by_cases q : (alikeTo a b i).length = i ∧ a.getD i 0 = b.getD i 0
    · rw [if_pos q, if_pos ⟨q.1, by (first | lia | omega), by (first | lia | omega), q.2⟩]
    · rw [if_neg q, if_neg fun e => q ⟨e.1, e.2.2.2⟩]
theorem alike_all (a b : List Int) : alikeTo a b (min a.length b.length) = comm a b := by
  rw [alike_comm a b _ (Nat.le_refl _), List.take_of_length_le (comm_len a b)]
theorem hx_inj {a b : Int} (h0 : 0 ≤ a) (h1 : a < 16) (h2 : 0 ≤ b) (h3 : b < 16) (h : hx a = hx b) : a = b := by
  unfold hx at h
  split at h <;> split at h <;> (first | lia | omega)
theorem hex2_inj {a b : Int} (h0 : 0 ≤ a) (h1 : a < 256) (h2 : 0 ≤ b) (h3 : b < 256) (h : hex2 a = hex2 b) : a = b := by
  unfold hex2 at h
  have e1 := hx_inj (by (first | lia | omega)) (by (first | lia | omega)) (by (first | lia | omega)) (by (first | lia | omega)) (List.cons.inj h).1
  have e2 := hx_inj (by (first | lia | omega)) (by (first | lia | omega)) (by (first | lia | omega)) (by (first | lia | omega)) (List.cons.inj (List.cons.inj h).2).1
  (first | lia | omega)
theorem comm_hex (a b : List Int) (ha : ∀ o ∈ a, 0 ≤ o ∧ o < 256) (hb : ∀ o ∈ b, 0 ≤ o ∧ o < 256) : comm (a.map hex2) (b.map hex2) = (comm a b).map hex2 :=
  comm_map hex2 a b fun x hx y hy e => hex2_inj (ha x hx).1 (ha x hx).2 (hb y hy).1 (hb y hy).2 e

/-- the writing's signs -/
theorem up_hex (d : Nat) (h : d < 16) : (Builtin.Bytes.toUpper (Builtin.Bytes.hexDigit d).toUInt8).toNat = hx d := by
  have : ∀ d : Fin 16, (Builtin.Bytes.toUpper (Builtin.Bytes.hexDigit d.val).toUInt8).toNat = hx d.val := by decide +kernel
  exact this ⟨d, h⟩
theorem b16_text (x : Array UInt8) : (b16 x).toList.map (·.toNat) = (x.toList.map fun c => hex2 (c.toNat : Int)).flatten := by
  unfold b16
  simp only [List.map_map]
  show ((hexOut x.toList).toList.map _) = _
  rw [hexOut_eq]
  induction x.toList with
  | nil => rfl
  | cons c r ih =>
    rw [List.flatMap_cons, List.map_append, ih, List.map_cons (l := r), List.flatten_cons]
    congr 1
    have hc : c.toNat < 256 := c.toNat_lt
    simp only [List.map_cons, List.map_nil, Function.comp_apply, hex2]
    rw [up_hex _ (by (first | lia | omega)), up_hex _ (by (first | lia | omega))]
    simp
end Mine
end
section
open PySem PySem.W PySem.Spec PySem.Calls PyProof.Rows
set_option Elab.async false
set_option maxRecDepth 100000
set_option maxHeartbeats 8000000
namespace Mine
theorem b16_os {ns : List Int} {bx : Array UInt8} (h : ∀ n ∈ ns, 0 ≤ n ∧ n < 256) (e : byteArr ns = bx) : (b16 bx).toList.map (·.toNat) = (ns.map hex2).flatten := by
  rw [b16_text]
  have e1 : bx.toList.map (fun c => (c.toNat : Int)) = ns := by rw [← e]; exact KBa.ints_make h
  have e2 : bx.toList.map (fun c => hex2 (c.toNat : Int)) = (bx.toList.map (fun c => (c.toNat : Int))).map hex2 := by rw [List.map_map]; rfl
  rw [e2, e1]
theorem flat_hex_len : ∀ ns : List Int, (ns.map hex2).flatten.length = 2 * ns.length
  | [] => rfl
  | n :: r => by
    rw [List.map_cons, List.flatten_cons, List.length_append, flat_hex_len r, hex2_len, List.length_cons]; (first | lia | omega)
theorem b16_size {ns : List Int} {bx : Array UInt8} (h : ∀ n ∈ ns, 0 ≤ n ∧ n < 256) (e : byteArr ns = bx) : (b16 bx).size = 2 * ns.length := by
  have := congrArg List.length (b16_os h e)
  rw [flat_hex_len] at this
  simpa using this
theorem join_none : ∀ xs : List Nat, Str.join (S []) (xs.map fun c => S [c]) = S xs
  | [] => rfl
  | [_] => rfl
  | x :: y :: r => by
    show S [x] ++ S [] ++ Str.join (S []) ((y :: r).map fun c => S [c]) = _
    rw [join_none (y :: r), S_app, S_app]
    simp
theorem txt_join0 (xs : List Nat) : Txt.join (Str.ofString "") (xs.map fun c => S [c]) = S xs := by
  rw [nothing]
  show Builtin.Str.glued _ _ = _
  rw [StrLaws.glued_eq_join, join_none]
theorem sum_one (xs : List Nat) : ((xs.map fun c => S [c]).map (·.length)).sum = xs.length := by
  induction xs with
  | nil => rfl
  | cons c r ih => rw [List.map_cons, List.map_cons, List.sum_cons, ih, S_len]; simp only [List.length_cons, List.length_nil]; (first | lia | omega)
theorem joinL_mem : ∀ (xs : List (List Nat)) (c : Nat), c ∈ joinL xs → c = 47 ∨ ∃ x ∈ xs, c ∈ x
  | [], _, h => nomatch h
  | [x], c, h => .inr ⟨x, .head _, h⟩
  | x :: y :: r, c, h => by
    simp only [joinL, List.mem_append, List.mem_cons] at h
    rcases h with h | h | h
    · exact .inr ⟨x, .head _, h⟩
    · exact .inl h
    · rcases joinL_mem (y :: r) c h with q | ⟨z, hz, q⟩
      · exact .inl q
      · exact .inr ⟨z, .tail _ hz, q⟩
theorem path_ok (os : List Int) (hb : ∀ o ∈ os, 0 ≤ o ∧ o < 256) : PyData.strOk (S (pathL os)) = true := by
  show (pathL os).toArray.all _ = true
  rw [List.all_toArray, List.all_eq_true]
  intro c hc
  have hc' : c ≤ 70 := by
    unfold pathL at hc
    rcases List.mem_cons.mp hc with rfl | hc
    · (first | lia | omega)
    · rcases joinL_mem _ _ hc with rfl | ⟨x, hx, hc⟩
      · (first | lia | omega)
      · obtain ⟨o, ho, rfl⟩ := List.mem_map.mp hx
        obtain ⟨h0, h1⟩ := hb o ho
        unfold hex2 at hc
        rcases List.mem_cons.mp hc with rfl | hc
        · exact (hx_le _ (by (first | lia | omega)) (by (first | lia | omega))).2
        · rw [List.mem_singleton.mp hc]; exact (hx_le _ (by (first | lia | omega)) (by (first | lia | omega))).2
  exact decide_eq_true (by (first | lia | omega))
theorem kqd_ints (ns : List Int) : kqdOk 8 (.list (ns.map .int)) = true := by
  simp [kqdOk]
/-- the octets after a step -/
def OO (st : List Int) (i : Nat) : List Int := octetsOf (srun st (i + 1))
theorem OO_eq {st : List Int} {i : Nat} (h : i < st.length) : owalk (st.map (· % 4)) (st.map oc) (i + 1) = OO st i := (octets_run st (i + 1) h).symm
theorem owalk_mem7 (ts os : List Int) (hb : ∀ o ∈ os, 0 ≤ o ∧ o < 128) : ∀ i, i ≤ os.length → ∀ o ∈ owalk ts os i, 0 ≤ o ∧ o < 128
  | 0, _, _, h => nomatch h
  | i + 1, hi, o, h => by
    have ih := owalk_mem7 ts os hb i (by (first | lia | omega))
    rw [owalk_succ, ostep] at h
    split at h
    · exact ih o ((List.dropLast_sublist _).subset h)
    · rcases List.mem_append.mp h with h | h
      · exact ih o h
      · rw [List.mem_singleton.mp h]
        have e : os.getD i 0 = os[i]'(by (first | lia | omega)) := by simp [List.getD, show i < os.length by (first | lia | omega)]
        rw [e]; exact hb _ (List.getElem_mem _)
theorem OO_bnd {st : List Int} {i : Nat} (h : i < st.length) : ∀ o ∈ OO st i, 0 ≤ o ∧ o < 128 := by
  rw [← OO_eq h]
  refine owalk_mem7 _ _ (fun o ho => ?_) _ (by rw [List.length_map]; (first | lia | omega))
  obtain ⟨x, _, rfl⟩ := List.mem_map.mp ho
  exact oc_bnd x
theorem OO_bnd2 {st : List Int} {i : Nat} (h : i < st.length) : ∀ o ∈ OO st i, 0 ≤ o ∧ o < 256 := fun o ho => by
  have := OO_bnd h o ho; (first | lia | omega)
theorem OO_len {st : List Int} {i : Nat} (h : i < st.length) : (OO st i).length ≤ st.length := by
  rw [← OO_eq h]
  have := owalk_len (st.map (· % 4)) (st.map oc) (i + 1); (first | lia | omega)
theorem OO_nums {st : List Int} {i : Nat} (h : i < st.length) : nums (OO st i) = (srun st (i + 1)).done.map (·.1) :=
  nums_state (sinv_all st (i + 1) h) (sized_all st (i + 1) h)
theorem OO_nums0 {st : List Int} {i : Nat} (h : i < st.length) : nums (OO st i ++ [0]) = (srun st (i + 1)).done.map (·.1) ++ [64 * (srun st (i + 1)).value] :=
  nums_state0 (sinv_all st (i + 1) h) (sized_all st (i + 1) h)
theorem OO_shared {st : List Int} {i j : Nat} (hi : i < st.length) (hj : j < st.length) :
    (47 :: joinL (comm ((OO st i).map hex2) ((OO st j).map hex2))) = pathL (alikeTo (OO st i) (OO st j) (min (OO st i).length (OO st j).length)) := by
  rw [comm_hex _ _ (OO_bnd2 hi) (OO_bnd2 hj), alike_all]; rfl
theorem alike_mem (a b : List Int) : ∀ k, k ≤ a.length → ∀ o ∈ alikeTo a b k, o ∈ a
  | 0, _, _, h => nomatch h
  | k + 1, hk, o, h => by
    unfold alikeTo at h
    split at h
    · rcases List.mem_append.mp h with h | h
      · exact alike_mem a b k (by (first | lia | omega)) o h
      · rw [List.mem_singleton.mp h]
        have e : a.getD k 0 = a[k]'(by (first | lia | omega)) := by simp [List.getD, show k < a.length by (first | lia | omega)]
        rw [e]; exact List.getElem_mem _
    · exact alike_mem a b k (by (first | lia | omega)) o h
theorem done_len {st : List Int} {i : Nat} (h : i < st.length) : (srun st (i + 1)).done.length ≤ st.length := by
  have I := sinv_all st (i + 1) h
  have := sum_ge (srun st (i + 1)).done fun q hq => (I.d q hq).2
  have h1 := I.t; have h2 := I.z
  (first | lia | omega)
theorem intsAre_of_dat {nw : Led} : ∀ {vs : List Value} {ns : List Int}, DatAll nw vs (ns.map .int) → IntsAre vs ns
  | _, [], h => by cases h; exact .nil
  | _, n :: r, h => by
    cases h with
    | cons a b => cases a; exact .cons _ _ (intsAre_of_dat b)
theorem datAll_strs {nw : Led} : ∀ {vs : List Value} {xs : List Str}, StrsAre vs xs → DatAll nw vs (xs.map .str)
  | _, _, .nil => .nil
  | _, _, .cons x t h => .cons (.str x t) (datAll_strs h)
theorem state_in {nw : Led} {v : Value} {c : LS} (h : DatIn nw v (stateD c)) :
    ∃ t a avs an tv b bvs bn pn, v = .ref t ∧ (t, ({ cls := .type "tuple", data := .seq #[.ref a, .int c.value tv, .ref b] pn } : Obj)) ∈ nw ∧ (a, listOf (List.toArray avs) an) ∈ nw ∧ IntsAre avs (c.done.map (·.1)) ∧ (b, listOf (List.toArray bvs) bn) ∈ nw ∧ IntsAre bvs (octetsOf c) := by
  unfold stateD at h
  cases h with
  | tuple hm r =>
    cases r with
    | cons h1 r =>
      cases r with
      | cons h2 r =>
        cases r with
        | cons h3 r =>
          cases r
          cases h2
          cases h1 with
          | list m1 d1 =>
            cases h3 with
            | list m3 d3 =>
              refine ⟨_, _, _, _, _, _, _, _, _, rfl, hm, m1, intsAre_of_dat (nw := nw) ?_, m3, intsAre_of_dat d3⟩
              rw [List.map_map]; exact d1
theorem state_get {nw : Led} {sws : List Value} {st : List Int} (h : DatAll nw sws ((List.range st.length).map fun i => stateD (srun st (i + 1)))) {i : Nat} {v : Value} (hv : sws[i]? = some v) :
    i < st.length ∧ ∃ t a avs an tv b bvs bn pn, v = .ref t ∧ (t, ({ cls := .type "tuple", data := .seq #[.ref a, .int (srun st (i + 1)).value tv, .ref b] pn } : Obj)) ∈ nw ∧ (a, listOf (List.toArray avs) an) ∈ nw ∧ IntsAre avs ((srun st (i + 1)).done.map (·.1)) ∧ (b, listOf (List.toArray bvs) bn) ∈ nw ∧ IntsAre bvs (OO st i) := by
  have hl := h.length
  rw [List.length_map, List.length_range] at hl
  have hi : i < st.length := by rw [← hl]; exact (List.getElem?_eq_some_iff.mp hv).1
  obtain ⟨v', hv', hd⟩ := h.get (k := i) (by rw [List.length_map, List.length_range]; exact hi)
  rw [hv] at hv'
  cases Option.some.inj hv'
  rw [List.getElem_map, List.getElem_range] at hd
  exact ⟨hi, state_in hd⟩
theorem ways_ok (st : List Int) : ∀ d ∈ ((List.range st.length).map fun i => S (pathL (OO st i))).map Dat.str, kqdOk 8 d = true := fun d hd => by
  obtain ⟨x, hx, rfl⟩ := List.mem_map.mp hd
  obtain ⟨i, hi, rfl⟩ := List.mem_map.mp hx
  exact path_ok _ (OO_bnd2 (List.mem_range.mp hi))
theorem rows_ok (n : Nat) (f : Nat → List Int) : ∀ d ∈ (List.range n).map (fun i => Dat.list ((f i).map .int)), kqdOk 8 d = true := fun d hd => by
  obtain ⟨i, _, rfl⟩ := List.mem_map.mp hd
  exact kqd_ints _
/-- a list whose entries are lists of ints -/
theorem datAll_of {nw : Led} {vs : List Value} {n : Nat} (f : Nat → Dat) (hl : vs.length = n) (h : ∀ i v, vs[i]? = some v → i < n → DatIn nw v (f i)) : DatAll nw vs ((List.range n).map f) := by
  subst hl
  have gen : ∀ (vs : List Value) (k : Nat), (∀ i v, vs[i]? = some v → DatIn nw v (f (k + i))) → DatAll nw vs ((List.range' k vs.length).map f) := by
    intro vs
    induction vs with
    | nil => intro k _; exact .nil
    | cons v r ih =>
      intro k hh
      rw [List.length_cons, List.range'_succ, List.map_cons]
      refine .cons (hh 0 v rfl) (ih (k + 1) fun i u hu => ?_)
      have := hh (i + 1) u (by simpa using hu)
      rw [show k + 1 + i = k + (i + 1) by (first | lia | omega)]; exact this
  have := gen vs 0 (fun i v hv => by rw [Nat.zero_add]; exact h i v hv (List.getElem?_eq_some_iff.mp hv).1)
  rw [List.range_eq_range']; exact this
section
variable {prog : Program} {w : World} {A : Around} {E : Value → Shared → Prop} {s : Shared} {h₀ : Heap} {L a b : Addr} {n₁ n₂ news : Led} {xs ys : List Value} {ka kb : Nat} {ds : List Dat} {Q : Value → Shared → Prop}
open Classical in
theorem kqd_neF (N : News h₀ L s.heap news) (ma : (a, listOf xs.toArray ka) ∈ news) (Da : DatAll n₁ xs ds) (sa : ∀ p ∈ n₁, p ∈ news) (mb : (b, listOf ys.toArray kb) ∈ news) (Db : DatAll n₂ ys ds) (sb : ∀ p ∈ n₂, p ∈ news)
    (ha : ∀ d ∈ ds, kqdOk 8 d = true) (hu : A.units + 64 < cLine) (h : Q (.bool false) s) : wpAny (model prog w) A (compareOp .NotEq (.ref a) (.ref b)) Q E s := by
  refine kqd_ne N ma rfl rfl Da sa mb rfl rfl Db sb ha ha hu ?_
  rw [decide_eq_true (rfl : ds = ds)]; exact h
open Classical in
theorem kqd_eqT (N : News h₀ L s.heap news) (ma : (a, listOf xs.toArray ka) ∈ news) (Da : DatAll n₁ xs ds) (sa : ∀ p ∈ n₁, p ∈ news) (mb : (b, listOf ys.toArray kb) ∈ news) (Db : DatAll n₂ ys ds) (sb : ∀ p ∈ n₂, p ∈ news)
    (ha : ∀ d ∈ ds, kqdOk 8 d = true) (hu : A.units + 64 < cLine) (h : Q (.bool true) s) : wpAny (model prog w) A (compareOp .Eq (.ref a) (.ref b)) Q E s := by
  refine kqd_eq N ma rfl rfl Da sa mb rfl rfl Db sb ha ha hu ?_
  rw [decide_eq_true (rfl : ds = ds)]; exact h
end
theorem strs_at {vs : List Value} {n : Nat} {f : Nat → Str} (h : StrsAre vs ((List.range n).map f)) {i : Nat} {v : Value} (hv : vs[i]? = some v) : i < n ∧ ∃ t, v = .str (f i) t := by
  have hl : vs.length = n := by have := (datAll_strs (nw := []) h).length; simpa using this
  have hi : i < n := by rw [← hl]; exact (List.getElem?_eq_some_iff.mp hv).1
  obtain ⟨t, e⟩ := h.get i (f i) (by simp [hi])
  rw [hv] at e
  exact ⟨hi, t, Option.some.inj e⟩
/-- lists of ints, told by a list of the ledger -/
theorem datAll_rows {nw : Led} {vs : List Value} {n : Nat} (f g : Nat → List Int) (hl : vs.length = n) (hfg : ∀ i, i < n → g i = f i) (h : ∀ (i : Nat) (v : Value), vs[i]? = some v → ∃ l us un, v = .ref l ∧ (l, listOf (List.toArray us) un) ∈ nw ∧ IntsAre us (g i)) :
    DatAll nw vs ((List.range n).map fun i => Dat.list ((f i).map .int)) :=
  datAll_of _ hl fun i v hv hi => by
    obtain ⟨l, us, un, rfl, hm, hu⟩ := h i v hv
    rw [← hfg i hi]
    exact .list hm (datAll_ints hu)
theorem perm4 {g h : Heap} {L : Addr} {x e1 e2 e3 e4 : Addr × Obj} {all tl : Led} (N : News g L h (x :: (all ++ e1 :: e2 :: e3 :: e4 :: tl))) : News g L h (e1 :: e2 :: e3 :: e4 :: x :: (all ++ tl)) := fun p hp => N p (by
  simp only [List.mem_cons, List.mem_append] at hp ⊢
  rcases hp with h | h | h | h | h | h | h <;> simp [h])
theorem perm5 {g h : Heap} {L : Addr} {x e1 e2 e3 e4 e5 : Addr × Obj} {all tl : Led} (N : News g L h (x :: (all ++ e1 :: e2 :: e3 :: e4 :: e5 :: tl))) : News g L h (e1 :: e2 :: e3 :: e4 :: e5 :: x :: (all ++ tl)) := fun p hp => N p (by
  simp only [List.mem_cons, List.mem_append] at hp ⊢
  rcases hp with h | h | h | h | h | h | h | h <;> simp [h])
theorem perm6 {g h : Heap} {L : Addr} {x e1 e2 e3 e4 e5 e6 : Addr × Obj} {all tl : Led} (N : News g L h (x :: (all ++ e1 :: e2 :: e3 :: e4 :: e5 :: e6 :: tl))) : News g L h (e1 :: e2 :: e3 :: e4 :: e5 :: e6 :: x :: (all ++ tl)) := fun p hp => N p (by
  simp only [List.mem_cons, List.mem_append] at hp ⊢
  rcases hp with h | h | h | h | h | h | h | h | h <;> simp [h])
end Mine
end
section
open PySem PySem.W PySem.Spec PySem.Calls PyProof.Rows
set_option Elab.async false
set_option maxRecDepth 100000
set_option maxHeartbeats 8000000
namespace Mine
section
variable {prog : Program} {w : World} {M : Model} {A : Around} {E : Value → Shared → Prop} {s : Shared} {h₀ : Heap} {L a b : Addr} {m : Str → Option Value} {news : Led} {vs ws : List Value} {k₁ k₂ : Nat} {Q : Value → Shared → Prop}
/-- a list display, the heap's growth told -/
theorem newList_U (F : Fr h₀ L s.heap m) (N : News h₀ L s.heap news)
    (h : ∀ D h', s.heap.get? D = none ∧ Up s.heap h' → Fr h₀ L h' m → News h₀ L h' ((D, listOf vs.toArray 0) :: news) → Q (.ref D) { s with heap := h' }) (hsz : vs.length ≤ sizeLine) : wpAny M A (newList vs) Q E s := by
  unfold newList
  refine wpAny_newObj_type (h _ _ ⟨new_size _, fun _ _ e => Heap.get?_push_of_some _ e⟩ (F.push _) (News.push F N _)) ?_
  show sizeOk (.seq vs.toArray)
  simpa [sizeOk] using hsz
/-- the sum of two lists, the heap's growth told -/
theorem add_U (F : Fr h₀ L s.heap m) (N : News h₀ L s.heap news) (ha : (a, listOf vs.toArray k₁) ∈ news) (hb : (b, listOf ws.toArray k₂) ∈ news) (hz : vs.length + ws.length ≤ 2 ^ 20)
    (h : ∀ D h', s.heap.get? D = none ∧ Up s.heap h' → Fr h₀ L h' m → News h₀ L h' ((D, listOf (vs ++ ws).toArray 0) :: news) → Q (.ref D) { s with heap := h' }) :
    wpAny (model prog w) A (binaryOp .Add (.ref a) (.ref b)) Q E s := by
  have ho := (N _ ha).1
  have ho2 := (N _ hb).1
  have e : vs.toArray ++ ws.toArray = (vs ++ ws).toArray := by simp
  refine concat_meets ⟨_, ho, rfl⟩ ⟨_, ho2, rfl⟩ noFill_list_add seq_list_add PySem.F.slot_list_add PySem.F.entry_list_add (PySem.F.args_list_add_2 _ _) (list_addW a b vs.toArray ws.toArray k₁ k₂ none none #[] #[] (by simpa using Nat.le_trans hz (by decide))) ⟨ho, ho2, ?_⟩
  rw [e]
  exact h _ _ ⟨new_size _, fun _ _ e => Heap.get?_push_of_some _ e⟩ (F.push _) (News.push F N _)
end
end Mine
end
section
open PySem PySem.W PySem.Spec PySem.Calls PyProof.Rows PySem.Builtin
set_option Elab.async false
set_option maxRecDepth 100000
set_option maxHeartbeats 8000000
namespace Mine
/-- an iterator of a list, at a place -/
def itO (l : Addr) (j : Nat) : Obj := { cls := .type "list_iterator", data := .fields #[.ref l, rawInt j] }
/-- the same, at its end -/
def itE (j : Nat) : Obj := { cls := .type "list_iterator", data := .fields #[.none, rawInt j] }
section
variable {prog : Program} {w : World} {A : Around} {E : Value → Shared → Prop} {s : Shared} {h₀ : Heap} {L I l : Addr} {m : Str → Option Value} {rest : List (Addr × Obj)} {j : Nat} {items : Array Value} {Q : Value → Shared → Prop}
theorem owm_stop : ownMembersOf (.type "StopIteration") [] = #[] := by first | rfl | kernel_rfl
theorem args_next_1 (a : Value) : argsOk "next" ⟨[a], []⟩ := by unfold argsOk; kernel_rfl
theorem next_item {x : Value} (F : Fr h₀ L s.heap m) (N : News h₀ L s.heap ((I, itO l j) :: rest)) (hne : ∀ p ∈ rest, p.1 ≠ I) (hl : s.heap.IsList l items) (hx : items[j]? = some x)
    (h : ∀ h', Fr h₀ L h' m → News h₀ L h' ((I, itO l (j + 1)) :: rest) → Q x { s with heap := h' }) : wpAny (model prog w) A (call (.builtin "next") [.ref I]) Q E s := by
  have hI := N (I, itO l j) (.head _)
  have hit : s.heap.IsListIter I l j := ⟨_, hI.1, rfl, rfl⟩
  refine call_function_entry (by decide +kernel) (by decide +kernel) kdk_entry_next (args_next_1 _) ?_
  unfold Builtin.«next»
  refine wpAny_bind (m := someArgs "next" 1 2 _) (wpAny_of_eq (a := [Value.ref I]) (by first | rfl | kernel_rfl!) ?_)
  dsimp only
  refine wpAny_bind (wpAny_specialOf (name := Str.ofString "__next__") hit.typeIs slot_listiter_next.lookup ?_)
  refine wpAny_ite_split (fun hab => absurd hab (by decide)) (fun _ => ?_)
  obtain ⟨ol, hol, _, nl, hdl⟩ := hl
  refine wpAny_bind (wpAny_callSpecial?_slot (name := Str.ofString "__next__") hit.typeIs slot_listiter_next
    (wpAny_call_entry slot_listiter_next hit.typeIs entry_listiter_next ?_ (args_listiter_next _)))
  show wpAny _ _ (field (.ref I) 0 >>= _) _ _ s
  refine wpAny_bind (wpAny_field hI.1 rfl (x := .ref l) rfl ?_)
  show wpAny _ _ (if (Value.ref l == Value.none) = true then _ else _) _ _ s
  rw [if_neg (show ¬ ((Value.ref l == Value.none) = true) from Bool.false_ne_true)]
  show wpAny _ _ (field (.ref I) 1 >>= _) _ _ s
  refine wpAny_bind (wpAny_field hI.1 rfl (x := .int j 0) rfl ?_)
  show wpAny _ _ (seqItems? (.ref l) >>= _) _ _ s
  refine wpAny_bind (wpAny_seqItems hol hdl ?_)
  simp only [Int.toNat_natCast, hx]
  refine wpAny_bind (wpAny_setField hI.1 rfl (by simp) (wpAny_pure ⟨x, rfl, ?_⟩))
  refine wpAny_pure ⟨_, rfl, ?_⟩
  obtain ⟨F', N'⟩ := news_upd (pre := []) (f := Obj.mapFields (·.setIfInBounds 1 (rawInt ((j : Int) + 1)))) (o' := itO l (j + 1)) F N (fun _ h => nomatch h) hne rfl rfl
  exact h _ F' N'
theorem next_end (F : Fr h₀ L s.heap m) (N : News h₀ L s.heap ((I, itO l j) :: rest)) (hne : ∀ p ∈ rest, p.1 ≠ I) (hl : s.heap.IsList l items) (hx : items[j]? = none) (hh : A.handled = none)
    (h : ∀ h₁ h' e, Fr h₀ L h₁ m → News h₀ L h₁ ((I, itE j) :: rest) → Heap.NewExc h₁ h' e "StopIteration" → E (.ref e) { s with heap := h' }) : wpAny (model prog w) A (call (.builtin "next") [.ref I]) Q E s := by
  have hI := N (I, itO l j) (.head _)
  have hit : s.heap.IsListIter I l j := ⟨_, hI.1, rfl, rfl⟩
  refine call_function_entry (by decide +kernel) (by decide +kernel) kdk_entry_next (args_next_1 _) ?_
  unfold Builtin.«next»
  refine wpAny_bind (m := someArgs "next" 1 2 _) (wpAny_of_eq (a := [Value.ref I]) (by first | rfl | kernel_rfl!) ?_)
  dsimp only
  refine wpAny_bind (wpAny_specialOf (name := Str.ofString "__next__") hit.typeIs slot_listiter_next.lookup ?_)
  refine wpAny_ite_split (fun hab => absurd hab (by decide)) (fun _ => ?_)
  obtain ⟨ol, hol, _, nl, hdl⟩ := hl
  refine wpAny_bind (wpAny_callSpecial?_slot (name := Str.ofString "__next__") hit.typeIs slot_listiter_next
    (wpAny_call_entry slot_listiter_next hit.typeIs entry_listiter_next ?_ (args_listiter_next _)))
  show wpAny _ _ (field (.ref I) 0 >>= _) _ _ s
  refine wpAny_bind (wpAny_field hI.1 rfl (x := .ref l) rfl ?_)
  show wpAny _ _ (if (Value.ref l == Value.none) = true then _ else _) _ _ s
  rw [if_neg (show ¬ ((Value.ref l == Value.none) = true) from Bool.false_ne_true)]
  show wpAny _ _ (field (.ref I) 1 >>= _) _ _ s
  refine wpAny_bind (wpAny_field hI.1 rfl (x := .int j 0) rfl ?_)
  show wpAny _ _ (seqItems? (.ref l) >>= _) _ _ s
  refine wpAny_bind (wpAny_seqItems hol hdl ?_)
  simp only [Int.toNat_natCast, hx]
  refine wpAny_bind (wpAny_rule (wpAny_bind (wpAny_setField hI.1 rfl (by simp) ?_)))
  show wpAny _ _ (newExc (.type "StopIteration") [] >>= _) _ _ _
  refine wpAny_bind ?_
  simp only [newExc, newTuple]
  refine wpAny_bind (wpAny_newObj_type ?_ (by size_fits))
  refine wpAny_bind (m := firstArgMember _ _) (wpAny_of_eq (a := Value.none) (by first | rfl | (simp only [firstArgMember]; rfl)) ?_)
  rw [owm_stop]
  refine wpAny_newObj_type ?_ (by size_fits)
  simp only [raiseNew]
  refine wpAny_bind (wpAny_handled ?_)
  first | rw [show A.in1.handled = none from hh] | rw [hh]
  refine wpAny_bind (wpAny_pure (wpAny_throw ?_))
  obtain ⟨F', N'⟩ := news_upd (pre := []) (f := Obj.mapFields (·.setIfInBounds 0 .none)) (o' := itE j) F N (fun _ h => nomatch h) hne rfl rfl
  refine h _ _ _ F' N' ⟨fun b o hb => Heap.get?_push_of_some _ (Heap.get?_push_of_some _ hb), Heap.get?_none_of_le (by simp), _, .ref _, Heap.get?_push_size _ rfl, rfl, by simp only [Array.append_empty]; rfl⟩
theorem iter_list {news : List (Addr × Obj)} (F : Fr h₀ L s.heap m) (N : News h₀ L s.heap news) (hl : s.heap.IsList l items)
    (h : ∀ I h', Fr h₀ L h' m → News h₀ L h' ((I, itO l 0) :: news) → (∀ p ∈ news, p.1 < I) → Q (.ref I) { s with heap := h' }) : wpAny (model prog w) A (call (.builtin "iter") [.ref l]) Q E s := by
  refine call_function_entry (by decide +kernel) (by decide +kernel) kdk_entry_iter (kdk_args_iter _) ?_
  unfold Builtin.«iter»
  refine wpAny_bind (m := someArgs "iter" 1 2 _) (wpAny_of_eq (a := [Value.ref l]) (by first | rfl | kernel_rfl!) ?_)
  show wpAny _ _ (pyIter (.ref l) >>= _) _ _ _
  refine wpAny_bind (wpAny_pyIter_list hl ?_)
  exact wpAny_pure ⟨_, rfl, h _ _ (F.push _) (News.push F N _ rfl) (fun q hq => Heap.lt_size (N q hq).1)⟩
end
end Mine
end
section
open PySem PySem.W PySem.Spec PySem.Calls PyProof.Rows
set_option Elab.async false
set_option maxRecDepth 100000
set_option maxHeartbeats 8000000
set_option pp.maxSteps 3000
namespace Mine
open Builtin in
theorem loop_while {prog : Program} {w : World} {A : Around} {E : Value → Shared → Prop} {s : Shared} {env : Env} {h₀ : Heap} {L : Addr} {body : List Stmt} {test : PySem.Expr} {pos : Pos} {Q : Flow → Shared → Prop}
    {σ : Type} {m₀ : Str → Option Value} {news : Led} (St : σ → Prop) (μ : σ → Nat) (mm : σ → Str → Option Value) (ld : σ → Led) (c₀ : σ)
    (F : Fr h₀ L s.heap m₀) (N : News h₀ L s.heap news) (hc₀ : St c₀) (hm₀ : ∀ z, m₀ z = mm c₀ z) (hl₀ : ∀ p ∈ ld c₀, p ∈ news)
    (turn : ∀ c h tk, St c → Fr h₀ L h (mm c) → News h₀ L h (ld c) →
      wpAny (model prog w) A (isTrue test env (eval test env)) (fun b s₂ => if b = true then wpAny (model prog w) A (execs body env)
        (WhileStep2 h₀ L s (fun n m nx => ∃ c, St c ∧ (∀ z, m z = mm c z) ∧ nx = ld c ∧ μ c = n) Q (μ c)) E s₂ else Q .next s₂) E { s with heap := h, toks := tk })
    (hE : PassesOwn (model prog w) A env E) :
    wpAny (model prog w) A (exec (.While test body [] pos) env) Q E s := by
  refine While_inv2 (fun n m nx => ∃ c, St c ∧ (∀ z, m z = mm c z) ∧ nx = ld c ∧ μ c = n) F (fun p hp => N p (hl₀ p hp)) ⟨c₀, hc₀, hm₀, rfl, rfl⟩ ?_ hE
  rintro n m₁ nx h tk F₁ N₁ ⟨c, hc, hm, rfl, rfl⟩
  have e : m₁ = mm c := by funext z; exact hm z
  subst e
  exact turn c h tk hc F₁ N₁

theorem and_low : ∀ (k : Nat) (v y : Int), 0 ≤ y → y < 2 ^ k → Builtin.bitAnd (v * 2 ^ k) y = 0
  | 0, v, y, h0, h1 => by
    have e : (2 : Int) ^ 0 = 1 := rfl
    have : y = 0 := by (first | lia | omega)
    rw [this, bitAnd_zero]
  | k + 1, v, y, h0, h1 => by
    have e : v * 2 ^ (k + 1) = (v * 2 ^ k) * 2 := by rw [Int.pow_succ, Int.mul_assoc]
    rw [Int.pow_succ] at h1
    rw [kbt_halves, e, show v * 2 ^ k * 2 / 2 = v * 2 ^ k by (first | lia | omega), and_low k v (y / 2) (by (first | lia | omega)) (by (first | lia | omega)), if_neg (by (first | lia | omega))]
    rfl
theorem or_low (v n : Int) : Builtin.bitOr (v * 2 ^ (6 : Int).toNat) (Builtin.bitAnd n 63) = v * 64 + n % 64 := by
  rw [bitAnd_m6, bitOr_and, and_low _ _ _ (by (first | lia | omega)) (by show n % 64 < 2 ^ 6; (first | lia | omega))]
  show v * 64 + n % 64 - 0 = _
  (first | lia | omega)
theorem and_mark (n : Int) (h0 : 0 ≤ n) (h1 : n < 128) : Builtin.bitAnd n 64 = if n < 64 then 0 else 64 := by
  have := kbt_bit n 6
  rw [show (2 : Int) ^ 6 = 64 from rfl] at this
  rw [this]
  split <;> (first | lia | omega)
theorem bits_ok {v : Int} {i : Nat} (h : v.natAbs < 2 ^ (6 * i)) (hi : i ≤ 64) : (Builtin.Int.intBits v : Int) + 6 ≤ 2 ^ 27 := by
  have := PySem.intBits_le_iff.mpr h
  (first | lia | omega)
theorem ws_mk {σ : Type} {h₀ h' : Heap} {L : Addr} {s : Shared} {St : σ → Prop} {mm : σ → Str → Option Value} {ld : σ → Led} {μ : σ → Nat} {Q : Flow → Shared → Prop} {n tk' : Nat} {m' : Str → Option Value} (c : σ)
    (F : Fr h₀ L h' m') (N : News h₀ L h' (ld c)) (hc : St c) (hm : ∀ z, m' z = mm c z) (hlt : μ c < n) :
    WhileStep2 h₀ L s (fun n m nx => ∃ c, St c ∧ (∀ z, m z = mm c z) ∧ nx = ld c ∧ μ c = n) Q n .next { s with heap := h', toks := tk' } :=
  ⟨h', tk', m', ld c, μ c, rfl, F, N, hlt, c, hc, hm, rfl, rfl⟩
def VOk (g : Heap) (L' I l : Addr) (ns : List Int) (j : Nat) (rest : Led) (s : Shared) (fl : Flow) (s' : Shared) : Prop :=
  ∃ v k t h' tk' m', fl = .ret (.int v t) ∧ s' = { s with heap := h', toks := tk' } ∧ vgo 0 (ns.drop j) = some (v, ns.drop (j + k)) ∧ 0 < k ∧ j + k ≤ ns.length ∧ Fr g L' h' m' ∧ News g L' h' ((I, itO l (j + k)) :: rest)
structure VS where
  i : Nat
  b : Int
  v : Int
  tb : Tok
  tv : Tok
  u : Str → Option Value

theorem varint_ (w : World) (mean : ExcName → Option Value) (mg mb : Str → Option Value) (dp un : Nat) (gd : Option (List Code)) (cn : Str) (cs : Scope) (a : Addr) (ccd : Value) (outer : List Env) (A₀ : Around) (base h₀ : Heap) (L : Addr) (m : Str → Option Value) (s : Shared) (Q E : Value → Shared → Prop)
    (I l : Addr) (vs : List Value) (ns : List Int) (j : Nat) (rest : Led)
    (B : Below A₀ base outer h₀) (F : Fr h₀ L s.heap m) (X : (Mine.hd.heap_39 w.params).In h₀)
    (T : Top Mine.hd.view_39 (looseW Mine.hd.view_39 [Str.ofString "_NO_SEP", Str.ofString "b2a_hex", Str.ofString "hexlify"]) mean mg mb h₀)
    (N : News h₀ L s.heap ((I, itO l j) :: rest)) (hne : ∀ p ∈ rest, p.1 ≠ I) (hl : h₀.IsList l vs.toArray) (hi : IntsAre vs ns) (hb : ∀ n ∈ ns, 0 ≤ n ∧ n < 128) (hlen : ns.length ≤ 64) (hj : j ≤ ns.length)
    (hk : cs.kind = .function) (hd : dp + 1 < recursionLimit) (hu : un + 20 < cLine)
    (hret : ∀ v k t h' tk', vgo 0 (ns.drop j) = some (v, ns.drop (j + k)) → 0 < k → j + k ≤ ns.length → Fr h₀ L h' m → News h₀ L h' ((I, itO l (j + k)) :: rest) → Q (.int v t) { s with heap := h', toks := tk' })
    (hraise : vgo 0 (ns.drop j) = none → ∀ e h' tk' g o, Fr h₀ L g m → RaisedSN base g (envX cn cs L a ccd [] :: outer) e (.type "StopIteration") ((I, o) :: rest) h' → g.UpToSlots h' → E (.ref e) { s with heap := h', toks := tk' }) :
    wpAny (model PySem.Challenge.rw_pd0187_01.row.prog w) (ktrTop dp un gd cn cs L a ccd [] outer) (call (.ref 28) [.ref I]) Q E s := by
  w_top off
  k_with_none
  (k_with "call builtin:issubclass" => (k_here; k_dflt (refine' issub_tuple ?kD ?kc ?_; (case kD => exact (News.get (by k_asm) (by k_mem))); (case kc => exact rfl); k_whole)))
  (k_with "exec For Name Call cons nil" => (k_here; (with_unfolding_all refine' For_invVF ?kF0 ?k1 ?k2 ?_; (case kF0 => k_asm); (case k1 => exact rfl); (case k2 => exact rfl); k_whole)))
  (k_with "exec For Name Name cons nil" => (k_here; (with_unfolding_all refine' For_invVF ?kF0 ?k1 ?k2 ?_; (case kF0 => k_asm); (case k1 => exact rfl); (case k2 => exact rfl); k_whole)))
  (k_with "pyIter ref" => (k_here; (with_reducible show wpAny _ _ (pyIter (Value.ref _)) (fun it s₂ => LoopAtV _ _ _ _ _ _ _ _ _ it s₂) _ _); refine Stop.mk ?_))
  (k_with "eval ListComp" => (k_here; (with_reducible apply comp_evalG); (case hclos => with_unfolding_all rfl); (case hcell => decide); (case hkind => with_unfolding_all rfl); (case hnames => decide); (case hx => with_unfolding_all rfl); (case hs => intro _; with_unfolding_all rfl)))
  (k_with "pyIter ref" => (k_here; (with_reducible show wpAny _ _ (pyIter (Value.ref _)) (fun it s₂ => CG _ _ _ _ _ _ _ _ _ it s₂) _ _); refine Stop.mk ?_))
  (k_with "binaryOp Pow int int" => (k_here; (with_reducible refine pow_int_small ?kb1 ?kb2 ?kb3 ?_); (case kb1 => (first | lia | omega)); (case kb2 => (first | lia | omega)); (case kb3 => decide)))
  (k_with "binaryOp FloorDiv int int" => (k_here; (with_reducible refine floordiv_int (pow64_ne _) ?_ (Or.inl (PyProof.noPylong_of_log2 (pow64_log _ (by (first | lia | omega))))))))
  (k_with "binaryOp FloorDiv int int" => (k_here; (with_reducible refine floordiv_int (by decide) ?_ (Or.inl (PyProof.noPylong_of_log2 (by decide +kernel))))))
  (k_with "binaryOp Mod int int" => (k_here; (with_reducible refine mod_int' (by decide) ?_ (Or.inl (PyProof.noPylong_of_log2 (by decide +kernel))))))
  (k_with "eval Name" => (k_here; (with_reducible show wpAny _ _ (eval (Expr.Name _ _) (compEnvC _ _ _ _)) _ _ _); (with_unfolding_all refine' nameC_F ?N ?c ?m ?d ?k ?x ?dd ?_; (case k => exact rfl); (case x => exact rfl); (case dd => decide); (case N => with_reducible assumption); (case c => exact rfl); (case m => k_mem); (case d => k_asm); k_whole)))
  (k_with "eval Name" => (k_here; (with_reducible show wpAny _ _ (eval (Expr.Name _ _) (compEnvC _ _ _ _)) _ _ _); (with_unfolding_all refine' nameC_L ?n ?v ?k ?x ?d ?_; (case k => exact rfl); (case x => exact rfl); (case d => decide); (case n => with_reducible assumption); (case v => with_reducible assumption); k_whole)))
  (k_with "call ref" => (k_here; (first | (with_reducible show wpAny _ _ (call (Value.ref 138) _) _ _ _) | (with_reducible show wpAny _ _ (call (Value.ref 159) _) _ _ _) | (with_reducible show wpAny _ _ (call (Value.ref 44) _) _ _ _) | (with_reducible show wpAny _ _ (call (Value.ref 35) _) _ _ _)); k_dflt ((refine wpAny_call ?_); (refine' code_def ?k1 ?k2 ?k3 ?k4 ?k5 ?kA ?kF ?kK ?k6 ?k7 ?k8 ?k9 ?kB ?_ ?c2 ?c3 ?c4 ?c5); (case kA => exact rfl); (case kF => exact rfl); (case kK => first | exact rfl | assumption); (case k1 => k_asm); (case k2 => k_asm); (case k3 => k_asm); (case k4 => k_asm); (case k5 => k_asm); (case k6 => k_is); (case k7 => k_is); (case k8 => ktr_room); (case k9 => first | exact BindsTo.of_eq rfl | exact binds_K (by k_in) rfl (by k_is) rfl rfl rfl); (case c5 => decide); (case kB => exact locs rfl); (case c2 => exact rfl); (case c3 => exact rfl); (case c4 => exact rfl); k_whole; (intro _ _ _ _ _ _ _ _ _); (try dsimp only); (try k_fold))))
  (k_with "exec Assign cons ListComp" => (k_here; (with_reducible apply comp_assignG); (case hsw => with_unfolding_all rfl); (case hclos => with_unfolding_all rfl); (case hcell => decide); (case hkind => with_unfolding_all rfl); (case hnames => decide); (case hx => with_unfolding_all rfl); (case hy => with_unfolding_all rfl); (case hp => with_unfolding_all rfl); (case hs => intro _; with_unfolding_all rfl)))
  (k_with "pyIter ref" => (k_here; (with_reducible show wpAny _ _ (pyIter (Value.ref _)) (fun it s₂ => CGA _ _ _ _ _ _ _ _ _ _ it s₂) _ _); refine Stop.mk ?_))
  (k_with "pyIter str" => (k_here; (with_reducible show wpAny _ _ (pyIter (Value.str _ _)) (fun it s₂ => CGA _ _ _ _ _ _ _ _ _ _ it s₂) _ _); refine Stop.mk ?_))
  (k_with "pyIter bytes" => (k_here; (with_reducible show wpAny _ _ (pyIter (Value.bytes _ _)) (fun it s₂ => CG _ _ _ _ _ _ _ _ _ it s₂) _ _); refine Stop.mk ?_))
  (k_with "ite" => (k_here; first | (refine ite_pos (by with_reducible assumption) ?_) | (refine ite_neg (by with_reducible assumption) ?_)))
  (k_with "call ref" => (k_here; (with_reducible show wpAny _ _ (call (Value.ref 124) [Value.str _ _]) _ _ _); (k_dflt (refine' PC.useStr (fspath_str _ _ _ _ _ _) ?B ?F ?X ?N ?T ?hk ?hd ?hu trivial ?_; ((case B => k_asm); (case F => k_asm); (case X => k_asm); (case N => k_asm); (case T => k_asm); (case hk => first | exact rfl | assumption); (case hd => ktr_room); (case hu => ktr_units)); k_whole)); (intro _ _ _ _ _ _ _); (try dsimp only); (try k_sweep)))
  (k_with "call ref" => (k_here; (with_reducible show wpAny _ _ (call (Value.ref 152) [Value.str _ _]) _ _ _); (k_dflt (refine' PC.usePair (SplitAt.pc ?C _) ?B ?F ?X ?N ?T ?hk ?hd ?hu trivial ?_; (case C => with_reducible assumption); ((case B => k_asm); (case F => k_asm); (case X => k_asm); (case N => k_asm); (case T => k_asm); (case hk => first | exact rfl | assumption); (case hd => ktr_room); (case hu => ktr_units)); k_whole)); (intro _ _ _ _ _ _ _ _ _); (try dsimp only); (try k_sweep)))
  (k_with "truthy str" => (k_here; (with_reducible show wpAny _ _ (PySem.truthy (Value.str _ _)) _ _ _); (refine truthy_yes (by (first | lia | omega)) (by (first | lia | omega)) ?_)))
  (k_with "truthy ref" => (k_here; (with_reducible show wpAny _ _ (PySem.truthy (Value.ref _)) _ _ _); (k_dflt (first | (refine' truthy_listY ?mtyN ?mtym ?mtya ?mtyb ?_; (case mtyN => k_asm); (case mtym => k_mem); (case mtya => (first | lia | omega)); (case mtyb => (first | lia | omega)); k_whole) | (refine' truthy_listN ?mtnN ?mtnm ?mtna ?_; (case mtnN => k_asm); (case mtnm => k_mem); (case mtna => (first | lia | omega)); k_whole)))))
  (k_with "subscriptTail" => (k_here; (with_reducible show wpAny _ _ (subscriptTail _ _ (Value.ref _) (Value.int (-1) _)) _ _ _); k_dflt (refine' sub_last ?mslN ?mslm ?mslv ?mslz ?_ ?msls; (case mslN => k_asm); (case mslm => k_mem); (case mslv => with_reducible assumption); (case mslz => (first | lia | omega)); (case msls => with_unfolding_all rfl); k_whole)))
  (k_with "call builtin:list.pop" => (k_here; k_dflt (refine' kl_pop ?mplF ?mplN ?mple ?mplU ?mplz ?_; (case mplF => k_asm); (case mplN => k_asm); (case mple => with_reducible assumption); (case mplU => k_upd); (case mplz => with_reducible assumption); k_whole); intro _ _ _; (try k_sweep)))
  (k_with "call builtin:str.join" => (k_here; (with_reducible show wpAny _ _ (call (Value.builtin _) [Value.str _ _, Value.ref _]) _ _ _); k_dflt (refine' join_list ?mjnl ?mjni ?mjnk ?_; (case mjnl => exact News.isList (by k_asm) (by k_mem)); (case mjni => with_reducible assumption); (case mjnk => with_reducible assumption); k_whole); intro _ _))
  (k_with "exec While BinOp cons nil" => (k_here; refine Stop.mk ?_))
  (k_with "call builtin:next" => (k_here; (with_reducible show wpAny _ _ (call (Value.builtin "next") [Value.ref _]) _ _ _); (first
    | (k_dflt (refine' next_item ?mniF ?mniN ?mniR ?mniL ?mniX ?_; (case mniF => k_asm); (case mniN => k_asm); (case mniR => with_reducible assumption); (case mniL => exact (by with_reducible assumption : Heap.IsList _ _ _).at fun o e => (by k_asm : Fr _ _ _ _).keep _ _ e); (case mniX => with_reducible assumption); k_whole); (intro _ _ _); (try k_sweep))
    | (k_dflt (refine' next_end ?mneF ?mneN ?mneR ?mneL ?mneX ?mneH ?_; (case mneF => k_asm); (case mneN => k_asm); (case mneR => with_reducible assumption); (case mneL => exact (by with_reducible assumption : Heap.IsList _ _ _).at fun o e => (by k_asm : Fr _ _ _ _).keep _ _ e); (case mneX => with_reducible assumption); (case mneH => exact rfl); k_whole); (intro _ _ _ _ _ _); refine Stop.mk ?_))))
  (k_with "inplaceOp LShift int int" => (k_here; (with_reducible refine ilshift_int ?mlsa ?mlsb ?_); (case mlsa => decide); (case mlsb => with_reducible assumption)))
  have mFill : ∀ P : Params, (Mine.hd.heap_39 P).In {} → PySem.Challenge.rw_pd0187_01.Holds → True := by
    k_fill
    exact fun _ _ _ => trivial
  clear mFill
  refine wpAny_call ?_
  refine code_defG (binds := [(Str.ofString "iterator", .ref I)]) B F X N T rfl rfl hk (by k_is) (by k_is) (by show dp < recursionLimit; (first | lia | omega)) (BindsTo.of_eq rfl) (locs rfl) ?_ rfl rfl rfl (by decide)
  intro g L' h₁ FG F' N' B' X' T' G
  have hlg : g.IsList l vs.toArray := hl.at fun o e => FG.keep _ _ e
  refine wpAny_mono (Q := VOk g L' I l ns j rest s)
    ?body ?ok fun _ _ x => x
  case ok =>
    rintro fl s' ⟨v, k, t, h', tk', m', rfl, rfl, hv, h0, h1, F2, N2⟩
    refine leaveK_ F2 N2 fun FF NN => ?_
    exact hret v k t h' tk' hv h0 h1 FF NN
  case body =>
    have hvl := hi.length
    by_cases hj' : j < ns.length
    · have hjn : ns[j]? = some (ns[j]'hj') := List.getElem?_eq_getElem hj'
      have hnb := hb _ (List.getElem_mem hj')
      have hdr : ns.drop j = ns[j]'hj' :: ns.drop (j + 1) := List.drop_eq_getElem_cons hj'
      generalize ns[j]'hj' = n at *
      obtain ⟨t, hx⟩ := hi.get j n hjn
      have hx' : vs.toArray[j]? = some (.int n t) := by simpa using hx
      k_steps
      rename_i h3 tk2 h2 F2 N2
      unfold Stop
      rw [bitAnd_m6] at F2
      have F3 := fr_ov (fr_ov (fr_ov F2 (Str.ofString "iterator") _ rfl) (Str.ofString "b") _ rfl) (Str.ofString "val") _ rfl
      refine loop_while (fun (c : VS) => j < c.i ∧ c.i ≤ ns.length ∧ (0 ≤ c.b ∧ c.b < 128) ∧ c.v.natAbs < 2 ^ (6 * c.i) ∧ vgo 0 (ns.drop j) = if c.b < 64 then some (c.v, ns.drop c.i) else vgo c.v (ns.drop c.i)) (fun c => ns.length - c.i)
        (fun c y => if y = Str.ofString "val" then some (.int c.v c.tv) else if y = Str.ofString "b" then some (.int c.b c.tb) else if y = Str.ofString "iterator" then some (Value.ref I) else c.u y)
        (fun c => (I, itO l c.i) :: rest) ⟨j + 1, n, n % 64, _, _, _⟩ F3 N2 ?_ (fun z => rfl) (fun _ h => h) ?_ (by with_unfolding_all passes_own)
      · refine ⟨by dsimp only; (first | lia | omega), by dsimp only; (first | lia | omega), hnb, ?_, ?_⟩
        · dsimp only
          have e : 6 * (j + 1) = 6 * j + 6 := by (first | lia | omega)
          have := Nat.two_pow_pos (6 * j)
          rw [e, Nat.pow_add, show 2 ^ 6 = 64 from rfl]
          (first | lia | omega)
        · dsimp only
          rw [hdr]
          show (if n < 64 then some (0 * 64 + n % 64, _) else vgo (0 * 64 + n % 64) _) = _
          rw [Int.zero_mul, Int.zero_add]
      · rintro ⟨i, b, v, tb, tv, u⟩ h5 tk5 hc F5 N5
        dsimp only at hc F5 N5 ⊢
        obtain ⟨h1, h2, h3, h4, h6⟩ := hc
        have hbits := bits_ok h4 (by (first | lia | omega))
        by_cases hil : i < ns.length
        · have hin : ns[i]? = some (ns[i]'hil) := List.getElem?_eq_getElem hil
          have hnb2 := hb _ (List.getElem_mem hil)
          have hdr2 : ns.drop i = ns[i]'hil :: ns.drop (i + 1) := List.drop_eq_getElem_cons hil
          generalize ns[i]'hil = n2 at *
          obtain ⟨t2, hx2⟩ := hi.get i n2 hin
          have hx3 : vs.toArray[i]? = some (.int n2 t2) := by simpa using hx2
          k_steps
          · (rename Fr _ _ _ _ => FF); (rename News _ _ _ _ => NN); (rename Builtin.bitAnd b 64 ≠ 0 => hbit)
            rw [or_low] at FF
            have hb64 : ¬ b < 64 := fun q => hbit (by rw [and_mark b h3.1 h3.2, if_pos q])
            refine ws_mk ⟨i + 1, n2, v * 64 + n2 % 64, _, _, _⟩ (fr_ov (fr_ov (fr_ov FF (Str.ofString "iterator") _ rfl) (Str.ofString "b") _ rfl) (Str.ofString "val") _ rfl) NN ?_ (fun z => rfl) (by dsimp only; (first | lia | omega))
            refine ⟨by dsimp only; (first | lia | omega), by dsimp only; (first | lia | omega), hnb2, ?_, ?_⟩
            · dsimp only
              have e : 6 * (i + 1) = 6 * i + 6 := by (first | lia | omega)
              rw [e, Nat.pow_add, show 2 ^ 6 = 64 from rfl]
              (first | lia | omega)
            · dsimp only
              rw [h6, if_neg hb64, hdr2]; rfl
          · (rename Builtin.bitAnd b 64 = 0 => hbit)
            have hb64 : b < 64 := Classical.byContradiction fun q => by rw [and_mark b h3.1 h3.2, if_neg q] at hbit; cases hbit
            rw [if_pos hb64] at h6
            show VOk _ _ _ _ _ _ _ _ _ _
            exact ⟨v, i - j, tv, _, _, _, rfl, rfl, by rw [h6, show j + (i - j) = i by (first | lia | omega)], by (first | lia | omega), by (first | lia | omega), by assumption, by rw [show j + (i - j) = i by (first | lia | omega)]; assumption⟩
        · have hx3 : vs.toArray[i]? = none := by simp; (first | lia | omega)
          have hdr2 : ns.drop i = [] := List.drop_eq_nil_of_le (by (first | lia | omega))
          k_steps
          · (rename Builtin.bitAnd b 64 ≠ 0 => hbit)
            have hb64 : ¬ b < 64 := fun q => hbit (by rw [and_mark b h3.1 h3.2, if_pos q])
            have hv : vgo 0 (ns.drop j) = none := by rw [h6, if_neg hb64, hdr2]; rfl
            unfold Stop
            exact leave_newS B' (by assumption) (by assumption) (by assumption) fun h'' R1 R2 U => hraise hv _ h'' _ g _ FG R1 U
          · (rename Builtin.bitAnd b 64 = 0 => hbit)
            have hb64 : b < 64 := Classical.byContradiction fun q => by rw [and_mark b h3.1 h3.2, if_neg q] at hbit; cases hbit
            rw [if_pos hb64] at h6
            show VOk _ _ _ _ _ _ _ _ _ _
            exact ⟨v, i - j, tv, _, _, _, rfl, rfl, by rw [h6, show j + (i - j) = i by (first | lia | omega)], by (first | lia | omega), by (first | lia | omega), by assumption, by rw [show j + (i - j) = i by (first | lia | omega)]; assumption⟩
    · have hx' : vs.toArray[j]? = none := by simp; (first | lia | omega)
      have hv : vgo 0 (ns.drop j) = none := by rw [List.drop_eq_nil_of_le (by (first | lia | omega))]; rfl
      k_steps
      unfold Stop
      exact leave_newS B' (by assumption) (by assumption) (by assumption) fun h'' R1 R2 U => hraise hv _ h'' _ g _ FG R1 U

end Mine
end
section
open PySem PySem.W PySem.Spec PySem.Calls PyProof.Rows
set_option Elab.async false
set_option maxRecDepth 100000
set_option maxHeartbeats 8000000
set_option pp.maxSteps 3000
namespace Mine
structure NS where
  j : Nat
  ds : List Int
  ws : List Value
  nn : Nat
  u : Str → Option Value
theorem call_open {w : World} {mean : ExcName → Option Value} {mg mb : Str → Option Value} {dp un : Nat} {gd : Option (List Code)} {cn : Str} {cs : Scope} {a : Addr} {ccd : Value} {cl : List (Str × Addr)} {outer : List Env} {A₀ : Around} {base h₀ : Heap} {L : Addr} {m : Str → Option Value} {s : Shared} {Q E : Value → Shared → Prop} {f : Addr} {vs : List Value}
    {name qual : Str} {params : Arguments} {body : List Stmt} {scope : Scope} {dV kV doc pm cdv ct oc : Value} {an od : Option Addr} {osl : Array (Option Value)} (binds : List (Str × Value))
    (B : Below A₀ base outer h₀) (F : Fr h₀ L s.heap m) (X : (Mine.hd.heap_39 w.params).In h₀)
    (T : Top Mine.hd.view_39 (looseW Mine.hd.view_39 [Str.ofString "_NO_SEP", Str.ofString "b2a_hex", Str.ofString "hexlify"]) mean mg mb h₀)
    (hkc : cs.kind = .function) (hd : dp < recursionLimit)
    (ho : (Mine.hd.heap_39 w.params).lookup f = some ⟨oc, od, .func (fnOf name qual params body scope dV kV doc pm an cdv ct), osl⟩) (hcd : codeIn (Mine.hd.heap_39 w.params) cdv qual = true)
    (hbind : ∀ s : Shared, (Mine.hd.heap_39 w.params).In s.heap → BindsTo s (fnOf name qual params body scope dV kV doc pm an cdv ct) ⟨vs, []⟩ binds) (hloc : ∀ y ∈ binds, scope.names.lookup y.1 = some .local)
    (hco : scope.isCoroutine = false) (hgen : scope.isGenerator = false) (hk : scope.kind = .function)
    (hcell : ∀ x ∈ scope.names, x.2 ≠ .cell)
    (h : ∀ L' h₁, Fr s.heap L' h₁ (fun y => binds.reverse.lookup y) → News s.heap L' h₁ [] → Below (ktrTop dp un gd cn cs L a ccd cl outer) base (envX cn cs L a ccd cl :: outer) s.heap → (Mine.hd.heap_39 w.params).In s.heap →
      Top Mine.hd.view_39 (looseW Mine.hd.view_39 [Str.ofString "_NO_SEP", Str.ofString "b2a_hex", Str.ofString "hexlify"]) mean mg mb s.heap → (Mine.hd.heap_39 w.params).In base →
      Top Mine.hd.view_39 (looseW Mine.hd.view_39 [Str.ofString "_NO_SEP", Str.ofString "b2a_hex", Str.ofString "hexlify"]) mean mg mb base →
      wpAny (model PySem.Challenge.rw_pd0187_01.row.prog w) (ktrTop (dp + 1) (un + 3) gd qual scope L' f cdv [] (envX cn cs L a ccd cl :: outer)) (execs body (envX qual scope L' f cdv []))
        (fun fl s' => Q (match fl with | .ret v => v | _ => .none) s')
        (fun e s' => wpAny (model PySem.Challenge.rw_pd0187_01.row.prog w) (ktrTop (dp + 1) (un + 3) gd qual scope L' f cdv [] (envX cn cs L a ccd cl :: outer)) (leaving (envX qual scope L' f cdv []) e) (fun _ s'' => E e s'') (fun e' s'' => E e' s'') s')
        { s with heap := h₁, toks := s.toks + binds.length })
    (XB : (Mine.hd.heap_39 w.params).In base)
    (TB : Top Mine.hd.view_39 (looseW Mine.hd.view_39 [Str.ofString "_NO_SEP", Str.ofString "b2a_hex", Str.ofString "hexlify"]) mean mg mb base) :
    wpAny (model PySem.Challenge.rw_pd0187_01.row.prog w) (ktrTop dp un gd cn cs L a ccd cl outer) (call (.ref f) vs) Q E s := by
  refine wpAny_call ?_
  obtain ⟨FG, BG, st, -⟩ := groundX (R := (fun r s' => match r with | .ok (.ret v) => Q v s' | .ok _ => False | .error e => E e s')) (A := ktrTop dp un gd cn cs L a ccd cl outer) (env := envX cn cs L a ccd cl) (outer := outer) B F (News.nil) rfl rfl hkc
  refine codeAny_call_def (fd := fnOf name qual params body scope dV kV doc pm an cdv ct) (binds := binds) (by show dp < recursionLimit; exact hd) ((X.keeps F.keep) _ _ ho) rfl (T.nolimit.keeps F.keep) (codeRec_of (X.keeps F.keep) hcd) rfl (hbind s (X.keeps F.keep)) hcell hloc (fun h₁ hns hk₁ => ?_) hco hgen hk
  exact wpAny_mono (h s.heap.objs.size h₁ ⟨hns, hk₁, Nat.le_refl _⟩ News.nil BG (X.keeps st) (T.keeps st) XB TB) (fun _ _ x => x) fun _ _ x => wpAny_mono x (fun _ _ y => y) fun _ _ y => y

theorem numsF_succ' (k : Nat) (l : List Int) : numsF (k + 1) l = match vgo 0 l with
    | none => []
    | some (v, r) => v :: numsF k r := rfl
theorem kr_notTuple_Stop : isSubtype (.type ((Manifest.find? "StopIteration").elim "type" fun x => x.metatype)) (.type "tuple") = pure false := by
  rw [show ((Manifest.find? "StopIteration").elim "type" fun x => x.metatype) = "type" from by kernel_rfl, isSubtype_type]; kernel_rfl
theorem law_numbers_ (w : World) (mean : ExcName → Option Value) (mg mb : Str → Option Value) (dp un : Nat) (gd : Option (List Code)) (cn : Str) (cs : Scope) (a : Addr) (ccd : Value) (cl : List (Str × Addr)) (A₀ : Around) (base h₀ : Heap) (L : Addr) (m : Str → Option Value) (s : Shared) (Q E : Value → Shared → Prop)
    (l : Addr) (vs : List Value) (ns : List Int)
    (B : Below A₀ base [] h₀) (F : Fr h₀ L s.heap m) (X : (Mine.hd.heap_39 w.params).In h₀)
    (T : Top Mine.hd.view_39 (looseW Mine.hd.view_39 [Str.ofString "_NO_SEP", Str.ofString "b2a_hex", Str.ofString "hexlify"]) mean mg mb h₀)
    (XB : (Mine.hd.heap_39 w.params).In base) (TB : Top Mine.hd.view_39 (looseW Mine.hd.view_39 [Str.ofString "_NO_SEP", Str.ofString "b2a_hex", Str.ofString "hexlify"]) mean mg mb base)
    (hl : s.heap.IsList l vs.toArray) (hi : IntsAre vs ns) (hb : ∀ n ∈ ns, 0 ≤ n ∧ n < 128) (hlen : ns.length ≤ 64)
    (hk : cs.kind = .function) (hd : dp + 2 < recursionLimit) (hu : un + 60 < cLine)
    (hret : ∀ r ws nn h' tk', UpT L s.heap h' → s.heap.get? r = none → h'.get? r = some (listOf (List.toArray ws) nn) → IntsAre ws (nums ns) → Q (.ref r) { s with heap := h', toks := tk' }) :
    wpAny (model PySem.Challenge.rw_pd0187_01.row.prog w) (ktrTop dp un gd cn cs L a ccd cl []) (call (.ref 205) [.ref l]) Q E s := by
  w_top off
  k_with_none
  (k_with "call builtin:issubclass" => (k_here; k_dflt (refine' issub_tuple ?kD ?kc ?_; (case kD => exact (News.get (by k_asm) (by k_mem))); (case kc => exact rfl); k_whole)))
  (k_with "exec For Name Call cons nil" => (k_here; (with_unfolding_all refine' For_invVF ?kF0 ?k1 ?k2 ?_; (case kF0 => k_asm); (case k1 => exact rfl); (case k2 => exact rfl); k_whole)))
  (k_with "exec For Name Name cons nil" => (k_here; (with_unfolding_all refine' For_invVF ?kF0 ?k1 ?k2 ?_; (case kF0 => k_asm); (case k1 => exact rfl); (case k2 => exact rfl); k_whole)))
  (k_with "pyIter ref" => (k_here; (with_reducible show wpAny _ _ (pyIter (Value.ref _)) (fun it s₂ => LoopAtV _ _ _ _ _ _ _ _ _ it s₂) _ _); refine Stop.mk ?_))
  (k_with "eval ListComp" => (k_here; (with_reducible apply comp_evalG); (case hclos => with_unfolding_all rfl); (case hcell => decide); (case hkind => with_unfolding_all rfl); (case hnames => decide); (case hx => with_unfolding_all rfl); (case hs => intro _; with_unfolding_all rfl)))
  (k_with "pyIter ref" => (k_here; (with_reducible show wpAny _ _ (pyIter (Value.ref _)) (fun it s₂ => CG _ _ _ _ _ _ _ _ _ it s₂) _ _); refine Stop.mk ?_))
  (k_with "binaryOp Pow int int" => (k_here; (with_reducible refine pow_int_small ?kb1 ?kb2 ?kb3 ?_); (case kb1 => (first | lia | omega)); (case kb2 => (first | lia | omega)); (case kb3 => decide)))
  (k_with "binaryOp FloorDiv int int" => (k_here; (with_reducible refine floordiv_int (pow64_ne _) ?_ (Or.inl (PyProof.noPylong_of_log2 (pow64_log _ (by (first | lia | omega))))))))
  (k_with "binaryOp FloorDiv int int" => (k_here; (with_reducible refine floordiv_int (by decide) ?_ (Or.inl (PyProof.noPylong_of_log2 (by decide +kernel))))))
  (k_with "binaryOp Mod int int" => (k_here; (with_reducible refine mod_int' (by decide) ?_ (Or.inl (PyProof.noPylong_of_log2 (by decide +kernel))))))
  (k_with "eval Name" => (k_here; (with_reducible show wpAny _ _ (eval (Expr.Name _ _) (compEnvC _ _ _ _)) _ _ _); (with_unfolding_all refine' nameC_F ?N ?c ?m ?d ?k ?x ?dd ?_; (case k => exact rfl); (case x => exact rfl); (case dd => decide); (case N => with_reducible assumption); (case c => exact rfl); (case m => k_mem); (case d => k_asm); k_whole)))
  (k_with "eval Name" => (k_here; (with_reducible show wpAny _ _ (eval (Expr.Name _ _) (compEnvC _ _ _ _)) _ _ _); (with_unfolding_all refine' nameC_L ?n ?v ?k ?x ?d ?_; (case k => exact rfl); (case x => exact rfl); (case d => decide); (case n => with_reducible assumption); (case v => with_reducible assumption); k_whole)))
  (k_with "call ref" => (k_here; (first | (with_reducible show wpAny _ _ (call (Value.ref 138) _) _ _ _) | (with_reducible show wpAny _ _ (call (Value.ref 159) _) _ _ _) | (with_reducible show wpAny _ _ (call (Value.ref 44) _) _ _ _) | (with_reducible show wpAny _ _ (call (Value.ref 35) _) _ _ _)); k_dflt ((refine wpAny_call ?_); (refine' code_def ?k1 ?k2 ?k3 ?k4 ?k5 ?kA ?kF ?kK ?k6 ?k7 ?k8 ?k9 ?kB ?_ ?c2 ?c3 ?c4 ?c5); (case kA => exact rfl); (case kF => exact rfl); (case kK => first | exact rfl | assumption); (case k1 => k_asm); (case k2 => k_asm); (case k3 => k_asm); (case k4 => k_asm); (case k5 => k_asm); (case k6 => k_is); (case k7 => k_is); (case k8 => ktr_room); (case k9 => first | exact BindsTo.of_eq rfl | exact binds_K (by k_in) rfl (by k_is) rfl rfl rfl); (case c5 => decide); (case kB => exact locs rfl); (case c2 => exact rfl); (case c3 => exact rfl); (case c4 => exact rfl); k_whole; (intro _ _ _ _ _ _ _ _ _); (try dsimp only); (try k_fold))))
  (k_with "exec Assign cons ListComp" => (k_here; (with_reducible apply comp_assignG); (case hsw => with_unfolding_all rfl); (case hclos => with_unfolding_all rfl); (case hcell => decide); (case hkind => with_unfolding_all rfl); (case hnames => decide); (case hx => with_unfolding_all rfl); (case hy => with_unfolding_all rfl); (case hp => with_unfolding_all rfl); (case hs => intro _; with_unfolding_all rfl)))
  (k_with "pyIter ref" => (k_here; (with_reducible show wpAny _ _ (pyIter (Value.ref _)) (fun it s₂ => CGA _ _ _ _ _ _ _ _ _ _ it s₂) _ _); refine Stop.mk ?_))
  (k_with "pyIter str" => (k_here; (with_reducible show wpAny _ _ (pyIter (Value.str _ _)) (fun it s₂ => CGA _ _ _ _ _ _ _ _ _ _ it s₂) _ _); refine Stop.mk ?_))
  (k_with "pyIter bytes" => (k_here; (with_reducible show wpAny _ _ (pyIter (Value.bytes _ _)) (fun it s₂ => CG _ _ _ _ _ _ _ _ _ it s₂) _ _); refine Stop.mk ?_))
  (k_with "ite" => (k_here; first | (refine ite_pos (by with_reducible assumption) ?_) | (refine ite_neg (by with_reducible assumption) ?_)))
  (k_with "call ref" => (k_here; (with_reducible show wpAny _ _ (call (Value.ref 124) [Value.str _ _]) _ _ _); (k_dflt (refine' PC.useStr (fspath_str _ _ _ _ _ _) ?B ?F ?X ?N ?T ?hk ?hd ?hu trivial ?_; ((case B => k_asm); (case F => k_asm); (case X => k_asm); (case N => k_asm); (case T => k_asm); (case hk => first | exact rfl | assumption); (case hd => ktr_room); (case hu => ktr_units)); k_whole)); (intro _ _ _ _ _ _ _); (try dsimp only); (try k_sweep)))
  (k_with "call ref" => (k_here; (with_reducible show wpAny _ _ (call (Value.ref 152) [Value.str _ _]) _ _ _); (k_dflt (refine' PC.usePair (SplitAt.pc ?C _) ?B ?F ?X ?N ?T ?hk ?hd ?hu trivial ?_; (case C => with_reducible assumption); ((case B => k_asm); (case F => k_asm); (case X => k_asm); (case N => k_asm); (case T => k_asm); (case hk => first | exact rfl | assumption); (case hd => ktr_room); (case hu => ktr_units)); k_whole)); (intro _ _ _ _ _ _ _ _ _); (try dsimp only); (try k_sweep)))
  (k_with "truthy str" => (k_here; (with_reducible show wpAny _ _ (PySem.truthy (Value.str _ _)) _ _ _); (refine truthy_yes (by (first | lia | omega)) (by (first | lia | omega)) ?_)))
  (k_with "truthy ref" => (k_here; (with_reducible show wpAny _ _ (PySem.truthy (Value.ref _)) _ _ _); (k_dflt (first | (refine' truthy_listY ?mtyN ?mtym ?mtya ?mtyb ?_; (case mtyN => k_asm); (case mtym => k_mem); (case mtya => (first | lia | omega)); (case mtyb => (first | lia | omega)); k_whole) | (refine' truthy_listN ?mtnN ?mtnm ?mtna ?_; (case mtnN => k_asm); (case mtnm => k_mem); (case mtna => (first | lia | omega)); k_whole)))))
  (k_with "subscriptTail" => (k_here; (with_reducible show wpAny _ _ (subscriptTail _ _ (Value.ref _) (Value.int (-1) _)) _ _ _); k_dflt (refine' sub_last ?mslN ?mslm ?mslv ?mslz ?_ ?msls; (case mslN => k_asm); (case mslm => k_mem); (case mslv => with_reducible assumption); (case mslz => (first | lia | omega)); (case msls => with_unfolding_all rfl); k_whole)))
  (k_with "call builtin:list.pop" => (k_here; k_dflt (refine' kl_pop ?mplF ?mplN ?mple ?mplU ?mplz ?_; (case mplF => k_asm); (case mplN => k_asm); (case mple => with_reducible assumption); (case mplU => k_upd); (case mplz => with_reducible assumption); k_whole); intro _ _ _; (try k_sweep)))
  (k_with "call builtin:str.join" => (k_here; (with_reducible show wpAny _ _ (call (Value.builtin _) [Value.str _ _, Value.ref _]) _ _ _); k_dflt (refine' join_list ?mjnl ?mjni ?mjnk ?_; (case mjnl => exact News.isList (by k_asm) (by k_mem)); (case mjni => with_reducible assumption); (case mjnk => with_reducible assumption); k_whole); intro _ _))
  (k_with "call builtin:iter" => (k_here; (with_reducible show wpAny _ _ (call (Value.builtin "iter") [Value.ref _]) _ _ _); k_dflt (refine' iter_list ?mitF ?mitN ?mitL ?_; (case mitF => k_asm); (case mitN => k_asm); (case mitL => exact (by with_reducible assumption : Heap.IsList _ _ _).at fun o e => (by k_asm : Fr _ _ _ _).keep _ _ e); k_whole); intro _ _ _ _ _; (try k_sweep)))
  (k_with "exec Try" => (k_here; (with_reducible show wpAny _ _ (exec (Stmt.Try _ (_ :: _) _ [] _) _) _ _ _); refine wpAny_Try_except ?_))
  (k_with "call ref" => (k_here; (with_reducible show wpAny _ _ (call (Value.ref 28) [Value.ref _]) _ _ _); refine Stop.mk ?_))
  have mFill : ∀ P : Params, (Mine.hd.heap_39 P).In {} → PySem.Challenge.rw_pd0187_01.Holds → True := by
    k_fill
    exact fun _ _ _ => trivial
  clear mFill
  refine' call_open [(Str.ofString "octets", .ref l)] B F X T hk (by (first | lia | omega)) ?ho ?hcd ?hbind ?hloc ?hco ?hgen ?hk ?hcell ?h XB TB
  (case ho => k_is)
  (case hcd => k_is)
  (case hbind => exact fun _ _ => BindsTo.of_eq rfl)
  (case hloc => exact locs rfl)
  (case hco => exact rfl)
  (case hgen => exact rfl)
  (case hk => exact rfl)
  (case hcell => decide)
  case h =>
    intro L' h₁ F1 N1 B1 X1 T1 _ _
    generalize hg : s.heap = g at *
    k_steps
    rename_i I hA lI hB tkB ln hC lIn hD F1 N1 hE tkD t0 u0 v0 R0 F0 N0 U0
    unfold Stop
    refine loop_range (n := ns.length + 1) (fun i (c : NS) => i ≤ c.j ∧ c.j ≤ ns.length ∧ IntsAre c.ws c.ds ∧ c.ws.length ≤ i ∧ c.ds ++ numsF (ns.length + 1 - i) (ns.drop c.j) = nums ns)
      (fun c y => if y = Str.ofString "numbers" then some (Value.ref ln) else if y = Str.ofString "source" then some (Value.ref I) else c.u y)
      (fun c => [(I, itO l c.j), (ln, listOf c.ws.toArray c.nn)]) ⟨0, [], [], 0, _⟩ rfl R0 (by (first | lia | omega)) (by (first | lia | omega)) F0 N0 ?_ (fun z hz => rfl) (fun p hp => ?_) ?_ ?_
    · exact ⟨Nat.le_refl _, Nat.zero_le _, .nil, Nat.le_refl _, rfl⟩
    · rcases List.mem_cons.mp hp with rfl | hp
      · exact .tail _ (.head _)
      · rw [List.mem_singleton.mp hp]; exact .head _
    · intro i c t1 h tk own hil hc hoff F' N'
      obtain ⟨j, ds, ws, nn, u⟩ := c
      dsimp only at hc F' N' hoff ⊢
      obtain ⟨h1, h2, h3, h4, h5⟩ := hc
      have hwl : ws.length ≤ 65 := by (first | lia | omega)
      k_steps
      unfold Stop
      have N9 : News g L' h ((I, itO l j) :: (ln, listOf ws.toArray nn) :: own) := N'
      clear N'
      refine varint_ w mean mg mb (dp + 1) (un + 3) gd _ _ 205 _ [envX cn cs L a ccd cl] _ base g L' _ _ _ _ I l vs ns j ((ln, listOf ws.toArray nn) :: own) B1 F' X1 T1 N9 ?_ hl hi hb hlen h2 rfl (by (first | lia | omega)) (by (first | lia | omega)) ?_ ?_
      · intro p hp
        rcases List.mem_cons.mp hp with rfl | hp
        · exact Nat.ne_of_gt lIn
        · exact hoff p hp I (.head _)
      · intro v k t h' tk' hv hk0 hkn F2 N2
        clear F' N9
        k_steps
        rename_i h6 F6 N6
        have hle : (ws ++ [Value.int v t]).length ≤ i + 1 := by simp; (first | lia | omega)
        refine JS.mk_ ⟨j + k, ds ++ [v], ws ++ [.int v t], nn + 1, u⟩ F6 N6 ⟨by dsimp only; (first | lia | omega), by dsimp only; (first | lia | omega), h3.append (.cons _ _ .nil), hle, ?_⟩ (fun z hz => by simp only [if_neg hz]) (fun p hp => ?_) (fun p hp => ?_) hoff
        · dsimp only
          have e : ns.length + 1 - i = (ns.length + 1 - (i + 1)) + 1 := by (first | lia | omega)
          rw [e, numsF_succ', hv] at h5
          rw [List.append_assoc]
          exact h5
        · have e : (ws ++ [Value.int v t]).toArray = ws.toArray.push (.int v t) := by simp
          rw [← e]
          rcases List.mem_cons.mp hp with rfl | hp
          · exact .head _
          · rw [List.mem_singleton.mp hp]; exact .tail _ (.head _)
        · exact .tail _ (.tail _ hp)
      · intro hv e h' tk' g2 o FG2 R U
        have hnum : ds = nums ns := by
          have e : ns.length + 1 - i = (ns.length - i) + 1 := by (first | lia | omega)
          rw [e, numsF_succ', hv, List.append_nil] at h5
          exact h5
        have DL : KtsDicts ([envX cn cs L a ccd cl].filterMap (·.frame)) g := fun b hb => by
          obtain ⟨o, es, ep, ho, hd, _⟩ := F.ns
          rw [show b = L from List.mem_singleton.mp hb]
          exact ⟨o, es, ep, ho, hd⟩
        refine caught_SN0 (A₀ := ktrTop dp un gd cn cs L a ccd cl []) (T' := "StopIteration") R FG2 B1 U XB TB DL KtsTurn.refl (by k_is) (by boot_by_name) (by decide) (by rw [isSubtype_type]; kernel_rfl) kr_notTuple_Stop (by rw [isSubtype_type]; kernel_rfl) ?_ rfl rfl (by decide) (by with_unfolding_all passes_own)
        intro h'' g' TT F3 N3 K3 X3 T3 D3
        have hfin : UpT L g h'' ∧ g.get? ln = none ∧ h''.get? ln = some (listOf ws.toArray nn) := by
          have hN := N3 (ln, listOf ws.toArray nn) (.tail _ (.head _))
          refine ⟨⟨fun b o hb e => F3.keep _ _ (TT.other b o e fun hm => hb (List.mem_singleton.mp hm)), fun o e => ?_⟩, ?_, hN.1⟩
          · obtain ⟨sl, e'⟩ := TT.frame L o e (.head _)
            exact ⟨sl, F3.keep _ _ e'⟩
          · cases q : g.get? ln with
            | none => rfl
            | some o =>
              obtain ⟨sl, e'⟩ := TT.up q
              have := hN.2.2
              rw [e'] at this; cases this
        k_steps
        show Q (.ref ln) _
        exact hret ln ws nn h'' _ hfin.1 hfin.2.1 hfin.2.2 (hnum ▸ h3)
    · intro c u h tk hc F' N'
      obtain ⟨h1, h2, -⟩ := hc
      (first | lia | omega)

end Mine
end
section
open PySem PySem.W PySem.Spec PySem.Calls PyProof.Rows
set_option Elab.async false
set_option maxRecDepth 100000
set_option maxHeartbeats 8000000
namespace Mine
theorem slot_map_iter : Slot "map" "__iter__" "map.__iter__" :=
  .of (owner := "map") (n := "__iter__") (by rw [typeLookup_type, builtinLookup_eq_fast]; kernel_rfl) (by decide +kernel) (by decide +kernel) (by decide +kernel)
    (by first | exact .inl (by decide +kernel) | exact .inr (by decide +kernel)) (by rw [isSubtype_type]; kernel_rfl)
theorem slot_map_next : Slot "map" "__next__" "map.__next__" :=
  .of (owner := "map") (n := "__next__") (by rw [typeLookup_type, builtinLookup_eq_fast]; kernel_rfl) (by decide +kernel) (by decide +kernel) (by decide +kernel)
    (by first | exact .inl (by decide +kernel) | exact .inr (by decide +kernel)) (by rw [isSubtype_type]; kernel_rfl)
theorem slot_map_init : Slot "map" "__init__" "object.__init__" :=
  .of (owner := "object") (n := "__init__") (by rw [typeLookup_type, builtinLookup_eq_fast]; kernel_rfl) (by decide +kernel) (by decide +kernel) (by decide +kernel)
    (by first | exact .inl (by decide +kernel) | exact .inr (by decide +kernel)) (by rw [isSubtype_type]; kernel_rfl)
theorem entry_map_next : entryFor table "map.__next__" = some Builtin.«map.__next__» := entryFor_of_tree (by kernel_rfl)
theorem entry_map_new : entryFor table "map.__new__" = some Builtin.«map.__new__» := entryFor_of_tree (by kernel_rfl)
theorem entry_map_iter : entryFor table "map.__iter__" = some Builtin.«dict_keyiterator.__iter__» :=
  entryFor_alias (id' := "dict_keyiterator.__iter__") (by kernel_rfl) (by first | rfl | decide +kernel | (unfold String.splitOn; simp +decide [String.splitOnAux])) (by decide +kernel) (by kernel_rfl)
theorem mro_map : mroOf (.type "map") = pure [.type "map", .type "object"] := by rw [mroOf_type]; kernel_rfl
theorem lookup_map_new : typeLookup (.type "map") "__new__" = pure (some (.builtin "map.__new__")) := by rw [typeLookup_type, builtinLookup_eq_fast]; kernel_rfl
theorem called_map : TypeCalled "map" "map.__new__" "object.__init__" :=
  ⟨by decide +kernel, by decide +kernel, ⟨_, _, mro_map⟩, madeBy_type mro_map lookup_map_new (by decide +kernel), by decide +kernel, by rw [isSubtype_type]; kernel_rfl, slot_map_init⟩
theorem typeCall_map_2 (a b : Value) : checkTypeCall "map" ⟨[a, b], []⟩ = pure () := by kernel_rfl
theorem newCall_map_2 (a b : Value) : checkBuiltinCall "map.__new__" ⟨[.type "map", a, b], []⟩ = pure () := by kernel_rfl
theorem sub_map : isSubtype (.type "map") (.type "map") = pure true := by rw [isSubtype_type]; kernel_rfl
theorem nolen_map : typeLookup (.type "map") "__len__" = pure none := by rw [typeLookup_type, builtinLookup_eq_fast]; kernel_rfl
theorem nohint_map : typeLookup (.type "map") "__length_hint__" = pure none := by rw [typeLookup_type, builtinLookup_eq_fast]; kernel_rfl
theorem owner_map : Manifest.owners.lookup (String.ofList ['p', 'a', 'm'].reverse) = some Manifest.sig_map := by kernel_rfl
theorem args_map_next_1 (a : Value) : argsOk "map.__next__" ⟨[a], []⟩ := by
  unfold argsOk; rw [signature?_of (id := "map.__next__") (n := ['_', '_', 't', 'x', 'e', 'n', '_', '_']) (o := ['p', 'a', 'm']) (by kernel_rfl) owner_map]; kernel_rfl
theorem args_map_iter_1 (a : Value) : argsOk "map.__iter__" ⟨[a], []⟩ := by
  unfold argsOk; rw [signature?_of (id := "map.__iter__") (n := ['_', '_', 'r', 'e', 't', 'i', '_', '_']) (o := ['p', 'a', 'm']) (by kernel_rfl) owner_map]; kernel_rfl
abbrev mapH1 (h : Heap) (l : Addr) : Heap := h.push { cls := .type "list_iterator", data := .fields #[.ref l, .int 0 0] }
abbrev mapH2 (h : Heap) (l : Addr) : Heap := (mapH1 h l).push { cls := .type "tuple", data := .seq #[.ref h.objs.size] }
abbrev mapH3 (h : Heap) (l : Addr) (f : Value) : Heap := (mapH2 h l).push { cls := .type "map", data := .fields #[.ref (mapH1 h l).objs.size, f] }
theorem meets_map_new (f l : Addr) (xs : Array Value) :
    Meets (Builtin.«map.__new__» ⟨[.type "map", .ref f, .ref l], []⟩) (fun _ R s => s.heap.IsList l xs ∧ R (.ok (.ret (.ref (mapH2 s.heap l).objs.size))) { s with heap := mapH3 s.heap l (.ref f) }) :=
  .of_wp fun prog w A R s h => by
    obtain ⟨hp, g, d, tk, os⟩ := s; obtain ⟨hl, h⟩ := h
    have hsub := sub_map
    have hL : Heap.IsList (Shared.heap ⟨hp, g, d, tk, os⟩) l xs := hl
    wp_walk using wpAny_pyIter_list hL
    exact ⟨_, rfl, h⟩
section
variable {prog : Program} {w : World} {A : Around} {E : Value → Shared → Prop} {s : Shared}
theorem call_map {f l : Addr} {xs : Array Value} {h₀ : Heap} {L : Addr} {m : Str → Option Value} {news : List (Addr × Obj)} {Q : Value → Shared → Prop} (F : Fr h₀ L s.heap m) (N : News h₀ L s.heap news) (hl : s.heap.IsList l xs)
    (h : ∀ M T I h', Fr h₀ L h' m → News h₀ L h' ((M, ({ cls := .type "map", data := .fields #[.ref T, .ref f] } : Obj)) :: (T, ({ cls := .type "tuple", data := .seq #[.ref I] } : Obj)) :: (I, ({ cls := .type "list_iterator", data := .fields #[.ref l, .int 0 0] } : Obj)) :: news) →
      I < T → T < M → (∀ p ∈ news, p.1 < I) → Q (.ref M) { s with heap := h' }) : wpAny (model prog w) A (call (.type "map") [.ref f, .ref l]) Q E s := by
  refine callType_new called_map (by decide) (typeCall_map_2 _ _) (newCall_map_2 _ _) (fun obj => PySem.F.args_object_init_3 obj _ _) entry_map_new (meets_map_new f l xs) ⟨hl, ?_⟩
  refine ⟨⟨_, Heap.get?_push_size _ rfl, rfl⟩, ?_⟩
  have F1 := F.push (o := { cls := .type "list_iterator", data := .fields #[.ref l, .int 0 0] })
  have N1 := News.push F N { cls := .type "list_iterator", data := .fields #[.ref l, .int 0 0] } rfl
  have F2 := F1.push (o := { cls := .type "tuple", data := .seq #[.ref s.heap.objs.size] })
  have N2 := News.push F1 N1 { cls := .type "tuple", data := .seq #[.ref s.heap.objs.size] } rfl
  have F3 := F2.push (o := { cls := .type "map", data := .fields #[.ref (mapH1 s.heap l).objs.size, .ref f] })
  have N3 := News.push F2 N2 { cls := .type "map", data := .fields #[.ref (mapH1 s.heap l).objs.size, .ref f] } rfl
  exact h _ _ _ _ F3 N3 (by rw [Heap.size_push]; exact Nat.lt_succ_self _) (by rw [Heap.size_push (h := mapH1 s.heap l)]; exact Nat.lt_succ_self _) fun p hp => Heap.lt_size (N p hp).1

theorem map_item {M T I l : Addr} {f x : Value} {items : Array Value} {i : Nat} {Q : Option Value → Shared → Prop}
    (hM : s.heap.get? M = some { cls := .type "map", data := .fields #[.ref T, f] }) (hT : s.heap.get? T = some { cls := .type "tuple", data := .seq #[.ref I] })
    (hit : s.heap.IsListIter I l i) (hl : s.heap.IsList l items) (hx : items[i]? = some x) (hMI : M ≠ I)
    (h : ∀ h₁, h₁.IsListIter I l (i + 1) → Heap.SameBut I s.heap h₁ → wpAny (model prog w) A.in1 (call f [x]) (fun v s₂ => Q (some v) s₂) (fun _ _ => False) { s with heap := h₁ }) :
    wpAny (model prog w) A (pyNext (.ref M)) Q E s := by
  have hTy : s.TypeIs (.ref M) "map" := ⟨_, hM, rfl⟩
  unfold pyNext
  refine wpAny_bind (wpAny_attempt (wpAny_callSpecial?_slot (name := Str.ofString "__next__") hTy slot_map_next (wpAny_call_entry slot_map_next hTy entry_map_next ?_ (args_map_next_1 _))))
  show wpAny _ _ (field (.ref M) 0 >>= _) _ _ _
  refine wpAny_bind (wpAny_field hM rfl (x := .ref T) rfl ?_)
  refine wpAny_bind (wpAny_seqItems hT rfl ?_)
  dsimp only
  refine wpAny_bind ?_
  refine wpAny_arrayLoop ?_
  rw [List.forIn_cons]
  refine wpAny_bind (wpAny_bind (wpAny_holding (wpAny_nextOf_list_item hit hl hx fun h₁ hit₁ hs₁ => wpAny_pure ?_)))
  dsimp only
  rw [List.forIn_nil]
  refine wpAny_pure ?_
  have hM₁ := hs₁.extBut _ _ hMI hM
  show wpAny _ _ (field (.ref M) 1 >>= _) _ _ _
  refine wpAny_bind (wpAny_field hM₁ rfl (x := f) rfl ?_)
  refine wpAny_bind (wpAny_holding (wpAny_mono (h h₁ hit₁ hs₁) (fun v s₂ hq => ?_) fun _ _ e => e.elim))
  refine wpAny_bind (wpAny_letGo (wpAny_pure ⟨v, rfl, wpAny_pure hq⟩))

theorem map_end {M T I l : Addr} {f : Value} {items : Array Value} {i : Nat} {Q : Option Value → Shared → Prop} (hh : A.handled = none)
    (hM : s.heap.get? M = some { cls := .type "map", data := .fields #[.ref T, f] }) (hT : s.heap.get? T = some { cls := .type "tuple", data := .seq #[.ref I] })
    (hit : s.heap.IsListIter I l i) (hl : s.heap.IsList l items) (hx : items[i]? = none)
    (h : ∀ h₁, Heap.ExtBut I s.heap h₁ → Q none { s with heap := h₁ }) :
    wpAny (model prog w) A (pyNext (.ref M)) Q E s := by
  have hTy : s.TypeIs (.ref M) "map" := ⟨_, hM, rfl⟩
  unfold pyNext
  refine wpAny_bind (wpAny_attempt (wpAny_callSpecial?_slot (name := Str.ofString "__next__") hTy slot_map_next (wpAny_call_entry slot_map_next hTy entry_map_next ?_ (args_map_next_1 _))))
  show wpAny _ _ (field (.ref M) 0 >>= _) _ _ _
  refine wpAny_bind (wpAny_field hM rfl (x := .ref T) rfl ?_)
  refine wpAny_bind (wpAny_seqItems hT rfl ?_)
  dsimp only
  refine wpAny_bind ?_
  refine wpAny_arrayLoop ?_
  rw [List.forIn_cons]
  refine wpAny_bind (wpAny_bind (wpAny_holding (wpAny_nextOf_list_end hh hit hl hx fun h₁ e hs₁ he => ?_)))
  obtain ⟨o, ho, hc⟩ := he
  refine wpAny_bind (wpAny_isInstance (T := "StopIteration") (b := true) ⟨o, ho, hc⟩ isSubtype_stop ?_)
  exact wpAny_pure (h h₁ hs₁)

theorem iter_map {M T : Addr} {f : Value} {Q : Value → Shared → Prop} (hM : s.heap.get? M = some { cls := .type "map", data := .fields #[.ref T, f] }) (h : Q (.ref M) s) : wpAny (model prog w) A (pyIter (.ref M)) Q E s := by
  have hT : s.TypeIs (.ref M) "map" := ⟨_, hM, rfl⟩
  refine wpAny_pyIter_slot hT slot_map_iter (wpAny_call_entry slot_map_iter hT entry_map_iter ?_ (args_map_iter_1 _))
  show wpAny _ _ (ret (.ref M)) _ _ s
  exact wpAny_pure ⟨_, rfl, "map", _, hT, slot_map_next.lookup, h⟩

/-- a map over a list whose calls change nothing that stands -/
theorem walks_map {M T I l : Addr} {f : Value} {items : Array Value} {H : Heap} {P : Nat → Value → Prop} (hh : A.handled = none)
    (hM : H.get? M = some { cls := .type "map", data := .fields #[.ref T, f] }) (hT : H.get? T = some { cls := .type "tuple", data := .seq #[.ref I] }) (hI : I < H.objs.size) (hl : H.IsList l items) (hMI : M ≠ I) (hTI : T ≠ I) (hlI : l ≠ I)
    (hc : ∀ i x (s₁ : Shared) (Q E : Value → Shared → Prop), items[i]? = some x → (∀ b o, b ≠ I → H.get? b = some o → s₁.heap.get? b = some o) →
      (∀ v h' tk, P i v → (∀ b o, s₁.heap.get? b = some o → h'.get? b = some o) → Q v { s₁ with heap := h', toks := tk }) → wpAny (model prog w) A.in1 (call f [x]) Q E s₁) :
    Walks prog w A M (List.range H.objs.size) [I] items.size P (fun i h => (∀ b o, b ≠ I → H.get? b = some o → h.get? b = some o) ∧ h.IsListIter I l i) where
  sub := fun b hb => List.mem_range.mpr ((List.mem_singleton.mp hb) ▸ hI)
  frame := fun i h h' hst hk => ⟨fun b o hb e => hk b (List.mem_range.mpr (Heap.lt_size e)) o (hst.1 b o hb e), hst.2.at fun o e => hk I (List.mem_range.mpr hI) o e⟩
  item := fun i s Q E hi hst hQ => by
    obtain ⟨hk, hit⟩ := hst
    refine map_item (hk _ _ hMI hM) (hk _ _ hTI hT) hit (hl.at fun o e => hk _ o hlI e) (Array.getElem?_eq_getElem hi) hMI fun h₁ hit₁ hs₁ => ?_
    refine hc i _ _ _ _ (Array.getElem?_eq_getElem hi) (fun b o hb e => hs₁.extBut b o hb (hk b o hb e)) fun v h' tk hP up => ?_
    exact hQ v h' tk hP ⟨fun b o hb e => up b o (hs₁.extBut b o hb (hk b o hb e)), hit₁.at fun o e => up I o e⟩ fun b o hb e => up b o (hs₁.extBut b o (fun q => hb (List.mem_singleton.mpr q)) e)
  done := fun s Q E hst hQ => by
    obtain ⟨hk, hit⟩ := hst
    exact map_end hh (hk _ _ hMI hM) (hk _ _ hTI hT) hit (hl.at fun o e => hk _ o hlI e) (by simp) fun h₁ hs₁ => hQ h₁ s.toks fun b o hb e => hs₁ b o (fun q => hb (List.mem_singleton.mpr q)) e
  self := fun i s Q E hst hQ => iter_map (hst.1 _ _ hMI hM) hQ

section
variable {I : Addr} {fp wr : List Addr} {G : Array GenState → Array GenState → Prop} {n : Nat} {P : Nat → Value → Prop} {St : Nat → Shared → Prop}
theorem collect_map {Q : List Value → Shared → Prop} (W : WalksS prog w A.in1 I fp wr G n P St) (hT : ∀ i s, St i s → s.TypeIs (.ref I) "map") (hst : St 0 s) (hfp : ∀ b ∈ fp, b < s.heap.objs.size) (hI : I ∈ fp)
    (hQ : ∀ s' acc, Moved wr G s s' → ItemsOf P acc n → Q acc.toList s') (hn : n ≤ sizeLine) : wpAny (model prog w) A (collect (.ref I)) Q E s := by
  have hSf : s.heap.objs.size ∉ fp := fun hm => Nat.lt_irrefl _ (hfp _ hm)
  have hSI : s.heap.objs.size ≠ I := fun e => hSf (e ▸ hI)
  unfold collect
  refine wpAny_bind (wpAny_runValue (codeAny_builtin PySem.F.entry_proto_collect ?_))
  rw [Around.under_plainId PySem.F.plain_proto_collect _]
  show wpAny _ A.in1 (newList [] >>= fun l => again (.builtin "list.__iadd__" ⟨[l, .ref I], []⟩)) _ _ s
  refine wpAny_bind (wpAny_newObj_type ?_)
  refine wpAny_pure ⟨plainId_quiet PySem.F.plain_list_iadd _, codeAny_builtin PySem.F.entry_list_iadd ?_⟩
  rw [Around.under_plainId PySem.F.plain_list_iadd _]
  generalize hH : s.heap.push { cls := .type "list", dict := none, data := .seq ([] : List Value).toArray } = H
  have up0 : ∀ b o, s.heap.get? b = some o → H.get? b = some o := fun b o e => hH ▸ Heap.get?_push_of_some _ e
  have hS₁ : H.get? s.heap.objs.size = some { cls := .type "list", data := .seq ([] : List Value).toArray } := hH ▸ Heap.get?_push_size _ rfl
  have hst₁ := W.frame 0 s H s.toks hst (Nat.le_refl _) fun b _ o e => up0 b o e
  show wpAny _ A.in1 (Builtin.List.listExtendWith (.ref s.heap.objs.size) (.ref I) (.ref s.heap.objs.size)) _ _ _
  unfold Builtin.List.listExtendWith
  refine wpAny_bind (wpAny_typeOf (hT 0 _ hst₁) ?_)
  rw [if_neg (by simp [Builtin.List.listSameRef, hSI])]
  refine wpAny_bind (W.self 0 _ _ _ hst₁ ?_)
  refine wpAny_bind (wpAny_holding ?_)
  unfold Builtin.List.listLengthHint
  refine wpAny_bind (wpAny_specialOf (hT 0 _ hst₁) nolen_map ?_)
  show wpAny _ A.in1 (specialOf (Value.ref I) (Str.ofString "__length_hint__") >>= _) _ _ _
  refine wpAny_bind (wpAny_specialOf (hT 0 _ hst₁) nohint_map ?_)
  refine wpAny_pure ?_
  show wpAny _ A.in1 (rule "list.extend.makes-room" >>= fun _ => (updateSeq s.heap.objs.size (·.push .none) >>= fun _ => updateSeq s.heap.objs.size (·.pop)) >>= fun _ =>
    again (.builtin "list.extend.loop" ⟨[.ref s.heap.objs.size, .ref I, .ref s.heap.objs.size], []⟩)) _ _ _
  refine wpAny_bind (wpAny_rule (wpAny_bind (wpAny_bind (wpAny_updateSeq hS₁ rfl ?_))))
  have hS₂ := Heap.get?_update_self (Obj.mapSeq (·.push Value.none)) hS₁ rfl
  refine wpAny_updateSeq hS₂ rfl ?_
  have hS₃ := Heap.get?_update_self (Obj.mapSeq (·.pop)) hS₂ rfl
  have oth : ∀ b o, b ≠ s.heap.objs.size → H.get? b = some o → ((H.update s.heap.objs.size (Obj.mapSeq (·.push Value.none))).update s.heap.objs.size (Obj.mapSeq (·.pop))).get? b = some o :=
    fun b o hb e => (Heap.get?_update_other _ _ (Ne.symm hb)).trans ((Heap.get?_update_other _ _ (Ne.symm hb)).trans e)
  generalize (H.update s.heap.objs.size (Obj.mapSeq (·.push Value.none))).update s.heap.objs.size (Obj.mapSeq (·.pop)) = H₃ at *
  have up3 : ∀ b o, s.heap.get? b = some o → H₃.get? b = some o := fun b o e => oth b o (Nat.ne_of_lt (Heap.lt_size e)) (up0 b o e)
  refine wpAny_pure ⟨plainId_quiet PySem.F.plain_extend_loop _, codeAny_extend_loopS W hn _ hSf _ n 0 _ _ _ rfl (Nat.zero_le _)
    (W.frame 0 s H₃ s.toks hst (Nat.le_refl _) fun b _ o e => up3 b o e) hS₃ (ItemsOf.nil P) fun s' acc' c' hm hS' hacc => ?_⟩
  show wpAny _ A (load s.heap.objs.size >>= _) _ _ s'
  refine wpAny_bind (wpAny_load hS' ?_)
  refine wpAny_pure (hQ s' acc' ⟨fun b o hb e => ?_, hm.gens, hm.drawn, hm.os, hm.toks⟩ hacc)
  refine hm.heap b o (fun q => ?_) (up3 b o e)
  rcases List.mem_cons.mp q with q | q
  · exact absurd (Heap.lt_size e) (q ▸ Nat.lt_irrefl _)
  · exact hb q

theorem tuple_new_map {Q₁ : Value → Shared → Prop} (W : WalksS prog w A.in1.in1 I fp wr G n P St) (hT : ∀ i s, St i s → s.TypeIs (.ref I) "map") (hst : St 0 s) (hfp : ∀ b ∈ fp, b < s.heap.objs.size) (hI : I ∈ fp)
    (h : ∀ s' acc, Moved wr G s s' → ItemsOf P acc n → Q₁ (.ref s'.heap.objs.size) { s' with heap := s'.heap.push { cls := .type "tuple", data := .seq acc } }) (hsz : n ≤ sizeLine) :
    codeAny (model prog w) A (.call (.builtin "tuple.__new__") ⟨[.type "tuple", .ref I], []⟩) (wants Q₁ E) s := by
  refine codeAny_of_tree ?_
  show wpAny _ A.in1 (do checkBuiltinCall "tuple.__new__" ⟨[.type "tuple", .ref I], []⟩; again (.builtin "tuple.__new__" ⟨[.type "tuple", .ref I], []⟩)) _ _ s
  refine wpAny_bind (wpAny_of_eq (PySem.F.newCall_tuple_1 _) (wpAny_pure ⟨plainId_quiet PySem.F.plain_tuple_new _, codeAny_builtin PySem.F.entry_tuple_new ?_⟩))
  rw [Around.under_plainId PySem.F.plain_tuple_new _]
  have hsub := sub_tuple_self
  have hinit := init_tuple_lookup
  have hmh := madeHere_tuple
  have hTI := hT 0 s hst
  wp_walk using wpAny_typeOf hTI, collect_map (hn := hsz) W hT hst hfp hI
  intro s' acc hm hacc
  show wpAny _ _ (Builtin.Tuple.tupleExact acc.toList.toArray >>= fun v => ret v) _ _ _
  unfold Builtin.Tuple.tupleExact
  have e : acc.toList.toArray = acc := by simp
  rw [e]
  exact wpAny_bind (wpAny_newObj_type (wpAny_pure (h s' acc hm hacc)) (by show acc.size ≤ sizeLine; rw [hacc.1]; exact hsz))

theorem tuple_map {Q : Value → Shared → Prop} (W : WalksS prog w A.in1.in1.in1 I fp wr G n P St) (hT : ∀ i s, St i s → s.TypeIs (.ref I) "map") (hst : St 0 s) (hfp : ∀ b ∈ fp, b < s.heap.objs.size) (hI : I ∈ fp)
    (hQ : ∀ s' acc, Moved wr G s s' → ItemsOf P acc n → Q (.ref s'.heap.objs.size) { s' with heap := s'.heap.push { cls := .type "tuple", data := .seq acc } }) (hsz : n ≤ sizeLine) :
    wpAny (model prog w) A (call (.type "tuple") [.ref I]) Q E s := by
  refine callType_codes (Q₁ := fun obj s₁ => s₁.TypeIs obj "tuple" ∧ Q obj s₁) PySem.F.called_tuple (PySem.F.typeCall_tuple_1 _) PySem.F.entry_object_init
    (tuple_new_map W hT hst hfp hI (fun s' acc hm hacc => ⟨⟨_, Heap.get?_push_size _ rfl, rfl⟩, hQ s' acc hm hacc⟩) hsz) fun obj s₁ h₁ => ?_
  exact ⟨h₁.1, PySem.F.args_object_init_2 obj _, object_init_meets PySem.F.called_tuple.init.lookup PySem.F.called_tuple.made (by decide) prog w A.in1 _ s₁ ⟨h₁.1, rfl, h₁.2⟩⟩
end
end
end Mine
end
section
open PySem PySem.W PySem.Spec PySem.Calls PyProof.Rows PySem.Builtin
set_option Elab.async false
set_option maxRecDepth 100000
set_option maxHeartbeats 8000000
namespace Mine
section
variable {prog : Program} {w : World} {A : Around} {E : Value → Shared → Prop} {s : Shared} {x y : PySem.Str} {t u : Tok} {Q : Value → Shared → Prop}
open PySem.Builtin.Str in
theorem split_push (hy : (y.length == 0) = false) (hsz : x.length + 2 ≤ sizeLine)
    (h : ∀ l k, l.map (·.1) = Txt.split x y → Q (.ref s.heap.objs.size) { s with heap := s.heap.push { cls := .type "list", data := .seq (strValues l).toArray }, toks := k }) :
    wpAny (model prog w) A (call (.builtin "str.split") [.str x t, .str y u]) Q E s := by
  have hn : (partsBetween x (occurrences x y 0 x.length (x.length + 1)) y.length).length ≤ sizeLine := by
    have e1 := StrLaws.occ_length_le x y 0 x.length (x.length + 1)
    rw [length_partsBetween]; (first | lia | omega)
  cases h1 : (decide (x.length < y.length) || decide (strKind x < strKind y)) with
  | true => exact call_meets PySem.F.slot_str_split (typeIs_str _ _ _) PySem.F.entry_str_split (PySem.F.args_str_split_2 _ _) (meets_str_split_cannot_occur x y t u h1) (h [(x, t)] s.toks (if_pos h1).symm)
  | false =>
    cases hf : (occurrences x y 0 x.length (x.length + 1)).isEmpty with
    | true => exact call_meets PySem.F.slot_str_split (typeIs_str _ _ _) PySem.F.entry_str_split (PySem.F.args_str_split_2 _ _) (meets_str_split_not_found x y t u h1 hy hf) (h [(x, t)] s.toks ((if_neg (by rw [h1]; decide)).trans (if_pos hf)).symm)
    | false =>
      refine call_meets PySem.F.slot_str_split (typeIs_str _ _ _) PySem.F.entry_str_split (PySem.F.args_str_split_2 _ _) (meets_str_split_sep x y t u h1 hy hf (by (first | lia | omega)) hn) ?_
      show wants Q E _ { s with toks := _, heap := s.heap.push { cls := .type "list", data := .seq (strsFrom s.toks (partsBetween x (occurrences x y 0 x.length (x.length + 1)) y.length)).toArray } }
      rw [strsFrom_eq]
      exact h (numbered s.toks _) _ ((numbered_texts _ _).trans ((if_neg (by rw [h1]; decide)).trans (if_neg (by rw [hf]; decide))).symm)
end
end Mine
end
section
open PySem PySem.W PySem.Spec PySem.Calls PyProof.Rows
set_option Elab.async false
set_option maxRecDepth 100000
set_option maxHeartbeats 8000000
namespace Mine
section
variable {prog : Program} {w : World} {A : Around}

/-- the wanted end of a test: its answer is told, nothing turned -/
def TestPost (b₀ : Bool) (s₂ : Shared) (b : Bool) (s' : Shared) : Prop := b = b₀ ∧ ∃ h' tk, s' = { s₂ with heap := h', toks := tk } ∧ Up s₂.heap h'
theorem TestPost.mk {b₀ b : Bool} {s₂ : Shared} {tk : Nat} (h : b = b₀) : TestPost b₀ s₂ b { s₂ with toks := tk } := ⟨h, s₂.heap, tk, rfl, Up.refl _⟩

theorem filter_take {vs : List Value} {kp : Value → Bool} {i : Nat} {v : Value} (h : vs[i]? = some v) : (vs.take (i + 1)).filter kp = (vs.take i).filter kp ++ (if kp v = true then [v] else []) := by
  rw [List.take_add_one, h, List.filter_append]
  show _ ++ List.filter kp [v] = _
  cases hk : kp v <;> simp [hk]

theorem comp_loopF {R : Result → Shared → Prop} {s : Shared} {iter test : Expr} {x : Str} {px pe : Pos} {scope : Scope} {pos : Pos} {I D : Addr} {fp wr : List Addr} {vs : List Value} {kp : Value → Bool} {St : Nat → Heap → Prop}
    {cenv : Env} {m : Str → Option Value} (W : Walks prog w A I fp wr vs.length (fun i v => vs[i]? = some v) St)
    (hx : cenv.kindOf x = some .local) (hp : (cenv.scope.kind == .class || (cenv.scope.kind == .module && cenv.locals != cenv.globals)) = false)
    (hname : ∀ (v : Value) (s₂ : Shared) (m₂ : Str → Option Value) (Q : Value → Shared → Prop) (E : Value → Shared → Prop), s₂.heap.Ns cenv.locals m₂ → m₂ x = some v → Q v s₂ → wpAny (model prog w) A (eval (.Name x pe) cenv) Q E s₂)
    (hDC : D ≠ cenv.locals) (hDf : D ∉ fp) (hCf : cenv.locals ∉ fp)
    (hst : St 0 s.heap) (hacc : s.heap.PlainList D #[]) (hn : s.heap.Ns cenv.locals m)
    (htest : ∀ (i : Nat) (v : Value) (s₂ : Shared) m₂ (E' : Value → Shared → Prop), vs[i]? = some v → s₂.heap.Ns cenv.locals m₂ → m₂ x = some v → (∀ b o, b ≠ cenv.locals → b ∉ wr → b ≠ D → s.heap.get? b = some o → s₂.heap.get? b = some o) →
      wpAny (model prog w) A (isTrue test cenv (eval test cenv)) (TestPost (kp v) s₂) E' s₂)
    (hR : ∀ h' tk m' ys, h'.Ns cenv.locals m' → h'.PlainList D ys → ys.toList = vs.filter kp → (∀ b o, b ≠ cenv.locals → b ∉ wr → b ≠ D → s.heap.get? b = some o → h'.get? b = some o) → R (.ok .next) { s with heap := h', toks := tk })
    (hsz : vs.length ≤ sizeLine) :
    codeAny (model prog w) A (.compLoop (.ListComp (.Name x pe) [⟨.Name x px, iter, [test], 0⟩] scope pos) 0 (.ref I) (.ref D) cenv) R s := by
  refine codeAny_compLoop_tests
    (fun k s' => ∃ i h' tk m', ∃ ys : Array Value, s' = { s with heap := h', toks := tk } ∧ St i h' ∧ h'.PlainList D ys ∧ h'.Ns cenv.locals m' ∧ ys.toList = (vs.take i).filter kp ∧ i ≤ vs.length ∧ k = vs.length + 1 - i ∧
      (∀ b o, b ≠ cenv.locals → b ∉ wr → b ≠ D → s.heap.get? b = some o → h'.get? b = some o)) ?_ (vs.length + 1)
    ⟨0, s.heap, s.toks, m, #[], rfl, hst, hacc, hn, by simp, Nat.zero_le _, rfl, fun _ _ _ _ _ e => e⟩
  rintro k s' ⟨i, H, tk, m', ys, rfl, hst', hacc', hn', hF, hi, rfl, hk⟩
  have hCw : cenv.locals ∉ wr := fun h => hCf (W.sub _ h)
  have hDw : D ∉ wr := fun h => hDf (W.sub _ h)
  by_cases hlt : i < vs.length
  · refine W.item i _ _ _ hlt hst' fun v h₁ tk₁ hPv hst₁ hk₁ => ?_
    refine wpAny_assign_Name (wpAny_storeName_local hx (hn'.at' fun o e => hk₁ _ o hCw e) (fun h₂ hn₂ hs₂ => ?_) hp)
    have up₂ : ∀ b o, b ≠ cenv.locals → b ∉ wr → H.get? b = some o → h₂.get? b = some o := fun b o hbC hbf e => hs₂.extBut b o hbC (hk₁ b o hbf e)
    have hst₂ : St (i + 1) h₂ := W.frame _ _ _ hst₁ fun b hb o e => hs₂.extBut b o (fun h => hCf (h ▸ hb)) e
    refine wpAny_tests_one ?_
    refine wpAny_mono (htest i v _ _ _ hPv hn₂ (by simp) (fun b o hbC hbf hbD e => up₂ b o hbC hbf (hk b o hbC hbf hbD e))) (fun okb s₃ h₃ => ?_) fun _ _ e => e
    obtain ⟨rfl, h₃, tk₃, rfl, up₃⟩ := h₃
    dsimp only at up₃ ⊢
    have hst₃ : St (i + 1) h₃ := W.frame _ _ _ hst₂ fun b hb o e => up₃ b o e
    have hacc₃ : h₃.PlainList D ys := hacc'.at fun o e => up₃ _ o (up₂ D o hDC hDw e)
    have hn₃ := hn₂.at' fun o e => up₃ _ o e
    have hlen : ys.size ≤ i := by
      rw [← Array.length_toList, hF]
      refine Nat.le_trans (List.length_filter_le _ _) ?_
      rw [List.length_take]; (first | lia | omega)
    have hft := filter_take (kp := kp) hPv
    cases hkp : kp v with
    | false =>
      simp only [Bool.false_eq_true, if_false]
      rw [hkp, if_neg (by decide), List.append_nil] at hft
      exact ⟨vs.length + 1 - (i + 1), by (first | lia | omega), i + 1, h₃, tk₃, _, ys, rfl, hst₃, hacc₃, hn₃, by rw [hF, hft], hlt, rfl, fun b o hbC hbf hbD e => up₃ _ _ (up₂ b o hbC hbf (hk b o hbC hbf hbD e))⟩
    | true =>
      simp only [if_true]
      rw [hkp, if_pos rfl] at hft
      refine hname v _ _ _ _ hn₃ (by simp) ?_
      refine wpAny_list_append_plain (hsz := by show _ ≤ _; (first | lia | omega)) hacc₃ fun h₅ hl₅ hs₅ => ?_
      refine ⟨vs.length + 1 - (i + 1), by (first | lia | omega), i + 1, h₅, tk₃, _, ys.push v, rfl, W.frame _ _ h₅ hst₃ fun b hb o e => hs₅.extBut b o (fun h => hDf (h ▸ hb)) e, hl₅, hn₃.sameBut hs₅ (Ne.symm hDC), by rw [Array.toList_push, hF, hft], hlt, rfl,
        fun b o hbC hbf hbD e => hs₅.extBut b o hbD (up₃ _ _ (up₂ b o hbC hbf (hk b o hbC hbf hbD e)))⟩
  · have hin : i = vs.length := by (first | lia | omega)
    subst hin
    refine W.done _ _ _ hst' fun h₁ tk₁ hk₁ => ?_
    rw [List.take_length] at hF
    exact hR h₁ tk₁ m' ys (hn'.at' fun o e => hk₁ _ o hCw e) (hacc'.at fun o e => hk₁ _ o hDw e) hF fun b o hbC hbf hbD e => hk₁ b o hbf (hk b o hbC hbf hbD e)
end

section
variable {prog : Program} {w : World} {A : Around} {E : Value → Shared → Prop} {env : Env}
/-- [x for x in l if test] -/
theorem comp_filter {s : Shared} {iter test : Expr} {x : Str} {px pe : Pos} {scope : Scope} {cl : List (Str × Addr)} {pos : Pos} {Q : Value → Shared → Prop} {l : Addr} {vs : List Value} {kp : Value → Bool}
    (hh : A.handled = none) (hclos : closureFor scope env = pure cl) (hcell : ∀ y ∈ scope.names, y.2 ≠ .cell) (hkind : scope.kind = .function)
    (hnames : ∀ y ∈ scope.names, y.2 = .local → scope.names.lookup y.1 = some .local) (hx : scope.names.lookup x = some .local) (hd : (x == ("__debug__" : Str)) = false)
    (hs : ∀ x, foldedSetIterable iter env x = pure x) (hsz : vs.length ≤ sizeLine)
    (h : wpAny (model prog w) A (eval iter env) (fun xv s₁ => xv = .ref l ∧ s₁ = s) E s) (hl : s.heap.IsList l vs.toArray)
    (htest : ∀ C (i : Nat) (v : Value) (s₂ : Shared) m₂ (E' : Value → Shared → Prop), vs[i]? = some v → s₂.heap.Ns C m₂ → m₂ x = some v → (∀ b o, s.heap.get? b = some o → s₂.heap.get? b = some o) →
      wpAny (model prog w) A (isTrue test (compEnvC scope cl C env) (eval test (compEnvC scope cl C env))) (TestPost (kp v) s₂) E' s₂)
    (hQ : ∀ D h' tk k, Up s.heap h' → s.heap.get? D = none → h'.get? D = some (listOf (vs.filter kp).toArray k) → Q (.ref D) { s with heap := h', toks := tk }) :
    wpAny (model prog w) A (eval (.ListComp (.Name x pe) [⟨.Name x px, iter, [test], 0⟩] scope pos) env) Q E s := by
  rw [eval_ListComp]
  refine wpAny_comprehension_free (use := none) rfl hs hclos hkind hnames (wpAny_mono h (fun xv s₁ h₁ => ?_) fun _ _ e => e)
  obtain ⟨rfl, rfl⟩ := h₁
  have hlt : l < s₁.heap.objs.size := by obtain ⟨_, e, _⟩ := id hl; exact Heap.lt_size e
  refine wpAny_pyIter_list hl ?_
  have W := Walks.list (prog := prog) (w := w) hh s₁.heap.objs.size l (Nat.ne_of_lt hlt) vs.toArray
  have hst0 : (s₁.heap.push { cls := .type "list_iterator", data := .fields #[.ref l, .int 0 0] }).IsListIter s₁.heap.objs.size l 0 ∧ (s₁.heap.push { cls := .type "list_iterator", data := .fields #[.ref l, .int 0 0] }).IsList l vs.toArray :=
    ⟨⟨_, Heap.get?_push_size _ rfl, rfl, rfl⟩, hl.at fun o e => Heap.get?_push_of_some _ e⟩
  generalize hH1 : s₁.heap.push { cls := .type "list_iterator", data := .fields #[.ref l, .int 0 0] } = H1 at hst0 ⊢
  generalize hI : s₁.heap.objs.size = I at W hst0 ⊢
  have hz1 : H1.objs.size = I + 1 := by rw [← hH1, Heap.size_push, hI]
  have up1 : ∀ b o, s₁.heap.get? b = some o → H1.get? b = some o := fun b o e => hH1 ▸ Heap.get?_push_of_some _ e
  have hlI : l < I := hI ▸ hlt
  refine wpAny_newObj_type (wpAny_newFunctionEnv hcell (by intro y hy; simp at hy) (fun h₁ hns₁ hsb₁ => ?_) hkind)
  dsimp only at hns₁ hsb₁ ⊢
  generalize hH2 : H1.push { cls := .type "list", dict := none, data := .seq ([] : List Value).toArray } = H2 at hns₁ hsb₁ ⊢
  have hC : H2.objs.size = I + 2 := by rw [← hH2, Heap.size_push, hz1]
  have hDC : H1.objs.size ≠ H2.objs.size := by rw [hC, hz1]; exact Nat.ne_of_lt (Nat.lt_succ_self _)
  have old : ∀ b o, H1.get? b = some o → h₁.get? b = some o := fun b o e => hsb₁.extBut b o (Nat.ne_of_lt (by rw [hC]; exact Nat.lt_succ_of_lt (hz1 ▸ Heap.lt_size e))) (Heap.get?_push_of_some _ (hH2 ▸ Heap.get?_push_of_some _ e))
  have hacc : h₁.PlainList H1.objs.size #[] := ⟨_, hsb₁.extBut _ _ hDC (Heap.get?_push_of_some _ (hH2 ▸ Heap.get?_push_size _ rfl))⟩
  have hst₁ := W.frame _ _ h₁ hst0 fun b _ o e => old b o e
  have ltI : ∀ b, b < I → b ≠ I ∧ b ≠ H1.objs.size ∧ b ≠ H2.objs.size := fun b h =>
    ⟨Nat.ne_of_lt h, by rw [hz1]; exact Nat.ne_of_lt (Nat.lt_succ_of_lt h), by rw [hC]; exact Nat.ne_of_lt (Nat.lt_succ_of_lt (Nat.lt_succ_of_lt h))⟩
  have ltS : ∀ b o, s₁.heap.get? b = some o → b ≠ I ∧ b ≠ H1.objs.size ∧ b ≠ H2.objs.size := fun b o e => ltI b (hI ▸ Heap.lt_size e)
  have hL3 := ltI l hlI
  have hIH1 : H1.objs.size ≠ I := by rw [hz1]; exact Nat.ne_of_gt (Nat.lt_succ_self _)
  have hIH2 : H2.objs.size ≠ I := by rw [hC]; exact Nat.ne_of_gt (Nat.lt_succ_of_lt (Nat.lt_succ_self _))
  have loop : ∀ s₃ : Shared, s₃ = { s₁ with heap := h₁, toks := s₁.toks + ([] : List (Str × Value)).length } →
      codeAny (model prog w) A (.compLoop (.ListComp (.Name x pe) [⟨.Name x px, iter, [test], 0⟩] scope pos) 0 (.ref I) (.ref H1.objs.size) (compEnvC scope cl H2.objs.size env))
        (compPost (model prog w) A E none Q (.ref H1.objs.size) H2.objs.size) s₃ := by
    rintro s₃ rfl
    have W' : Walks prog w A I [I, l] [I] vs.length (fun i v => vs[i]? = some v) (fun i h => h.IsListIter I l i ∧ h.IsList l vs.toArray) := by simpa using W
    refine comp_loopF (cenv := compEnvC scope cl H2.objs.size env) (vs := vs) (kp := kp) W' (lookup_relabel_local hx) (by simp [compEnvC, relabel, hkind])
      (fun v s₂ m₂ Q E hn hv h => nameC_L hn hv hkind (lookup_relabel_local hx) hd h) hDC (by simp [hIH1, Ne.symm hL3.2.1]) (by show H2.objs.size ∉ [I, l]; simp [hIH2, Ne.symm hL3.2.2]) hst₁ hacc hns₁ ?_ ?_ hsz
    · intro i v s₂ m₂ E' hv hn hm hk
      exact htest _ i v s₂ m₂ E' hv hn hm fun b o e => by
        have h3 := ltS b o e
        exact hk b o h3.2.2 (fun q => h3.1 (List.mem_singleton.mp q)) h3.2.1 (old b o (up1 b o e))
    · intro h' tk m' ys hn hpl hys hk
      refine ⟨m', hn, fun h'' hs'' => ?_⟩
      obtain ⟨k, hpl'⟩ := hpl.extBut hs''.extBut hDC
      have hy : ys = (vs.filter kp).toArray := by rw [← hys]
      rw [hy] at hpl'
      refine hQ H1.objs.size h'' tk k (fun b o e => ?_) ?_ hpl'
      · have h3 := ltS b o e
        exact hs''.extBut b o h3.2.2 (hk b o h3.2.2 (fun q => h3.1 (List.mem_singleton.mp q)) h3.2.1 (old b o (up1 b o e)))
      · cases e : s₁.heap.get? H1.objs.size with
        | none => rfl
        | some o => exact absurd rfl (ltS _ _ e).2.1
  exact codeAny_compStart_list (loop _ rfl) (W.self 0 _ _ _ hst₁ (loop _ rfl))
end
end Mine
end
section
open PySem PySem.W PySem.Spec PySem.Calls PyProof.Rows
set_option Elab.async false
set_option maxRecDepth 100000
set_option maxHeartbeats 8000000
namespace Mine
section
variable {prog : Program} {w : World} {A : Around} {E : Value → Shared → Prop} {s : Shared}

theorem min_end {R : Result → Shared → Prop} {I l B : Addr} {x y v : Value} {k : Nat} (hh : A.handled = none) (hit : s.heap.IsListIter I l 2) (hl : s.heap.IsList l #[x, y]) (hB : s.heap.get? B = some { cls := .type "list", dict := none, data := .seq #[v, v] k, slots := #[] })
    (hBI : B ≠ I) (hR : ∀ h' tk, (∀ b o, b ≠ I → b ≠ B → s.heap.get? b = some o → h'.get? b = some o) → R (.ok (.ret v)) { s with heap := h', toks := tk }) :
    codeAny (model prog w) A (.builtin "min.loop" ⟨[.ref I, .none, .ref B], []⟩) R s := by
  refine codeAny_builtin PySem.F.entry_min_loop ?_
  rw [Around.under_plainId PySem.F.plain_min_loop _]
  show wpAny _ A.in1 (seqItems? (.ref B) >>= _) _ _ s
  refine wpAny_bind (wpAny_seqItems hB rfl ?_)
  show wpAny _ A.in1 (tryCatch (pyNext (.ref I)) _ >>= _) _ _ s
  refine wpAny_bind (wpAny_tryCatch (wpAny_pyNext_list_end hh hit hl rfl fun h₁ he₁ => ?_))
  have hB' := he₁ _ _ hBI hB
  show wpAny _ A.in1 (updateSeq B (fun _ => #[]) >>= _) _ _ _
  refine wpAny_bind (wpAny_updateSeq hB' rfl (wpAny_bind (wpAny_letGo (wpAny_pure ?_))))
  exact hR _ s.toks fun b o hb1 hb2 e => (Heap.get?_update_other _ _ (Ne.symm hb2)).trans (he₁ b o hb1 e)
theorem min_second {R : Result → Shared → Prop} {I l B : Addr} {x y : Value} {k : Nat} {b₀ : Bool} (hh : A.handled = none) (hit : s.heap.IsListIter I l 1) (hl : s.heap.IsList l #[x, y]) (hB : s.heap.get? B = some { cls := .type "list", dict := none, data := .seq #[x, x] k, slots := #[] })
    (hBI : B ≠ I) (hlI : l ≠ I) (hlB : l ≠ B)
    (hcmp : ∀ (s₁ : Shared) (Q E : Value → Shared → Prop), (∀ b o, b ≠ I → b ≠ B → s.heap.get? b = some o → s₁.heap.get? b = some o) → Q (.bool b₀) s₁ → wpAny (model prog w) A.in1 (richCompare .Lt y x) Q E s₁)
    (hR : ∀ h' tk, (∀ b o, b ≠ I → b ≠ B → s.heap.get? b = some o → h'.get? b = some o) → R (.ok (.ret (if b₀ = true then y else x))) { s with heap := h', toks := tk }) :
    codeAny (model prog w) A (.builtin "min.loop" ⟨[.ref I, .none, .ref B], []⟩) R s := by
  have hname : (toString "min" ++ toString ".loop" : String) = "min.loop" := by decide
  refine codeAny_builtin PySem.F.entry_min_loop ?_
  rw [Around.under_plainId PySem.F.plain_min_loop _]
  show wpAny _ A.in1 (seqItems? (.ref B) >>= _) _ _ s
  refine wpAny_bind (wpAny_seqItems hB rfl ?_)
  show wpAny _ A.in1 (tryCatch (pyNext (.ref I)) _ >>= _) _ _ s
  refine wpAny_bind (wpAny_tryCatch (wpAny_pyNext_list_item hit hl (x := y) rfl fun h₁ hit₁ hs₁ => ?_))
  have hB' := hs₁.extBut _ _ hBI hB
  show wpAny _ A.in1 (tryCatch (holding [y, y] (richCompare .Lt y x >>= _)) _ >>= _) _ _ _
  refine wpAny_bind (wpAny_tryCatch (wpAny_holding (wpAny_bind (hcmp _ _ _ (fun b o hb1 _ e => hs₁.extBut b o hb1 e) ?_))))
  refine wpAny_bind (wpAny_holding (wpAny_truthy_bool ?_))
  refine wpAny_bind (wpAny_letGo (wpAny_pure ?_))
  cases b₀ with
  | true =>
    simp only [if_true]
    refine wpAny_bind (wpAny_updateSeq hB' rfl (wpAny_bind (wpAny_letGo ?_)))
    rw [hname]
    refine wpAny_pure ⟨plainId_quiet PySem.F.plain_min_loop _, min_end (A := A) (x := x) (y := y) hh (hit₁.at fun o e => (Heap.get?_update_other _ _ hBI).trans e) ((hl.extBut hs₁.extBut hlI).at fun o e => (Heap.get?_update_other _ _ (Ne.symm hlB)).trans e) (Heap.get?_update_self _ hB' rfl) hBI fun h' tk hk => ?_⟩
    exact hR h' tk fun b o hb1 hb2 e => hk b o hb1 hb2 ((Heap.get?_update_other _ _ (Ne.symm hb2)).trans (hs₁.extBut b o hb1 e))
  | false =>
    simp only [Bool.false_eq_true, if_false]
    refine wpAny_bind (wpAny_letGo ?_)
    rw [hname]
    refine wpAny_pure ⟨plainId_quiet PySem.F.plain_min_loop _, min_end (A := A) (x := x) (y := y) hh hit₁ (hl.extBut hs₁.extBut hlI) hB' hBI fun h' tk hk => ?_⟩
    have := hR h' tk fun b o hb1 hb2 e => hk b o hb1 hb2 (hs₁.extBut b o hb1 e)
    simpa using this
theorem call_min_two {l : Addr} {x y : Value} {b₀ : Bool} {Q : Value → Shared → Prop} (hh : A.handled = none) (hl : s.heap.IsList l #[x, y])
    (hcmp : ∀ (s₁ : Shared) (Q E : Value → Shared → Prop), (∀ b o, s.heap.get? b = some o → s₁.heap.get? b = some o) → Q (.bool b₀) s₁ → wpAny (model prog w) A.in1 (richCompare .Lt y x) Q E s₁)
    (h : ∀ h' tk, (∀ b o, s.heap.get? b = some o → h'.get? b = some o) → Q (if b₀ = true then y else x) { s with heap := h', toks := tk }) :
    wpAny (model prog w) A (call (.builtin "min") [.ref l]) Q E s := by
  have hname : (toString "min" ++ toString ".loop" : String) = "min.loop" := by decide
  have hlt : l < s.heap.objs.size := by obtain ⟨_, e, _⟩ := id hl; exact Heap.lt_size e
  refine call_function_tree PySem.F.kind_min PySem.F.plain_min PySem.F.entry_min (PySem.F.args_min1 _) ?_
  show wpAny _ A.in1 (Builtin.Builtins.bindParams "min" ["key", "default"] 0 ⟨[], []⟩ >>= _) _ _ s
  refine wpAny_bind (wpAny_of_eq (show Builtin.Builtins.bindParams "min" ["key", "default"] 0 ⟨[], []⟩ = pure [none, none] from rfl) ?_)
  refine wpAny_bind (wpAny_pure ?_)
  refine wpAny_bind (wpAny_pyIter_list hl ?_)
  refine wpAny_bind (wpAny_newObj_type ?_)
  rw [hname]
  have up1 : ∀ b o, s.heap.get? b = some o → (s.heap.push { cls := .type "list_iterator", data := .fields #[.ref l, .int 0 0] }).get? b = some o := fun b o e => Heap.get?_push_of_some _ e
  have hI1 : (s.heap.push { cls := .type "list_iterator", data := .fields #[.ref l, .int 0 0] }).IsListIter s.heap.objs.size l 0 := ⟨_, Heap.get?_push_size _ rfl, rfl, rfl⟩
  have hz : (s.heap.push { cls := .type "list_iterator", data := .fields #[.ref l, .int 0 0] }).objs.size = s.heap.objs.size + 1 := Heap.size_push ..
  generalize s.heap.push { cls := .type "list_iterator", data := .fields #[.ref l, .int 0 0] } = H1 at up1 hI1 hz ⊢
  have hBI : H1.objs.size ≠ s.heap.objs.size := by rw [hz]; exact Nat.ne_of_gt (Nat.lt_succ_self _)
  have hlI : l ≠ s.heap.objs.size := Nat.ne_of_lt hlt
  have hlB : l ≠ H1.objs.size := by rw [hz]; exact Nat.ne_of_lt (Nat.lt_succ_of_lt hlt)
  have hB2 : (H1.push { cls := .type "list", dict := none, data := .seq ([] : List Value).toArray }).get? H1.objs.size = some { cls := .type "list", dict := none, data := .seq #[] 0, slots := #[] } := Heap.get?_push_size _ rfl
  have up2 : ∀ b o, H1.get? b = some o → (H1.push { cls := .type "list", dict := none, data := .seq ([] : List Value).toArray }).get? b = some o := fun b o e => Heap.get?_push_of_some _ e
  generalize H1.push { cls := .type "list", dict := none, data := .seq ([] : List Value).toArray } = H2 at hB2 up2 ⊢
  generalize H1.objs.size = B at *
  have lts : ∀ b o, s.heap.get? b = some o → b ≠ s.heap.objs.size ∧ b ≠ B := fun b o e => ⟨Nat.ne_of_lt (Heap.lt_size e), by rw [hz]; exact Nat.ne_of_lt (Nat.lt_succ_of_lt (Heap.lt_size e))⟩
  refine wpAny_pure ⟨plainId_quiet PySem.F.plain_min_loop _, codeAny_builtin PySem.F.entry_min_loop ?_⟩
  rw [Around.under_plainId PySem.F.plain_min_loop _]
  show wpAny _ A.in1 (seqItems? (.ref B) >>= _) _ _ _
  refine wpAny_bind (wpAny_seqItems hB2 rfl ?_)
  show wpAny _ A.in1 (tryCatch (pyNext (.ref s.heap.objs.size)) _ >>= _) _ _ _
  refine wpAny_bind (wpAny_tryCatch (wpAny_pyNext_list_item (hI1.at fun o e => up2 _ o e) (hl.at fun o e => up2 _ o (up1 _ o e)) (x := x) rfl fun h₁ hit₁ hs₁ => ?_))
  have hB' := hs₁.extBut _ _ hBI hB2
  show wpAny _ A.in1 (updateSeq B (fun _ => #[x, x]) >>= _) _ _ _
  refine wpAny_bind (wpAny_updateSeq hB' rfl ?_)
  rw [hname]
  have upf : ∀ b o, s.heap.get? b = some o → (h₁.update B (Obj.mapSeq fun _ => #[x, x])).get? b = some o := fun b o e =>
    (Heap.get?_update_other _ _ (Ne.symm (lts b o e).2)).trans (hs₁.extBut b o (lts b o e).1 (up2 b o (up1 b o e)))
  refine wpAny_pure ⟨plainId_quiet PySem.F.plain_min_loop _, min_second (A := A) (x := x) (y := y) (b₀ := b₀) hh (hit₁.at fun o e => (Heap.get?_update_other _ _ hBI).trans e) (hl.at fun o e => upf _ o e) (Heap.get?_update_self _ hB' rfl) hBI hlI hlB
    (fun s₁ Q E hk hq => hcmp s₁ Q E (fun b o e => hk b o (lts b o e).1 (lts b o e).2 (upf b o e)) hq) fun h' tk hk => ?_⟩
  exact h h' tk fun b o e => hk b o (lts b o e).1 (lts b o e).2 (upf b o e)

theorem max_end {R : Result → Shared → Prop} {I l B : Addr} {x y v : Value} {k : Nat} (hh : A.handled = none) (hit : s.heap.IsListIter I l 2) (hl : s.heap.IsList l #[x, y]) (hB : s.heap.get? B = some { cls := .type "list", dict := none, data := .seq #[v, v] k, slots := #[] })
    (hBI : B ≠ I) (hR : ∀ h' tk, (∀ b o, b ≠ I → b ≠ B → s.heap.get? b = some o → h'.get? b = some o) → R (.ok (.ret v)) { s with heap := h', toks := tk }) :
    codeAny (model prog w) A (.builtin "max.loop" ⟨[.ref I, .none, .ref B], []⟩) R s := by
  refine codeAny_builtin PySem.F.entry_max_loop ?_
  rw [Around.under_plainId PySem.F.plain_max_loop _]
  show wpAny _ A.in1 (seqItems? (.ref B) >>= _) _ _ s
  refine wpAny_bind (wpAny_seqItems hB rfl ?_)
  show wpAny _ A.in1 (tryCatch (pyNext (.ref I)) _ >>= _) _ _ s
  refine wpAny_bind (wpAny_tryCatch (wpAny_pyNext_list_end hh hit hl rfl fun h₁ he₁ => ?_))
  have hB' := he₁ _ _ hBI hB
  show wpAny _ A.in1 (updateSeq B (fun _ => #[]) >>= _) _ _ _
  refine wpAny_bind (wpAny_updateSeq hB' rfl (wpAny_bind (wpAny_letGo (wpAny_pure ?_))))
  exact hR _ s.toks fun b o hb1 hb2 e => (Heap.get?_update_other _ _ (Ne.symm hb2)).trans (he₁ b o hb1 e)
theorem max_second {R : Result → Shared → Prop} {I l B : Addr} {x y : Value} {k : Nat} {b₀ : Bool} (hh : A.handled = none) (hit : s.heap.IsListIter I l 1) (hl : s.heap.IsList l #[x, y]) (hB : s.heap.get? B = some { cls := .type "list", dict := none, data := .seq #[x, x] k, slots := #[] })
    (hBI : B ≠ I) (hlI : l ≠ I) (hlB : l ≠ B)
    (hcmp : ∀ (s₁ : Shared) (Q E : Value → Shared → Prop), (∀ b o, b ≠ I → b ≠ B → s.heap.get? b = some o → s₁.heap.get? b = some o) → Q (.bool b₀) s₁ → wpAny (model prog w) A.in1 (richCompare .Gt y x) Q E s₁)
    (hR : ∀ h' tk, (∀ b o, b ≠ I → b ≠ B → s.heap.get? b = some o → h'.get? b = some o) → R (.ok (.ret (if b₀ = true then y else x))) { s with heap := h', toks := tk }) :
    codeAny (model prog w) A (.builtin "max.loop" ⟨[.ref I, .none, .ref B], []⟩) R s := by
  have hname : (toString "max" ++ toString ".loop" : String) = "max.loop" := by decide
  refine codeAny_builtin PySem.F.entry_max_loop ?_
  rw [Around.under_plainId PySem.F.plain_max_loop _]
  show wpAny _ A.in1 (seqItems? (.ref B) >>= _) _ _ s
  refine wpAny_bind (wpAny_seqItems hB rfl ?_)
  show wpAny _ A.in1 (tryCatch (pyNext (.ref I)) _ >>= _) _ _ s
  refine wpAny_bind (wpAny_tryCatch (wpAny_pyNext_list_item hit hl (x := y) rfl fun h₁ hit₁ hs₁ => ?_))
  have hB' := hs₁.extBut _ _ hBI hB
  show wpAny _ A.in1 (tryCatch (holding [y, y] (richCompare .Gt y x >>= _)) _ >>= _) _ _ _
  refine wpAny_bind (wpAny_tryCatch (wpAny_holding (wpAny_bind (hcmp _ _ _ (fun b o hb1 _ e => hs₁.extBut b o hb1 e) ?_))))
  refine wpAny_bind (wpAny_holding (wpAny_truthy_bool ?_))
  refine wpAny_bind (wpAny_letGo (wpAny_pure ?_))
  cases b₀ with
  | true =>
    simp only [if_true]
    refine wpAny_bind (wpAny_updateSeq hB' rfl (wpAny_bind (wpAny_letGo ?_)))
    rw [hname]
    refine wpAny_pure ⟨plainId_quiet PySem.F.plain_max_loop _, max_end (A := A) (x := x) (y := y) hh (hit₁.at fun o e => (Heap.get?_update_other _ _ hBI).trans e) ((hl.extBut hs₁.extBut hlI).at fun o e => (Heap.get?_update_other _ _ (Ne.symm hlB)).trans e) (Heap.get?_update_self _ hB' rfl) hBI fun h' tk hk => ?_⟩
    exact hR h' tk fun b o hb1 hb2 e => hk b o hb1 hb2 ((Heap.get?_update_other _ _ (Ne.symm hb2)).trans (hs₁.extBut b o hb1 e))
  | false =>
    simp only [Bool.false_eq_true, if_false]
    refine wpAny_bind (wpAny_letGo ?_)
    rw [hname]
    refine wpAny_pure ⟨plainId_quiet PySem.F.plain_max_loop _, max_end (A := A) (x := x) (y := y) hh hit₁ (hl.extBut hs₁.extBut hlI) hB' hBI fun h' tk hk => ?_⟩
    have := hR h' tk fun b o hb1 hb2 e => hk b o hb1 hb2 (hs₁.extBut b o hb1 e)
    simpa using this
theorem call_max_two {l : Addr} {x y : Value} {b₀ : Bool} {Q : Value → Shared → Prop} (hh : A.handled = none) (hl : s.heap.IsList l #[x, y])
    (hcmp : ∀ (s₁ : Shared) (Q E : Value → Shared → Prop), (∀ b o, s.heap.get? b = some o → s₁.heap.get? b = some o) → Q (.bool b₀) s₁ → wpAny (model prog w) A.in1 (richCompare .Gt y x) Q E s₁)
    (h : ∀ h' tk, (∀ b o, s.heap.get? b = some o → h'.get? b = some o) → Q (if b₀ = true then y else x) { s with heap := h', toks := tk }) :
    wpAny (model prog w) A (call (.builtin "max") [.ref l]) Q E s := by
  have hname : (toString "max" ++ toString ".loop" : String) = "max.loop" := by decide
  have hlt : l < s.heap.objs.size := by obtain ⟨_, e, _⟩ := id hl; exact Heap.lt_size e
  refine call_function_tree PySem.F.kind_max PySem.F.plain_max PySem.F.entry_max (PySem.F.args_max1 _) ?_
  show wpAny _ A.in1 (Builtin.Builtins.bindParams "max" ["key", "default"] 0 ⟨[], []⟩ >>= _) _ _ s
  refine wpAny_bind (wpAny_of_eq (show Builtin.Builtins.bindParams "max" ["key", "default"] 0 ⟨[], []⟩ = pure [none, none] from rfl) ?_)
  refine wpAny_bind (wpAny_pure ?_)
  refine wpAny_bind (wpAny_pyIter_list hl ?_)
  refine wpAny_bind (wpAny_newObj_type ?_)
  rw [hname]
  have up1 : ∀ b o, s.heap.get? b = some o → (s.heap.push { cls := .type "list_iterator", data := .fields #[.ref l, .int 0 0] }).get? b = some o := fun b o e => Heap.get?_push_of_some _ e
  have hI1 : (s.heap.push { cls := .type "list_iterator", data := .fields #[.ref l, .int 0 0] }).IsListIter s.heap.objs.size l 0 := ⟨_, Heap.get?_push_size _ rfl, rfl, rfl⟩
  have hz : (s.heap.push { cls := .type "list_iterator", data := .fields #[.ref l, .int 0 0] }).objs.size = s.heap.objs.size + 1 := Heap.size_push ..
  generalize s.heap.push { cls := .type "list_iterator", data := .fields #[.ref l, .int 0 0] } = H1 at up1 hI1 hz ⊢
  have hBI : H1.objs.size ≠ s.heap.objs.size := by rw [hz]; exact Nat.ne_of_gt (Nat.lt_succ_self _)
  have hlI : l ≠ s.heap.objs.size := Nat.ne_of_lt hlt
  have hlB : l ≠ H1.objs.size := by rw [hz]; exact Nat.ne_of_lt (Nat.lt_succ_of_lt hlt)
  have hB2 : (H1.push { cls := .type "list", dict := none, data := .seq ([] : List Value).toArray }).get? H1.objs.size = some { cls := .type "list", dict := none, data := .seq #[] 0, slots := #[] } := Heap.get?_push_size _ rfl
  have up2 : ∀ b o, H1.get? b = some o → (H1.push { cls := .type "list", dict := none, data := .seq ([] : List Value).toArray }).get? b = some o := fun b o e => Heap.get?_push_of_some _ e
  generalize H1.push { cls := .type "list", dict := none, data := .seq ([] : List Value).toArray } = H2 at hB2 up2 ⊢
  generalize H1.objs.size = B at *
  have lts : ∀ b o, s.heap.get? b = some o → b ≠ s.heap.objs.size ∧ b ≠ B := fun b o e => ⟨Nat.ne_of_lt (Heap.lt_size e), by rw [hz]; exact Nat.ne_of_lt (Nat.lt_succ_of_lt (Heap.lt_size e))⟩
  refine wpAny_pure ⟨plainId_quiet PySem.F.plain_max_loop _, codeAny_builtin PySem.F.entry_max_loop ?_⟩
  rw [Around.under_plainId PySem.F.plain_max_loop _]
  show wpAny _ A.in1 (seqItems? (.ref B) >>= _) _ _ _
  refine wpAny_bind (wpAny_seqItems hB2 rfl ?_)
  show wpAny _ A.in1 (tryCatch (pyNext (.ref s.heap.objs.size)) _ >>= _) _ _ _
  refine wpAny_bind (wpAny_tryCatch (wpAny_pyNext_list_item (hI1.at fun o e => up2 _ o e) (hl.at fun o e => up2 _ o (up1 _ o e)) (x := x) rfl fun h₁ hit₁ hs₁ => ?_))
  have hB' := hs₁.extBut _ _ hBI hB2
  show wpAny _ A.in1 (updateSeq B (fun _ => #[x, x]) >>= _) _ _ _
  refine wpAny_bind (wpAny_updateSeq hB' rfl ?_)
  rw [hname]
  have upf : ∀ b o, s.heap.get? b = some o → (h₁.update B (Obj.mapSeq fun _ => #[x, x])).get? b = some o := fun b o e =>
    (Heap.get?_update_other _ _ (Ne.symm (lts b o e).2)).trans (hs₁.extBut b o (lts b o e).1 (up2 b o (up1 b o e)))
  refine wpAny_pure ⟨plainId_quiet PySem.F.plain_max_loop _, max_second (A := A) (x := x) (y := y) (b₀ := b₀) hh (hit₁.at fun o e => (Heap.get?_update_other _ _ hBI).trans e) (hl.at fun o e => upf _ o e) (Heap.get?_update_self _ hB' rfl) hBI hlI hlB
    (fun s₁ Q E hk hq => hcmp s₁ Q E (fun b o e => hk b o (lts b o e).1 (lts b o e).2 (upf b o e)) hq) fun h' tk hk => ?_⟩
  exact h h' tk fun b o e => hk b o (lts b o e).1 (lts b o e).2 (upf b o e)
end
end Mine
end
section
open PySem PySem.W PySem.Spec PySem.Calls PyProof.Rows
set_option Elab.async false
set_option maxRecDepth 100000
set_option maxHeartbeats 8000000
namespace Mine
def byText (w : World) : Bool := w.params.followText "set-order"
def sT (l : Bool) : SetTable := { mask := 7, place := #[1], dummies := #[], finger := 0, led := l, moves := 0, plain := true }
def set0 (l : Bool) : Obj := { cls := .type "set", data := .set #[] 0 (.fresh 0 0 l) }
def set1 (l : Bool) : Obj := { cls := .type "set", data := .set #[(1, .bool true)] 1 (sT l) }
def setI (a : Addr) (k i : Nat) : Obj := { cls := .type "set_iterator", data := .fields #[rawInt k, rawInt i, .ref a, rawInt 1, rawInt 1] }
theorem lay_true (l : Bool) : layNew (.fresh 0 0 l) #[] 1 (.bool true) = (#[(1, .bool true)], sT l, false, false) := by
  cases l <;> rfl
section
variable {prog : Program} {w : World} {A : Around} {E : Value → Shared → Prop} {s : Shared} {a : Addr} {l : Bool}
theorem hash_true {Q : Int → Shared → Prop} (h : Q 1 { s with toks := s.toks + 1 }) : wpAny (model prog w) A (pyHash (.bool true)) Q E s := by
  have hT : s.TypeIs (.bool true) "bool" := rfl
  unfold pyHash
  dsimp only
  unfold pyHashByItsType
  refine wpAny_bind ?_
  rw [cRoomFor, if_neg (by decide)]; refine wpAny_pure ?_
  refine wpAny_bind (wpAny_specialOf hT PySem.F.slot_bool_hash.lookup ?_)
  show wpAny _ _ (if (some (Value.builtin "int.__hash__") == some Value.none) = true then _ else _) Q E s
  rw [if_neg (by rw [beq_builtin_none]; exact Bool.false_ne_true)]
  refine wpAny_bind (wpAny_specialOf hT PySem.F.slot_bool_hash.lookup ?_)
  show wpAny _ _ (callSpecialIfBoundUnlessNone? (.bool true) "__hash__" _ >>= _) Q E s
  refine wpAny_bind (wpAny_callSpecialIfBoundUnlessNone?_slot hT PySem.F.slot_bool_hash
    (wpAny_call_entry PySem.F.slot_bool_hash hT entry_int_hash
      (show wpAny _ _ (do ret (← mkInt 1)) _ _ s from wpAny_ret_mkInt ?_) (args_int_hash _)))
  exact wpAny_pure h
theorem new_set {Q : Value → Shared → Prop} (h : Q (.ref s.heap.objs.size) { s with heap := s.heap.push (set0 (!byText w)) }) : wpAny (model prog w) A (newSet (.type "set")) Q E s := by
  unfold newSet setsByText
  refine wpAny_bind (wpAny_bind (wpAny_askSetting (wpAny_pure ?_)))
  dsimp only
  simp only [newObj]
  exact wpAny_bind (wpAny_alloc (wpAny_pure h))
theorem add_first {Q : Value → Shared → Prop} (ha : s.heap.get? a = some (set0 l)) (h : ∀ h', Heap.SameBut a s.heap h' → h'.get? a = some (set1 l) → Q .none { s with heap := h', toks := s.toks + 1 }) :
    wpAny (model prog w) A (call (.builtin "set.add") [.ref a, .bool true]) Q E s := by
  have hT : s.TypeIs (.ref a) "set" := ⟨_, ha, rfl⟩
  refine wpAny_call_entry PySem.F.slot_set_add hT PySem.F.entry_set_add ?_ (PySem.F.args_set_add_2 _ _)
  unfold Builtin.«set.add» Builtin.Frozenset.oneOther
  simp only [List.isEmpty_nil, bind_assoc]
  unfold Builtin.Frozenset.addrOf setAdd
  refine wpAny_bind (wpAny_pure ?_)
  try dsimp only
  refine wpAny_bind (wpAny_pure ?_)
  try dsimp only
  refine wpAny_bind (wpAny_holding (wpAny_bind (hash_true ?_)))
  unfold setAddHashed setAddHashedIn
  refine wpAny_holding (wpAny_bind (wpAny_setState_of ha rfl (by rfl) ?_))
  dsimp only
  rw [if_pos (by simp [byScan, Value.scannable, scanBound])]
  unfold setAddByScan
  refine wpAny_bind (wpAny_bind (wpAny_rule (wpAny_bind ?_)))
  show wpAny _ _ (setScanFrom a (.bool true) 1 true [] 0) _ _ _
  refine wpAny_pure ?_
  rw [lay_true]
  dsimp only
  refine wpAny_bind (wpAny_pure ?_)
  rw [if_pos (show (sT l).plain = true from rfl)]
  refine wpAny_bind (m := hashByValue 8 (.bool true)) (wpAny_pure ?_)
  simp only [if_true]
  refine wpAny_bind (wpAny_storeSet_of ha rfl ?_ (by decide))
  rw [if_neg (by cases l <;> decide)]
  have hg : (s.heap.update a (Obj.putSet #[(1, .bool true)] (sT l))).get? a = some (set1 l) := by
    have := Heap.get?_update_self (Obj.putSet #[(1, .bool true)] (sT l)) ha rfl
    exact this
  refine wpAny_pure (wpAny_pure ?_)
  show wpAny _ _ (ret Value.none) _ _ _
  exact wpAny_pure ⟨_, rfl, h _ (Heap.SameBut.update ..) hg⟩
theorem add_again {Q : Value → Shared → Prop} (ha : s.heap.get? a = some (set1 l)) (h : Q .none { s with toks := s.toks + 1 }) :
    wpAny (model prog w) A (call (.builtin "set.add") [.ref a, .bool true]) Q E s := by
  have hT : s.TypeIs (.ref a) "set" := ⟨_, ha, rfl⟩
  refine wpAny_call_entry PySem.F.slot_set_add hT PySem.F.entry_set_add ?_ (PySem.F.args_set_add_2 _ _)
  unfold Builtin.«set.add» Builtin.Frozenset.oneOther
  simp only [List.isEmpty_nil, bind_assoc]
  unfold Builtin.Frozenset.addrOf setAdd
  refine wpAny_bind (wpAny_pure ?_)
  try dsimp only
  refine wpAny_bind (wpAny_pure ?_)
  try dsimp only
  refine wpAny_bind (wpAny_holding (wpAny_bind (hash_true ?_)))
  unfold setAddHashed setAddHashedIn
  refine wpAny_holding (wpAny_bind (wpAny_setState_of ha rfl (by cases l <;> rfl) ?_))
  dsimp only
  rw [if_pos (by simp [byScan, Value.scannable, scanBound])]
  unfold setAddByScan
  refine wpAny_bind (wpAny_bind (wpAny_rule (wpAny_bind ?_)))
  show wpAny _ _ (setScanFrom a (.bool true) 1 true [(1, .bool true)] 0) _ _ _
  unfold setScanFrom
  rw [if_pos (by decide)]
  unfold setEpoch
  refine wpAny_bind (wpAny_bind (wpAny_setState_of ha rfl (by cases l <;> rfl) (wpAny_pure ?_)))
  refine wpAny_bind (m := eqBool (.bool true) (.bool true)) ?_
  unfold eqBool
  rw [if_pos (by decide)]
  refine wpAny_bind (wpAny_rule (wpAny_pure ?_))
  simp only [Bool.and_self, if_true]
  refine wpAny_pure ?_
  refine wpAny_pure (wpAny_pure ?_)
  show wpAny _ _ (ret Value.none) _ _ _
  exact wpAny_pure ⟨_, rfl, h⟩

theorem slot_set_iter' : Slot "set" "__iter__" "set.__iter__" :=
  .of (owner := "set") (n := "__iter__") (by rw [typeLookup_type, builtinLookup_eq_fast]; kernel_rfl) (by decide +kernel) (by decide +kernel) (by decide +kernel)
    (by first | exact .inl (by decide +kernel) | exact .inr (by decide +kernel)) (by rw [isSubtype_type]; kernel_rfl)
theorem slot_si_next : Slot "set_iterator" "__next__" "set_iterator.__next__" :=
  .of (owner := "set_iterator") (n := "__next__") (by rw [typeLookup_type, builtinLookup_eq_fast]; kernel_rfl) (by decide +kernel) (by decide +kernel) (by decide +kernel)
    (by first | exact .inl (by decide +kernel) | exact .inr (by decide +kernel)) (by rw [isSubtype_type]; kernel_rfl)
theorem entry_set_iter' : entryFor table "set.__iter__" = some Builtin.«frozenset.__iter__» :=
  entryFor_alias (id' := "frozenset.__iter__") (by kernel_rfl) rfl (by decide +kernel) (by kernel_rfl)
theorem entry_si_next : entryFor table "set_iterator.__next__" = some Builtin.«set_iterator.__next__» := entryFor_of_tree (by kernel_rfl)
theorem owner_set_ : Manifest.owners.lookup (String.ofList ['t', 'e', 's'].reverse) = some Manifest.sig_set := by kernel_rfl
theorem owner_si_ : Manifest.owners.lookup (String.ofList ['r', 'o', 't', 'a', 'r', 'e', 't', 'i', '_', 't', 'e', 's'].reverse) = some Manifest.sig_set_iterator := by kernel_rfl
theorem args_set_iter_ (a : Value) : argsOk "set.__iter__" ⟨[a], []⟩ := by
  unfold argsOk; rw [signature?_of (id := "set.__iter__") (n := ['_', '_', 'r', 'e', 't', 'i', '_', '_']) (o := ['t', 'e', 's']) (by kernel_rfl) owner_set_]; kernel_rfl
theorem args_si_next_ (a : Value) : argsOk "set_iterator.__next__" ⟨[a], []⟩ := by
  unfold argsOk; rw [signature?_of (id := "set_iterator.__next__") (n := ['_', '_', 't', 'x', 'e', 'n', '_', '_']) (o := ['r', 'o', 't', 'a', 'r', 'e', 't', 'i', '_', 't', 'e', 's']) (by kernel_rfl) owner_si_]; kernel_rfl
theorem wp_setsByText {Q : Bool → Shared → Prop} (h : Q (byText w) s) : wpAny (model prog w) A setsByText Q E s := wpAny_bind (wpAny_askSetting (wpAny_pure h))
theorem iter_set {Q : Value → Shared → Prop} (ha : s.heap.get? a = some (set1 l)) (h : Q (.ref s.heap.objs.size) { s with heap := s.heap.push (setI a 0 0) }) : wpAny (model prog w) A (pyIter (.ref a)) Q E s := by
  have hT : s.TypeIs (.ref a) "set" := ⟨_, ha, rfl⟩
  have hf : (sT l).fits 1 = true := by cases l <;> rfl
  refine wpAny_pyIter_slot hT slot_set_iter' (wpAny_call_entry slot_set_iter' hT entry_set_iter' ?_ (args_set_iter_ _))
  unfold Builtin.«frozenset.__iter__» Builtin.Frozenset.slot0 slotArgs
  simp only [List.isEmpty_nil, Bool.not_true, Bool.false_eq_true, ↓reduceIte, bind_assoc, List.length_nil, bne_self_eq_false]
  unfold Builtin.Frozenset.addrOf Builtin.Frozenset.sizeOf
  refine wpAny_bind (wpAny_pure ?_)
  try dsimp only
  refine wpAny_bind (wpAny_pure ?_)
  refine wpAny_bind (wpAny_bind (wpAny_setEntries_of ha rfl hf (wpAny_pure ?_)))
  unfold setDrawn
  refine wpAny_bind (wpAny_bind (wpAny_setState_of ha rfl hf (wpAny_bind (wp_setsByText (wpAny_pure ?_)))))
  rw [if_neg (by cases l <;> cases byText w <;> decide)]
  refine wpAny_bind (wpAny_pure ?_)
  unfold setEpoch
  refine wpAny_bind (wpAny_bind (wpAny_setState_of ha rfl hf (wpAny_pure ?_)))
  exact wpAny_bind (wpAny_newObj_type (wpAny_pure ⟨_, rfl, "set_iterator", _, ⟨_, Heap.get?_push_size _ rfl, rfl⟩, slot_si_next.lookup, h⟩))
theorem pick_one (next : Nat → Nat) (e : Int × Value) : pickOrder next #[e] = #[e] := by
  unfold pickOrder
  show pickOrder.go next 1 0 [e] #[] = _
  unfold pickOrder.go
  simp [Nat.mod_one, pickOrder.go]
theorem set_walk {Q : Array (Int × Value) → Shared → Prop} (hb : byText w = true) (ha : s.heap.get? a = some (set1 l)) (h : Q #[(1, .bool true)] s) : wpAny (model prog w) A (setWalk a) Q E s := by
  have hf : (sT l).fits 1 = true := by cases l <;> rfl
  unfold setWalk
  refine wpAny_bind (wpAny_setState_of ha rfl hf (wpAny_bind (wp_setsByText ?_)))
  rw [if_pos hb]
  refine wpAny_bind (wpAny_askSetting (wpAny_pure ?_))
  rw [pick_one]; exact h
theorem set_next_some {Q : Option (Value × Nat) → Shared → Prop} (ha : s.heap.get? a = some (set1 (!byText w))) (h : ∀ k, (k = 2 ∨ byText w = true) → Q (some (.bool true, k)) s) : wpAny (model prog w) A (setNext a 0 0 1) Q E s := by
  have hf : (sT (!byText w)).fits 1 = true := by cases byText w <;> rfl
  unfold setNext
  refine wpAny_bind (wpAny_setState_of ha rfl hf (wpAny_bind (wp_setsByText ?_)))
  cases hb : byText w with
  | true =>
    rw [if_pos rfl]
    refine wpAny_bind (set_walk hb ha (wpAny_pure ?_))
    exact h 0 (.inr hb)
  | false =>
    rw [if_neg (by decide)]
    refine wpAny_bind (wpAny_of_eq (a := ()) (by rfl) (wpAny_pure ?_))
    exact h 2 (.inl rfl)
theorem set_next_none {k : Nat} {Q : Option (Value × Nat) → Shared → Prop} (ha : s.heap.get? a = some (set1 (!byText w))) (hk : k = 2 ∨ byText w = true) (h : Q none s) : wpAny (model prog w) A (setNext a k 1 1) Q E s := by
  have hf : (sT (!byText w)).fits 1 = true := by cases byText w <;> rfl
  unfold setNext
  refine wpAny_bind (wpAny_setState_of ha rfl hf (wpAny_bind (wp_setsByText ?_)))
  cases hb : byText w with
  | true =>
    rw [if_pos rfl]
    refine wpAny_bind (set_walk hb ha (wpAny_pure ?_))
    exact h
  | false =>
    have hk2 : k = 2 := by rcases hk with q | q; exact q; rw [hb] at q; cases q
    subst hk2
    rw [if_neg (by decide)]
    refine wpAny_bind (wpAny_of_eq (a := ()) (by rfl) (wpAny_pure ?_))
    exact h
theorem next_set {I : Addr} {Q : Option Value → Shared → Prop} (ha : s.heap.get? a = some (set1 (!byText w))) (hI : s.heap.get? I = some (setI a 0 0)) (haI : a ≠ I)
    (h : ∀ h' k, Heap.SameBut I s.heap h' → h'.get? I = some (setI a k 1) → (k = 2 ∨ byText w = true) → Q (some (.bool true)) { s with heap := h' }) : wpAny (model prog w) A (pyNext (.ref I)) Q E s := by
  have hT : s.TypeIs (.ref I) "set_iterator" := ⟨_, hI, rfl⟩
  have hf : (sT (!byText w)).fits 1 = true := by cases byText w <;> rfl
  unfold pyNext
  refine wpAny_bind (wpAny_attempt (wpAny_callSpecial?_slot (name := Str.ofString "__next__") hT slot_si_next (wpAny_call_entry slot_si_next hT entry_si_next ?_ (args_si_next_ _))))
  unfold Builtin.«set_iterator.__next__»
  refine wpAny_bind (wpAny_pure ?_)
  refine wpAny_bind (wpAny_fieldsOf hI rfl ?_)
  dsimp only
  refine wpAny_bind (wpAny_setEntries_of ha rfl hf ?_)
  rw [if_neg (by decide)]
  show wpAny _ _ (setNext a 0 0 1 >>= _) _ _ _
  refine wpAny_bind (set_next_some ha fun k hk => ?_)
  dsimp only
  refine wpAny_bind (wpAny_setField hI rfl (by simp) ?_)
  have h1 := Heap.get?_update_self (Obj.mapFields (·.setIfInBounds 0 (rawInt k))) hI rfl
  refine wpAny_bind (wpAny_setField h1 rfl (by simp) ?_)
  have h2 := Heap.get?_update_self (Obj.mapFields (·.setIfInBounds 1 (rawInt 1))) h1 rfl
  exact wpAny_pure ⟨_, rfl, wpAny_pure (h _ k ((Heap.SameBut.update ..).trans (Heap.SameBut.update ..)) h2 hk)⟩
theorem end_set {I : Addr} {k : Nat} {Q : Option Value → Shared → Prop} (hh : A.handled = none) (ha : s.heap.get? a = some (set1 (!byText w))) (hI : s.heap.get? I = some (setI a k 1)) (haI : a ≠ I) (hk : k = 2 ∨ byText w = true)
    (h : ∀ h', Heap.ExtBut I s.heap h' → Q none { s with heap := h' }) : wpAny (model prog w) A (pyNext (.ref I)) Q E s := by
  have hT : s.TypeIs (.ref I) "set_iterator" := ⟨_, hI, rfl⟩
  have hf : (sT (!byText w)).fits 1 = true := by cases byText w <;> rfl
  unfold pyNext
  refine wpAny_bind (wpAny_attempt (wpAny_callSpecial?_slot (name := Str.ofString "__next__") hT slot_si_next (wpAny_call_entry slot_si_next hT entry_si_next ?_ (args_si_next_ _))))
  unfold Builtin.«set_iterator.__next__»
  refine wpAny_bind (wpAny_pure ?_)
  refine wpAny_bind (wpAny_fieldsOf hI rfl ?_)
  dsimp only
  refine wpAny_bind (wpAny_setEntries_of ha rfl hf ?_)
  rw [if_neg (by decide)]
  show wpAny _ _ (setNext a k 1 1 >>= _) _ _ _
  refine wpAny_bind (set_next_none ha hk ?_)
  dsimp only
  refine wpAny_bind (wpAny_setField hI rfl (by simp) ?_)
  show wpAny _ _ (newExc (.type "StopIteration") [] >>= _) _ _ _
  refine wpAny_bind ?_
  simp only [newExc, newTuple]
  refine wpAny_bind (wpAny_newObj_type ?_ (by size_fits))
  refine wpAny_bind (m := firstArgMember _ _) (wpAny_of_eq (a := Value.none) (by first | rfl | (simp only [firstArgMember]; rfl)) ?_)
  refine wpAny_newObj_type ?_ (by size_fits)
  simp only [raiseNew]
  refine wpAny_bind (wpAny_handled ?_)
  first | rw [show A.in1.handled = none from hh] | rw [hh]
  refine wpAny_bind (wpAny_pure (wpAny_throw ?_))
  refine wpAny_bind (wpAny_isInstance (T := "StopIteration") (b := true) ⟨_, Heap.get?_push_size _ rfl, rfl⟩ isSubtype_stop ?_)
  exact wpAny_pure (h _ (((Heap.SameBut.update ..).extBut.push _).push _))
/-- x, = {True} -/
theorem unpack_set {env : Env} {e₀ : Expr} {k₀} {pos : Pos} {Q : Unit → Shared → Prop} (hh : A.handled = none) (hst : ∀ e p, e₀ ≠ .Starred e p) (ha : s.heap.get? a = some (set1 (!byText w)))
    (h : ∀ h', (∀ b o, s.heap.get? b = some o → h'.get? b = some o) → wpAny (model prog w) A (assign e₀ env (.bool true)) Q E { s with heap := h' }) :
    wpAny (model prog w) A (assign (.Tuple [e₀] k₀ pos) env (.ref a)) Q E s := by
  have hT : s.TypeIs (.ref a) "set" := ⟨_, ha, rfl⟩
  rw [arm_assign_Tuple]
  have eE : assignEach [e₀] env = [(false, assign e₀ env)] := by
    cases e₀ <;> first | rfl | exact absurd rfl (hst _ _)
  rw [eE]
  refine wpAny_bind (wpAny_standAt ?_)
  unfold unpack
  refine wpAny_bind (wpAny_holding ?_)
  show wpAny _ _ (unpackItems (.ref a) 1 none) _ _ _
  unfold unpackItems
  refine wpAny_bind ?_
  unfold notIterableAtAll
  refine wpAny_bind (wpAny_specialOf hT slot_set_iter'.lookup ?_)
  refine wpAny_pure ?_
  simp only [Bool.false_eq_true, if_false]
  refine wpAny_bind (wpAny_holding (iter_set ha ?_))
  have haI : a ≠ s.heap.objs.size := Nat.ne_of_lt (Heap.lt_size ha)
  have up1 : ∀ b o, s.heap.get? b = some o → (s.heap.push (setI a 0 0)).get? b = some o := fun b o e => Heap.get?_push_of_some _ e
  refine wpAny_bind (wpAny_holding ?_)
  show wpAny _ _ (draw (.ref s.heap.objs.size) 1) _ _ _
  unfold draw
  refine wpAny_bind (next_set (up1 _ _ ha) (Heap.get?_push_size _ rfl) haI fun h₁ k hs₁ hI₁ hk => ?_)
  dsimp only
  refine wpAny_bind (wpAny_holding ?_)
  unfold draw
  refine wpAny_pure (wpAny_pure ?_)
  rw [if_neg (by decide)]
  refine wpAny_bind (wpAny_holding (end_set hh (hs₁.extBut _ _ haI (up1 _ _ ha)) hI₁ haI hk fun h₂ hs₂ => ?_))
  simp only [Option.isSome_none, Bool.false_eq_true, if_false]
  refine wpAny_pure ?_
  refine assignInOrder_cons (wpAny_mono (h h₂ fun b o e => ?_) (fun _ _ hq => assignInOrder_nil hq) fun _ _ e => e)
  have hb : b ≠ s.heap.objs.size := Nat.ne_of_lt (Heap.lt_size e)
  exact hs₂ b o hb (hs₁.extBut b o hb (up1 b o e))
end
end Mine
end
section
open PySem PySem.W PySem.Spec PySem.Calls PyProof.Rows
set_option Elab.async false
set_option maxRecDepth 100000
set_option maxHeartbeats 8000000
namespace Mine
section
variable {prog : Program} {w : World} {A : Around} {E : Value → Shared → Prop} {R : Result → Shared → Prop} {s : Shared}
theorem compTurn_set1 (elt target iter : Expr) (scope : Scope) (pos : Pos) (it acc : Value) (env : Env) :
    compTurn (.SetComp elt [⟨target, iter, [], 0⟩] scope pos) 0 it acc env = (standAt iter.pos >>= fun _ => pyNext it >>= fun r => match r with
      | none => pure (.done .next)
      | some v => letOwnedTupleGo target it v >>= fun _ => assign target env v >>= fun _ =>
        (eval elt env >>= fun x => standAt elt.pos >>= fun _ => call (.builtin "set.add") [acc, x] >>= fun _ => pure ()) >>= fun _ =>
          again (.compLoop (.SetComp elt [⟨target, iter, [], 0⟩] scope pos) 0 it acc env)) := by rfl
theorem codeAny_compStart_set {elt target iter ifs rest scope pos it acc env}
    (h0 : codeAny (model prog w) A (.compLoop (.SetComp elt (⟨target, iter, ifs, 0⟩ :: rest) scope pos) 0 it acc env) R s)
    (h : wpAny (model prog w) A (pyIter it) (fun it' s' => codeAny (model prog w) A (.compLoop (.SetComp elt (⟨target, iter, ifs, 0⟩ :: rest) scope pos) 0 it' acc env) R s')
      (notedBy (model prog w) A env fun x s' => R (.error x) s') s) :
    codeAny (model prog w) A (.compStart (.SetComp elt (⟨target, iter, ifs, 0⟩ :: rest) scope pos) 0 it acc env) R s := by
  refine codeAny_of_tree ?_
  show wpAny _ _ ((compStart (.SetComp elt (⟨target, iter, ifs, 0⟩ :: rest) scope pos) 0 it acc env).onRaise (fun x => do noteFrame x env; standAt theWindowsPlace)) _ _ s
  refine wpAny_notedAt ?_
  unfold compStart
  show wpAny _ _ (ask >>= _) _ _ s
  refine wpAny_bind (wpAny_askSetting (wpAny_ite ?_))
  split
  · first
      | exact wpAny_bind (wpAny_pure (wpAny_pure (And.intro rfl h0)))
      | exact wpAny_pure (And.intro rfl h0)
  · first
      | exact wpAny_bind (wpAny_rule (wpAny_bind (wpAny_standAt (wpAny_bind (wpAny_mono h (fun it' s' h' => wpAny_pure (And.intro rfl h')) fun _ _ x => x)))))
      | (refine wpAny_bind (wpAny_rule ?_); show wpAny _ _ (standAt iter.pos >>= _) _ _ s; exact wpAny_bind (wpAny_standAt (wpAny_bind (wpAny_mono h (fun it' s' h' => wpAny_pure (And.intro rfl h')) fun _ _ x => x))))
theorem codeAny_compLoop_set {elt target iter : Expr} {scope : Scope} {pos : Pos} {it acc : Value} {env : Env} (I : Nat → Shared → Prop)
    (turn : ∀ n s, I n s → wpAny (model prog w) A (pyNext it) (fun r s₁ => match r with
      | none => R (.ok .next) s₁
      | some v => wpAny (model prog w) A (assign target env v) (fun _ s₂ => wpAny (model prog w) A (eval elt env) (fun x s₃ =>
          wpAny (model prog w) A (call (.builtin "set.add") [acc, x]) (fun _ s₄ => ∃ m, m < n ∧ I m s₄) (notedBy (model prog w) A env fun e s' => R (.error e) s') s₃)
          (notedBy (model prog w) A env fun e s' => R (.error e) s') s₂) (notedBy (model prog w) A env fun e s' => R (.error e) s') s₁) (notedBy (model prog w) A env fun e s' => R (.error e) s') s)
    (n : Nat) (h : I n s) (ht : ∀ v, letOwnedTupleGo target it v = pure () := by intro _; rfl) :
    codeAny (model prog w) A (.compLoop (.SetComp elt [⟨target, iter, [], 0⟩] scope pos) 0 it acc env) R s := by
  refine codeAny_loop rfl I (fun n s hI => ?_) n h
  show wpAny _ _ ((compTurn (.SetComp elt [⟨target, iter, [], 0⟩] scope pos) 0 it acc env).onRaise (fun x => do noteFrame x env; theTreesLotGoes x)) _ _ s
  refine wpAny_noted ?_
  rw [compTurn_set1]
  refine wpAny_bind (wpAny_standAt (wpAny_bind (wpAny_mono (turn n s hI) (fun r s₁ h₁ => ?_) fun _ _ h' => h')))
  cases r with
  | none => exact wpAny_pure h₁
  | some v =>
    refine wpAny_bind (wpAny_of_eq (ht v) ?_)
    exact wpAny_bind (wpAny_mono h₁ (fun _ s₂ h₂ => wpAny_bind (wpAny_bind (wpAny_mono h₂ (fun x s₃ h₃ => wpAny_bind (wpAny_standAt (wpAny_bind (wpAny_mono h₃ (fun _ s₄ h₄ => wpAny_pure (wpAny_pure ⟨rfl, h₄⟩)) fun _ _ h' => h'))))
      fun _ _ h' => h'))) fun _ _ h' => h')
end

section
variable {prog : Program} {w : World} {A : Around}
/-- an element that is True, nothing turned -/
def TruePost (s₂ : Shared) (v : Value) (s' : Shared) : Prop := v = .bool true ∧ ∃ h' tk, s' = { s₂ with heap := h', toks := tk } ∧ Up s₂.heap h'
theorem TruePost.mk {s₂ : Shared} {tk : Nat} {b : Bool} (h : b = true) : TruePost s₂ (.bool b) { s₂ with toks := tk } := ⟨by rw [h], s₂.heap, tk, rfl, Up.refl _⟩
def setN (w : World) : Nat → Obj
  | 0 => set0 (!byText w)
  | _ + 1 => set1 (!byText w)
theorem setN_pos (w : World) {n : Nat} (h : 0 < n) : setN w n = set1 (!byText w) := by
  cases n with
  | zero => exact absurd h (Nat.lt_irrefl _)
  | succ n => rfl

theorem comp_loopS {R : Result → Shared → Prop} {s : Shared} {elt iter : Expr} {x : Str} {px : Pos} {scope : Scope} {pos : Pos} {I D : Addr} {fp wr : List Addr} {vs : List Value} {St : Nat → Heap → Prop}
    {cenv : Env} {m : Str → Option Value} (W : Walks prog w A I fp wr vs.length (fun i v => vs[i]? = some v) St)
    (hx : cenv.kindOf x = some .local) (hp : (cenv.scope.kind == .class || (cenv.scope.kind == .module && cenv.locals != cenv.globals)) = false)
    (hDC : D ≠ cenv.locals) (hDf : D ∉ fp) (hCf : cenv.locals ∉ fp)
    (hst : St 0 s.heap) (hacc : s.heap.get? D = some (setN w 0)) (hn : s.heap.Ns cenv.locals m)
    (helt : ∀ (i : Nat) (v : Value) (s₂ : Shared) m₂ (E' : Value → Shared → Prop), vs[i]? = some v → s₂.heap.Ns cenv.locals m₂ → m₂ x = some v → (∀ b o, b ≠ cenv.locals → b ∉ wr → b ≠ D → s.heap.get? b = some o → s₂.heap.get? b = some o) →
      wpAny (model prog w) A (eval elt cenv) (TruePost s₂) E' s₂)
    (hR : ∀ h' tk m', h'.Ns cenv.locals m' → h'.get? D = some (setN w vs.length) → (∀ b o, b ≠ cenv.locals → b ∉ wr → b ≠ D → s.heap.get? b = some o → h'.get? b = some o) → R (.ok .next) { s with heap := h', toks := tk }) :
    codeAny (model prog w) A (.compLoop (.SetComp elt [⟨.Name x px, iter, [], 0⟩] scope pos) 0 (.ref I) (.ref D) cenv) R s := by
  refine codeAny_compLoop_set
    (fun k s' => ∃ i h' tk m', s' = { s with heap := h', toks := tk } ∧ St i h' ∧ h'.get? D = some (setN w i) ∧ h'.Ns cenv.locals m' ∧ i ≤ vs.length ∧ k = vs.length + 1 - i ∧
      (∀ b o, b ≠ cenv.locals → b ∉ wr → b ≠ D → s.heap.get? b = some o → h'.get? b = some o)) ?_ (vs.length + 1)
    ⟨0, s.heap, s.toks, m, rfl, hst, hacc, hn, Nat.zero_le _, rfl, fun _ _ _ _ _ e => e⟩
  rintro k s' ⟨i, H, tk, m', rfl, hst', hacc', hn', hi, rfl, hk⟩
  have hCw : cenv.locals ∉ wr := fun h => hCf (W.sub _ h)
  have hDw : D ∉ wr := fun h => hDf (W.sub _ h)
  by_cases hlt : i < vs.length
  · refine W.item i _ _ _ hlt hst' fun v h₁ tk₁ hPv hst₁ hk₁ => ?_
    refine wpAny_assign_Name (wpAny_storeName_local hx (hn'.at' fun o e => hk₁ _ o hCw e) (fun h₂ hn₂ hs₂ => ?_) hp)
    have up₂ : ∀ b o, b ≠ cenv.locals → b ∉ wr → H.get? b = some o → h₂.get? b = some o := fun b o hbC hbf e => hs₂.extBut b o hbC (hk₁ b o hbf e)
    have hst₂ : St (i + 1) h₂ := W.frame _ _ _ hst₁ fun b hb o e => hs₂.extBut b o (fun h => hCf (h ▸ hb)) e
    refine wpAny_mono (helt i v _ _ _ hPv hn₂ (by simp) (fun b o hbC hbf hbD e => up₂ b o hbC hbf (hk b o hbC hbf hbD e))) (fun y s₃ h₃ => ?_) fun _ _ e => e
    obtain ⟨rfl, h₃, tk₃, rfl, up₃⟩ := h₃
    dsimp only at up₃ ⊢
    have hst₃ : St (i + 1) h₃ := W.frame _ _ _ hst₂ fun b hb o e => up₃ b o e
    have hacc₃ : h₃.get? D = some (setN w i) := up₃ _ _ (up₂ D _ hDC hDw hacc')
    have hn₃ := hn₂.at' fun o e => up₃ _ o e
    cases i with
    | zero =>
      refine add_first (l := !byText w) hacc₃ fun h₅ hs₅ hl₅ => ?_
      exact ⟨vs.length + 1 - (0 + 1), by (first | lia | omega), 0 + 1, h₅, _, _, rfl, W.frame _ _ h₅ hst₃ fun b hb o e => hs₅.extBut b o (fun h => hDf (h ▸ hb)) e, hl₅, hn₃.sameBut hs₅ (Ne.symm hDC), hlt, rfl,
        fun b o hbC hbf hbD e => hs₅.extBut b o hbD (up₃ _ _ (up₂ b o hbC hbf (hk b o hbC hbf hbD e)))⟩
    | succ i =>
      refine add_again (l := !byText w) hacc₃ ?_
      exact ⟨vs.length + 1 - (i + 1 + 1), by (first | lia | omega), i + 1 + 1, h₃, _, _, rfl, hst₃, hacc₃, hn₃, hlt, rfl, fun b o hbC hbf hbD e => up₃ _ _ (up₂ b o hbC hbf (hk b o hbC hbf hbD e))⟩
  · have hin : i = vs.length := by (first | lia | omega)
    subst hin
    refine W.done _ _ _ hst' fun h₁ tk₁ hk₁ => ?_
    exact hR h₁ tk₁ m' (hn'.at' fun o e => hk₁ _ o hCw e) (hk₁ D _ hDw hacc') fun b o hbC hbf hbD e => hk₁ b o hbf (hk b o hbC hbf hbD e)
end

section
variable {prog : Program} {w : World} {A : Around} {E : Value → Shared → Prop} {env : Env}
/-- {elt for x in t}, t a tuple, each element True -/
theorem comp_set {s : Shared} {iter elt : Expr} {x : Str} {px : Pos} {scope : Scope} {cl : List (Str × Addr)} {pos : Pos} {Q : Value → Shared → Prop} {l : Addr} {vs : List Value}
    (hh : A.handled = none) (hclos : closureFor scope env = pure cl) (hcell : ∀ y ∈ scope.names, y.2 ≠ .cell) (hkind : scope.kind = .function)
    (hnames : ∀ y ∈ scope.names, y.2 = .local → scope.names.lookup y.1 = some .local) (hx : scope.names.lookup x = some .local)
    (hs : ∀ x, foldedSetIterable iter env x = pure x) (h0 : 0 < vs.length)
    (h : wpAny (model prog w) A (eval iter env) (fun xv s₁ => xv = .ref l ∧ s₁ = s) E s) (hl : s.heap.IsTuple l vs.toArray)
    (helt : ∀ C (i : Nat) (v : Value) (s₂ : Shared) m₂ (E' : Value → Shared → Prop), vs[i]? = some v → s₂.heap.Ns C m₂ → m₂ x = some v → (∀ b o, s.heap.get? b = some o → s₂.heap.get? b = some o) →
      wpAny (model prog w) A (eval elt (compEnvC scope cl C env)) (TruePost s₂) E' s₂)
    (hQ : ∀ D h' tk, Up s.heap h' → s.heap.get? D = none → h'.get? D = some (set1 (!byText w)) → Q (.ref D) { s with heap := h', toks := tk }) :
    wpAny (model prog w) A (eval (.SetComp elt [⟨.Name x px, iter, [], 0⟩] scope pos) env) Q E s := by
  rw [arm_eval_SetComp]
  refine wpAny_comprehension_free (use := none) rfl hs hclos hkind hnames (wpAny_mono h (fun xv s₁ h₁ => ?_) fun _ _ e => e)
  obtain ⟨rfl, rfl⟩ := h₁
  have hlt : l < s₁.heap.objs.size := by obtain ⟨_, e, _⟩ := id hl; exact Heap.lt_size e
  refine wpAny_pyIter_tuple hl ?_
  have W := Walks.tuple (prog := prog) (w := w) hh s₁.heap.objs.size l (Nat.ne_of_lt hlt) vs.toArray
  have hz1 := Heap.size_push (h := s₁.heap) (o := { cls := .type "tuple_iterator", data := .fields #[.ref l, .int 0 0] })
  have hst0 : (s₁.heap.push { cls := .type "tuple_iterator", data := .fields #[.ref l, .int 0 0] }).IsTupleIter s₁.heap.objs.size l 0 ∧ (s₁.heap.push { cls := .type "tuple_iterator", data := .fields #[.ref l, .int 0 0] }).IsTuple l vs.toArray :=
    ⟨⟨_, Heap.get?_push_size _ rfl, rfl, rfl⟩, hl.at fun o e => Heap.get?_push_of_some _ e⟩
  have up1' : ∀ b o, s₁.heap.get? b = some o → (s₁.heap.push { cls := .type "tuple_iterator", data := .fields #[.ref l, .int 0 0] }).get? b = some o := fun b o e => Heap.get?_push_of_some _ e
  generalize s₁.heap.push { cls := .type "tuple_iterator", data := .fields #[.ref l, .int 0 0] } = H1 at hst0 hz1 up1' ⊢
  generalize hI : s₁.heap.objs.size = I at W hst0 hz1 ⊢
  have hlI : l < I := hI ▸ hlt
  refine new_set ?_
  refine wpAny_newFunctionEnv hcell (by intro y hy; simp at hy) (fun h₁ hns₁ hsb₁ => ?_) hkind
  dsimp only at hns₁ hsb₁ ⊢
  generalize hH2 : H1.push (set0 (!byText w)) = H2 at hns₁ hsb₁ ⊢
  have hC : H2.objs.size = I + 2 := by rw [← hH2, Heap.size_push, hz1]
  have hDC : H1.objs.size ≠ H2.objs.size := by rw [hC, hz1]; exact Nat.ne_of_lt (Nat.lt_succ_self _)
  have old : ∀ b o, H1.get? b = some o → h₁.get? b = some o := fun b o e => hsb₁.extBut b o (Nat.ne_of_lt (by rw [hC]; exact Nat.lt_succ_of_lt (hz1 ▸ Heap.lt_size e))) (Heap.get?_push_of_some _ (hH2 ▸ Heap.get?_push_of_some _ e))
  have hacc : h₁.get? H1.objs.size = some (setN w 0) := hsb₁.extBut _ _ hDC (Heap.get?_push_of_some _ (hH2 ▸ Heap.get?_push_size _ rfl))
  have hst₁ := W.frame _ _ h₁ hst0 fun b _ o e => old b o e
  have ltI : ∀ b, b < I → b ≠ I ∧ b ≠ H1.objs.size ∧ b ≠ H2.objs.size := fun b h =>
    ⟨Nat.ne_of_lt h, by rw [hz1]; exact Nat.ne_of_lt (Nat.lt_succ_of_lt h), by rw [hC]; exact Nat.ne_of_lt (Nat.lt_succ_of_lt (Nat.lt_succ_of_lt h))⟩
  have ltS : ∀ b o, s₁.heap.get? b = some o → b ≠ I ∧ b ≠ H1.objs.size ∧ b ≠ H2.objs.size := fun b o e => ltI b (hI ▸ Heap.lt_size e)
  have hL3 := ltI l hlI
  have hIH1 : H1.objs.size ≠ I := by rw [hz1]; exact Nat.ne_of_gt (Nat.lt_succ_self _)
  have hIH2 : H2.objs.size ≠ I := by rw [hC]; exact Nat.ne_of_gt (Nat.lt_succ_of_lt (Nat.lt_succ_self _))
  have loop : ∀ s₃ : Shared, s₃ = { s₁ with heap := h₁, toks := s₁.toks + ([] : List (Str × Value)).length } →
      codeAny (model prog w) A (.compLoop (.SetComp elt [⟨.Name x px, iter, [], 0⟩] scope pos) 0 (.ref I) (.ref H1.objs.size) (compEnvC scope cl H2.objs.size env))
        (compPost (model prog w) A E none Q (.ref H1.objs.size) H2.objs.size) s₃ := by
    rintro s₃ rfl
    have W' : Walks prog w A I [I, l] [I] vs.length (fun i v => vs[i]? = some v) (fun i h => h.IsTupleIter I l i ∧ h.IsTuple l vs.toArray) := by simpa using W
    refine comp_loopS (cenv := compEnvC scope cl H2.objs.size env) (vs := vs) W' (lookup_relabel_local hx) (by simp [compEnvC, relabel, hkind])
      hDC (by simp [hIH1, Ne.symm hL3.2.1]) (by show H2.objs.size ∉ [I, l]; simp [hIH2, Ne.symm hL3.2.2]) hst₁ hacc hns₁ ?_ ?_
    · intro i v s₂ m₂ E' hv hn hm hk
      exact helt _ i v s₂ m₂ E' hv hn hm fun b o e => by
        have h3 := ltS b o e
        exact hk b o h3.2.2 (fun q => h3.1 (List.mem_singleton.mp q)) h3.2.1 (old b o (up1' b o e))
    · intro h' tk m' hn hpl hk
      refine ⟨m', hn, fun h'' hs'' => ?_⟩
      rw [setN_pos w h0] at hpl
      refine hQ H1.objs.size h'' tk (fun b o e => ?_) ?_ (hs''.extBut _ _ hDC hpl)
      · have h3 := ltS b o e
        exact hs''.extBut b o h3.2.2 (hk b o h3.2.2 (fun q => h3.1 (List.mem_singleton.mp q)) h3.2.1 (old b o (up1' b o e)))
      · cases e : s₁.heap.get? H1.objs.size with
        | none => rfl
        | some o => exact absurd rfl (ltS _ _ e).2.1
  exact codeAny_compStart_set (loop _ rfl) (W.self 0 _ _ _ hst₁ (loop _ rfl))
end
end Mine
end
section
open PySem PySem.W PySem.Spec PySem.Calls PyProof.Rows
set_option Elab.async false
set_option maxRecDepth 100000
set_option maxHeartbeats 8000000
set_option pp.maxSteps 3000
namespace Mine
theorem strsAre_ofItems {acc : Array Value} {xs : List Str} (h : ItemsOf (fun i v => ∃ t, v = Value.str (xs.getD i default) t) acc xs.length) : StrsAre acc.toList xs :=
  strsAre_of (by simpa using h.1) fun i y hy => h.2 i y (by simpa using hy)
theorem newsUp {g h h' : Heap} {L : Addr} {news : Led} (N : News g L h news) (u : ∀ b o, h.get? b = some o → h'.get? b = some o) : News g L h' news := fun p hp => ⟨u _ _ (N p hp).1, (N p hp).2⟩
/-- the pieces of a path -/
def segs (as : List (List Nat)) : List (List Nat) := [] :: (if as = [] then [[]] else as)
theorem segs_join (as : List (List Nat)) : joinL (segs as) = 47 :: joinL as := by
  unfold segs
  split
  · rename_i h; subst h; rfl
  · rename_i h
    obtain ⟨a, r, rfl⟩ : ∃ a r, as = a :: r := ⟨as.head h, as.tail, (List.cons_head_tail h).symm⟩
    rfl
theorem split_segs (as : List (List Nat)) (h : ∀ c ∈ as, 47 ∉ c) : Txt.split (S (47 :: joinL as)) (S [47]) = (segs as).map S := by
  rw [← segs_join]
  refine split_S (segs as) (by simp [segs]) fun c hc => ?_
  unfold segs at hc
  rcases List.mem_cons.mp hc with rfl | hc
  · exact fun h => nomatch h
  · split at hc
    · rw [List.mem_singleton.mp hc]; exact fun h => nomatch h
    · exact h c hc
theorem segs_len (as : List (List Nat)) : (segs as).length ≤ as.length + 2 := by
  unfold segs
  split <;> simp
def nameB (c : List Nat) : Bool := decide (c ≠ [] ∧ c ≠ [46])
def nameV : Value → Bool
  | .str z _ => nameB z.cps.toList
  | _ => false
theorem strsAre_filter : ∀ {vs : List Value} {ls : List (List Nat)}, StrsAre vs (ls.map S) → StrsAre (vs.filter nameV) ((ls.filter nameB).map S)
  | _, [], h => by cases h; exact .nil
  | _, c :: ls, h => by
    cases h with
    | cons _ t h =>
      have ih := strsAre_filter h
      have e : nameV (.str (S c) t) = nameB c := by simp [nameV, S_toList]
      rw [List.filter_cons, List.filter_cons, e]
      split
      · exact .cons _ _ ih
      · exact ih
theorem segs_filter (as : List (List Nat)) (h : ∀ c ∈ as, 47 ∉ c ∧ c ≠ [] ∧ c ≠ [46] ∧ c.length ≤ 2) : (segs as).filter nameB = as := by
  have hf : as.filter nameB = as := List.filter_eq_self.mpr fun c hc => by simp [nameB, (h c hc).2.1, (h c hc).2.2.1]
  unfold segs
  rw [List.filter_cons, if_neg (by simp [nameB])]
  split
  · rename_i e; rw [e]; rfl
  · exact hf
theorem nameV_S (c : List Nat) (t : Tok) : nameV (.str (S c) t) = nameB c := by simp [nameV, S_toList]
theorem name_yes {c : List Nat} {t : Tok} (h1 : ((S c).length : Int) ≠ 0) (h2 : (S c != Str.ofString ".") = true) : true = nameV (.str (S c) t) := by
  rw [nameV_S, nameB, eq_comm, decide_eq_true_eq]
  rw [S_len] at h1
  rw [dot, bne, S_beq] at h2
  refine ⟨fun q => h1 (by rw [q]; rfl), fun q => ?_⟩
  rw [q] at h2
  simp at h2
theorem name_no1 {c : List Nat} {t : Tok} (h2 : (S c != Str.ofString ".") = false) : false = nameV (.str (S c) t) := by
  rw [nameV_S, nameB, eq_comm, decide_eq_false_iff_not]
  rw [dot, bne, S_beq] at h2
  intro q
  simp [q.2] at h2
theorem name_no2 {c : List Nat} {t : Tok} (h1 : ((S c).length : Int) = 0) : false = nameV (.str (S c) t) := by
  rw [nameV_S, nameB, eq_comm, decide_eq_false_iff_not]
  rw [S_len] at h1
  exact fun q => q.1 (List.length_eq_zero_iff.mp (by (first | lia | omega)))
theorem name_fr {g h : Heap} {L : Addr} {m : Str → Option Value} (F : Fr g L h m) : ∃ m0, Fr g L h m0 ∧ m0 = m := ⟨m, F, rfl⟩
theorem fr_eq2 {g h : Heap} {L : Addr} {m1 m0 : Str → Option Value} {a b : Str} {va vb : Option Value} (hm : ∀ y, y ≠ a → y ≠ b → m1 y = m0 y) (F : Fr g L h (fun y => if y = a then va else if y = b then vb else m1 y)) :
    Fr g L h (fun y => if y = a then va else if y = b then vb else m0 y) := by
  have e : (fun y => if y = a then va else if y = b then vb else m1 y) = fun y => if y = a then va else if y = b then vb else m0 y := by
    funext y
    by_cases h1 : y = a
    · simp only [if_pos h1]
    · by_cases h2 : y = b
      · simp only [if_neg h1, if_pos h2]
      · simp only [if_neg h1, if_neg h2]; exact hm y h1 h2
  rw [← e]; exact F
theorem fr_eq3 {g h : Heap} {L : Addr} {m1 m0 : Str → Option Value} {a b : Str} (hm : ∀ y, y ≠ a → y ≠ b → m1 y = m0 y) (F : Fr g L h m1) :
    Fr g L h (fun y => if y = a then m1 a else if y = b then m1 b else m0 y) := by
  have e : m1 = fun y => if y = a then m1 a else if y = b then m1 b else m0 y := by
    funext y
    by_cases h1 : y = a
    · simp only [if_pos h1]; rw [h1]
    · by_cases h2 : y = b
      · simp only [if_neg h1, if_pos h2]; rw [h2]
      · simp only [if_neg h1, if_neg h2]; exact hm y h1 h2
  rw [← e]; exact F
section
variable {prog : Program} {w : World} {A : Around} {E : Value → Shared → Prop} {s : Shared} {h₀ : Heap} {L l : Addr} {m : Str → Option Value} {news : Led} {vs : List Value} {nn : Nat} {Q : Value → Shared → Prop}
theorem sub_at {i : Nat} {u : Tok} {v : Value} {value slice : PySem.Expr} (N : News h₀ L s.heap news) (hm : (l, listOf vs.toArray nn) ∈ news)
    (hv : vs[i]? = some v) (hz : i < 2 ^ 40) (h : Q v s) (hs : subscripted slice false (.ref l) (.int (i : Int) u) = operate [.ref l, .int (i : Int) u] (getItem (.ref l) (.int (i : Int) u)) := by with_unfolding_all rfl) : wpAny (model prog w) A (subscriptTail value slice (.ref l) (.int (i : Int) u)) Q E s :=
  tail_any (News.isList N hm).typeIs slot_list_getitem.lookup (wpAny_getItem_list (News.isList N hm) (by (first | lia | omega)) (by (first | lia | omega)) (by simpa using hv) h) hs
theorem pick_to (vs : List Value) (i : Nat) (hi : i ≤ vs.length) : (slicePick vs.toArray none (some (i : Int)) none).toList = vs.take i := by
  have e : sliceBounds none (some (i : Int)) none vs.toArray.size = (((0 : Nat) : Int), ((i : Nat) : Int), 1) := by
    simp only [sliceBounds, Option.getD_none, show (1 : Int) > 0 by decide, if_true, List.size_toArray]
    congr 1
    congr 1
    split <;> (first | lia | omega)
  rw [kmk_pick_nat _ e]
  simp
theorem slice_at {value slice : PySem.Expr} {i : Nat} {t : Tok} (F : Fr h₀ L s.heap m) (N : News h₀ L s.heap news) (hm : (l, listOf vs.toArray nn) ∈ news) (hi : i ≤ vs.length) (hz : vs.length ≤ 2 ^ 20)
    (h : ∀ D h', Fr h₀ L h' m → News h₀ L h' ((D, listOf (vs.take i).toArray 0) :: news) → (∀ p ∈ news, p.1 < D) → Q (.ref D) { s with heap := h' })
    (hs : subscripted slice false (.ref l) (.ref s.heap.objs.size) = operate [.ref s.heap.objs.size, .ref l] (getItem (.ref l) (.ref s.heap.objs.size))) (ht : ∀ r, letTemporaryGo value (.ref l) r = pure ()) :
    wpAny (model prog w) A (subscriptTail value slice (.ref l) (.ref s.heap.objs.size)) Q E { s with heap := s.heap.push { cls := .type "slice", data := .fields #[.none, .int (i : Int) t, .none] } } :=
  kmk_slice_lit F N (News.isList N hm) .none (.int _ _) (pick_to vs i hi) h hs ht (by simp only [List.size_toArray]; exact Nat.le_trans hz (by decide))
end
theorem comm_mem : ∀ {as bs : List (List Nat)} {c : List Nat}, c ∈ comm as bs → c ∈ as
  | x :: as, y :: bs, c, h => by
    unfold comm at h
    split at h
    · rcases List.mem_cons.mp h with rfl | h
      · exact .head _
      · exact .tail _ (comm_mem h)
    · exact nomatch h
  | [], [], _, h => nomatch h
  | [], _ :: _, _, h => nomatch h
  | _ :: _, [], _, h => nomatch h
theorem strsAre_take : ∀ {vs : List Value} {ls : List (List Nat)} (_ : StrsAre vs (ls.map S)) (i : Nat), StrsAre (vs.take i) ((ls.take i).map S)
  | _, _, _, 0 => .nil
  | _, [], h, i + 1 => by cases h; exact .nil
  | _, c :: ls, h, i + 1 => by
    cases h with
    | cons _ t h => exact .cons _ _ (strsAre_take h i)
theorem map_sum_le' (st : List (List Nat)) (h : ∀ y ∈ st, y.length ≤ 2) : ((st.map S).map (·.length)).sum ≤ 2 * st.length := by
  induction st with
  | nil => exact Nat.le_refl _
  | cons x r ih =>
    have h1 := ih fun y hy => h y (.tail _ hy)
    have h2 := h x (.head _)
    simp only [List.map_cons, List.sum_cons, List.length_cons, S_len] at h1 ⊢
    (first | lia | omega)
theorem two_strs {us : List Value} {x y : Str} (h : StrsAre us [x, y]) : ∃ t1 t2, us = [.str x t1, .str y t2] := by
  cases h with
  | cons _ t1 h => cases h with
    | cons _ t2 h => cases h; exact ⟨t1, t2, rfl⟩
theorem tuple_fs {w : World} {mean : ExcName → Option Value} {mg mb : Str → Option Value} {dp un : Nat} {gd : Option (List Code)} {cn : Str} {cs : Scope} {a : Addr} {ccd : Value} {cl : List (Str × Addr)} {outer : List Env} {A₀ : Around} {base h₀ : Heap} {L : Addr} {m : Str → Option Value} {s : Shared} {Q E : Value → Shared → Prop}
    {M T I l : Addr} {vs : List Value} {xs : List Str} {news : Led}
    (B : Below A₀ base outer h₀) (F : Fr h₀ L s.heap m) (X : (Mine.hd.heap_39 w.params).In h₀)
    (TT : Top Mine.hd.view_39 (looseW Mine.hd.view_39 [Str.ofString "_NO_SEP", Str.ofString "b2a_hex", Str.ofString "hexlify"]) mean mg mb h₀)
    (N : News h₀ L s.heap ((M, ({ cls := .type "map", data := .fields #[.ref T, .ref 124] } : Obj)) :: (T, ({ cls := .type "tuple", data := .seq #[.ref I] } : Obj)) :: (I, ({ cls := .type "list_iterator", data := .fields #[.ref l, .int 0 0] } : Obj)) :: news))
    (hIT : I < T) (hTM : T < M) (hne : ∀ p ∈ news, p.1 < I) (hl : h₀.IsList l vs.toArray) (hi : StrsAre vs xs) (hz : xs.length ≤ sizeLine)
    (hk : cs.kind = .function) (hd : dp + 2 < recursionLimit) (hu : un + 44 < cLine)
    (ret : ∀ D us h' tk', Fr h₀ L h' m → News h₀ L h' ((D, ({ cls := .type "tuple", data := .seq (List.toArray us) } : Obj)) :: news) → (∀ p ∈ news, p.1 < D) → StrsAre us xs → Q (.ref D) { s with heap := h', toks := tk' }) :
    wpAny (model PySem.Challenge.rw_pd0187_01.row.prog w) (ktrTop dp un gd cn cs L a ccd cl outer) (call (.type "tuple") [.ref M]) Q E s := by
  have hM := N _ (.head _)
  have hT := N _ (.tail _ (.head _))
  have hI := N _ (.tail _ (.tail _ (.head _)))
  have hlI : l ≠ I := by
    obtain ⟨o, ho, _⟩ := hl
    rintro rfl
    rw [hI.2.2] at ho; cases ho
  have hvl := hi.length
  have hMI : M ≠ I := Nat.ne_of_gt (Nat.lt_trans hIT hTM)
  have hTI : T ≠ I := Nat.ne_of_gt hIT
  have frI : ∀ h₁ : Heap, (∀ b o, b ≠ I → s.heap.get? b = some o → h₁.get? b = some o) → Fr h₀ L h₁ m := fun h₁ hk₁ =>
    ⟨F.ns.at' fun o e => hk₁ _ o (Ne.symm hI.2.1) e, fun b o e => hk₁ b o (fun q => by rw [q, hI.2.2] at e; cases e) (F.keep b o e), F.above⟩
  have W : Walks PySem.Challenge.rw_pd0187_01.row.prog w (ktrTop dp un gd cn cs L a ccd cl outer).in1.in1.in1 M _ [I] vs.toArray.size (fun i v => ∃ t, v = Value.str (xs.getD i default) t) _ :=
    walks_map (f := .ref 124) (items := vs.toArray) (H := s.heap) rfl hM.1 hT.1 (Heap.lt_size hI.1) (hl.at fun o e => F.keep _ _ e) hMI hTI hlI fun i x s₁ Q₁ E₁ hx hk₁ hQ₁ => by
      have hx' : vs[i]? = some x := by simpa using hx
      have hil : i < xs.length := by rw [← hvl]; exact (List.getElem?_eq_some_iff.mp hx').1
      obtain ⟨t, ht⟩ := hi.get i (xs[i]'hil) (List.getElem?_eq_getElem hil)
      rw [hx'] at ht
      cases ht
      refine PC.use (un := un + 4) (fspath_str w mean mg mb (xs[i]'hil) t) B (frI _ hk₁) X (News.nil : News h₀ L s₁.heap []) TT hk hd (by (first | lia | omega)) trivial fun r h' tk' nw U NI F' N' R => ?_
      obtain ⟨rfl, t', rfl⟩ := R
      exact hQ₁ _ h' tk' ⟨t', by simp [List.getD, hil]⟩ U
  refine tuple_map W.toS (fun i s hst => ⟨_, hst.1 _ _ hMI hM.1, rfl⟩) ⟨fun b o _ e => e, ⟨_, hI.1, rfl, rfl⟩⟩ (fun b hb => List.mem_range.mp hb) (List.mem_range.mpr (Heap.lt_size hM.1)) (fun s' acc hm hacc => ?_) (by simp only [List.size_toArray]; rw [hvl]; exact hz)
  obtain ⟨h', g', d', tk', os'⟩ := s'
  obtain ⟨hm1, hm2, hm3, hm4, -⟩ := hm
  dsimp only at hm1 hm2 hm3 hm4 ⊢
  subst hm2 hm3 hm4
  have hk' : ∀ b o, b ≠ I → s.heap.get? b = some o → h'.get? b = some o := fun b o hb e => hm1 b o (fun q => hb (List.mem_singleton.mp q)) e
  have F1 := frI h' hk'
  have N1 : News h₀ L h' news := fun p hp => by
    have h1 := N p (.tail _ (.tail _ (.tail _ hp)))
    exact ⟨hk' _ _ (Nat.ne_of_lt (hne p hp)) h1.1, h1.2⟩
  have hlast := ret h'.objs.size acc.toList (h'.push { cls := .type "tuple", data := .seq acc }) tk' (F1.push _) (News.push F1 N1 { cls := .type "tuple", data := .seq acc } rfl) (fun p hp => Heap.lt_size (N1 p hp).1)
    (strsAre_ofItems (by rw [← hvl]; simpa using hacc))
  exact hlast
theorem pick_ref {Dx Dy : Addr} {wx wy : List Value} {nx ny : Nat} {as bs : List (List Nat)} {news : Led} (b : Bool) (hx : (Dx, listOf (List.toArray wx) nx) ∈ news) (sx : StrsAre wx (as.map S)) (hy : (Dy, listOf (List.toArray wy) ny) ∈ news) (sy : StrsAre wy (bs.map S)) :
    ∃ D w n, (if b = true then Value.ref Dy else .ref Dx) = .ref D ∧ (D, listOf (List.toArray w) n) ∈ news ∧ StrsAre w ((if b = true then bs else as).map S) := by
  cases b
  · exact ⟨Dx, wx, nx, rfl, hx, sx⟩
  · exact ⟨Dy, wy, ny, rfl, hy, sy⟩
theorem commonpath_ (w : World) (mean : ExcName → Option Value) (mg mb : Str → Option Value) (l : Addr) (x y : Str) (t u : Tok) (as bs : List (List Nat)) (hx : x = S (47 :: joinL as)) (hy : y = S (47 :: joinL bs)) (hxl : x.length ≤ 1000) (hyl : y.length ≤ 1000) (hca : ∀ c ∈ as, 47 ∉ c ∧ c ≠ [] ∧ c ≠ [46] ∧ c.length ≤ 2) (hcb : ∀ c ∈ bs, 47 ∉ c ∧ c ≠ [] ∧ c ≠ [46] ∧ c.length ≤ 2) (hna : as.length ≤ 64) (hnb : bs.length ≤ 64) :
    PC w mean mg mb 5 171 [.ref l] (fun h => h.IsList l [.str x t, .str y u].toArray) (StrOut (S (47 :: joinL (comm as bs)))) := by
  w_top off
  k_with_none
  (k_with "call builtin:issubclass" => (k_here; k_dflt (refine' issub_tuple ?kD ?kc ?_; (case kD => exact (News.get (by k_asm) (by k_mem))); (case kc => exact rfl); k_whole)))
  (k_with "exec For Name Call cons nil" => (k_here; (with_unfolding_all refine' For_invVF ?kF0 ?k1 ?k2 ?_; (case kF0 => k_asm); (case k1 => exact rfl); (case k2 => exact rfl); k_whole)))
  (k_with "exec For Name Name cons nil" => (k_here; (with_unfolding_all refine' For_invVF ?kF0 ?k1 ?k2 ?_; (case kF0 => k_asm); (case k1 => exact rfl); (case k2 => exact rfl); k_whole)))
  (k_with "pyIter ref" => (k_here; (with_reducible show wpAny _ _ (pyIter (Value.ref _)) (fun it s₂ => LoopAtV _ _ _ _ _ _ _ _ _ it s₂) _ _); refine Stop.mk ?_))
  (k_with "eval ListComp" => (k_here; (with_reducible apply comp_evalG); (case hclos => with_unfolding_all rfl); (case hcell => decide); (case hkind => with_unfolding_all rfl); (case hnames => decide); (case hx => with_unfolding_all rfl); (case hs => intro _; with_unfolding_all rfl)))
  (k_with "pyIter ref" => (k_here; (with_reducible show wpAny _ _ (pyIter (Value.ref _)) (fun it s₂ => CG _ _ _ _ _ _ _ _ _ it s₂) _ _); refine Stop.mk ?_))
  (k_with "binaryOp Pow int int" => (k_here; (with_reducible refine pow_int_small ?kb1 ?kb2 ?kb3 ?_); (case kb1 => (first | lia | omega)); (case kb2 => (first | lia | omega)); (case kb3 => decide)))
  (k_with "binaryOp FloorDiv int int" => (k_here; (with_reducible refine floordiv_int (pow64_ne _) ?_ (Or.inl (PyProof.noPylong_of_log2 (pow64_log _ (by (first | lia | omega))))))))
  (k_with "binaryOp FloorDiv int int" => (k_here; (with_reducible refine floordiv_int (by decide) ?_ (Or.inl (PyProof.noPylong_of_log2 (by decide +kernel))))))
  (k_with "binaryOp Mod int int" => (k_here; (with_reducible refine mod_int' (by decide) ?_ (Or.inl (PyProof.noPylong_of_log2 (by decide +kernel))))))
  (k_with "eval Name" => (k_here; (with_reducible show wpAny _ _ (eval (Expr.Name _ _) (compEnvC _ _ _ _)) _ _ _); (with_unfolding_all refine' nameC_F ?N ?c ?m ?d ?k ?x ?dd ?_; (case k => exact rfl); (case x => exact rfl); (case dd => decide); (case N => with_reducible assumption); (case c => exact rfl); (case m => k_mem); (case d => k_asm); k_whole)))
  (k_with "eval Name" => (k_here; (with_reducible show wpAny _ _ (eval (Expr.Name _ _) (compEnvC _ _ _ _)) _ _ _); (with_unfolding_all refine' nameC_L ?n ?v ?k ?x ?d ?_; (case k => exact rfl); (case x => exact rfl); (case d => decide); (case n => with_reducible assumption); (case v => with_reducible assumption); k_whole)))
  (k_with "call ref" => (k_here; (first | (with_reducible show wpAny _ _ (call (Value.ref 138) _) _ _ _) | (with_reducible show wpAny _ _ (call (Value.ref 159) _) _ _ _) | (with_reducible show wpAny _ _ (call (Value.ref 44) _) _ _ _) | (with_reducible show wpAny _ _ (call (Value.ref 35) _) _ _ _)); k_dflt ((refine wpAny_call ?_); (refine' code_def ?k1 ?k2 ?k3 ?k4 ?k5 ?kA ?kF ?kK ?k6 ?k7 ?k8 ?k9 ?kB ?_ ?c2 ?c3 ?c4 ?c5); (case kA => exact rfl); (case kF => exact rfl); (case kK => first | exact rfl | assumption); (case k1 => k_asm); (case k2 => k_asm); (case k3 => k_asm); (case k4 => k_asm); (case k5 => k_asm); (case k6 => k_is); (case k7 => k_is); (case k8 => ktr_room); (case k9 => first | exact BindsTo.of_eq rfl | exact binds_K (by k_in) rfl (by k_is) rfl rfl rfl); (case c5 => decide); (case kB => exact locs rfl); (case c2 => exact rfl); (case c3 => exact rfl); (case c4 => exact rfl); k_whole; (intro _ _ _ _ _ _ _ _ _); (try dsimp only); (try k_fold))))
  (k_with "exec Assign cons ListComp" => (k_here; (with_reducible apply comp_assignG); (case hsw => with_unfolding_all rfl); (case hclos => with_unfolding_all rfl); (case hcell => decide); (case hkind => with_unfolding_all rfl); (case hnames => decide); (case hx => with_unfolding_all rfl); (case hy => with_unfolding_all rfl); (case hp => with_unfolding_all rfl); (case hs => intro _; with_unfolding_all rfl)))
  (k_with "pyIter ref" => (k_here; (with_reducible show wpAny _ _ (pyIter (Value.ref _)) (fun it s₂ => CGA _ _ _ _ _ _ _ _ _ _ it s₂) _ _); refine Stop.mk ?_))
  (k_with "pyIter str" => (k_here; (with_reducible show wpAny _ _ (pyIter (Value.str _ _)) (fun it s₂ => CGA _ _ _ _ _ _ _ _ _ _ it s₂) _ _); refine Stop.mk ?_))
  (k_with "pyIter bytes" => (k_here; (with_reducible show wpAny _ _ (pyIter (Value.bytes _ _)) (fun it s₂ => CG _ _ _ _ _ _ _ _ _ it s₂) _ _); refine Stop.mk ?_))
  (k_with "ite" => (k_here; first | (refine ite_pos (by with_reducible assumption) ?_) | (refine ite_neg (by with_reducible assumption) ?_)))
  (k_with "call ref" => (k_here; (with_reducible show wpAny _ _ (call (Value.ref 124) [Value.str _ _]) _ _ _); (k_dflt (refine' PC.useStr (fspath_str _ _ _ _ _ _) ?B ?F ?X ?N ?T ?hk ?hd ?hu trivial ?_; ((case B => k_asm); (case F => k_asm); (case X => k_asm); (case N => k_asm); (case T => k_asm); (case hk => first | exact rfl | assumption); (case hd => ktr_room); (case hu => ktr_units)); k_whole)); (intro _ _ _ _ _ _ _); (try dsimp only); (try k_sweep)))
  (k_with "call ref" => (k_here; (with_reducible show wpAny _ _ (call (Value.ref 152) [Value.str _ _]) _ _ _); (k_dflt (refine' PC.usePair (SplitAt.pc ?C _) ?B ?F ?X ?N ?T ?hk ?hd ?hu trivial ?_; (case C => with_reducible assumption); ((case B => k_asm); (case F => k_asm); (case X => k_asm); (case N => k_asm); (case T => k_asm); (case hk => first | exact rfl | assumption); (case hd => ktr_room); (case hu => ktr_units)); k_whole)); (intro _ _ _ _ _ _ _ _ _); (try dsimp only); (try k_sweep)))
  (k_with "truthy str" => (k_here; (with_reducible show wpAny _ _ (PySem.truthy (Value.str _ _)) _ _ _); (refine truthy_yes (by (first | lia | omega)) (by (first | lia | omega)) ?_)))
  (k_with "truthy ref" => (k_here; (with_reducible show wpAny _ _ (PySem.truthy (Value.ref _)) _ _ _); (k_dflt (first | (refine' truthy_listY ?mtyN ?mtym ?mtya ?mtyb ?_; (case mtyN => k_asm); (case mtym => k_mem); (case mtya => (first | lia | omega)); (case mtyb => (first | lia | omega)); k_whole) | (refine' truthy_listN ?mtnN ?mtnm ?mtna ?_; (case mtnN => k_asm); (case mtnm => k_mem); (case mtna => (first | lia | omega)); k_whole)))))
  (k_with "subscriptTail" => (k_here; (with_reducible show wpAny _ _ (subscriptTail _ _ (Value.ref _) (Value.int (-1) _)) _ _ _); k_dflt (refine' sub_last ?mslN ?mslm ?mslv ?mslz ?_ ?msls; (case mslN => k_asm); (case mslm => k_mem); (case mslv => with_reducible assumption); (case mslz => (first | lia | omega)); (case msls => with_unfolding_all rfl); k_whole)))
  (k_with "call builtin:list.pop" => (k_here; k_dflt (refine' kl_pop ?mplF ?mplN ?mple ?mplU ?mplz ?_; (case mplF => k_asm); (case mplN => k_asm); (case mple => with_reducible assumption); (case mplU => k_upd); (case mplz => with_reducible assumption); k_whole); intro _ _ _; (try k_sweep)))
  (k_with "call builtin:str.join" => (k_here; (with_reducible show wpAny _ _ (call (Value.builtin _) [Value.str _ _, Value.ref _]) _ _ _); k_dflt (refine' join_list ?mjnl ?mjni ?mjnk ?_; (case mjnl => exact News.isList (by k_asm) (by k_mem)); (case mjni => with_reducible assumption); (case mjnk => with_reducible assumption); k_whole); intro _ _))
  (k_with "call type:map" => (k_here; (with_reducible show wpAny _ _ (call (Value.type _) [Value.ref _, Value.ref _]) _ _ _); k_dflt (refine' call_map ?mmaF ?mmaN ?mmaL ?_; (case mmaF => k_asm); (case mmaN => k_asm); (case mmaL => exact (by with_reducible assumption : Heap.IsList _ _ _).at fun o e => (by k_asm : Fr _ _ _ _).keep _ _ e); k_whole); intro _ _ _ _ _ _ _ _ _; (try k_sweep)))
  (k_with "call type:tuple" => (k_here; (with_reducible show wpAny _ _ (call (Value.type _) [Value.ref _]) _ _ _); k_dflt (refine' tuple_fs ?mtfB ?mtfF ?mtfX ?mtfT ?mtfN ?mtf1 ?mtf2 ?mtf3 ?mtfl ?mtfi ?mtfz ?mtfk ?mtfd ?mtfu ?_; (case mtfB => k_asm); (case mtfF => k_asm); (case mtfX => k_asm); (case mtfT => k_asm); (case mtfN => k_asm); (case mtf1 => with_reducible assumption); (case mtf2 => with_reducible assumption); (case mtf3 => with_reducible assumption); (case mtfl => with_reducible assumption); (case mtfi => with_reducible assumption); (case mtfz => (show 2 ≤ 16777216; decide)); (case mtfk => first | exact rfl | assumption); (case mtfd => ktr_room); (case mtfu => ktr_units); k_whole); intro DP us' hB tkB F' N' lD hi1; (try k_lt lD); (obtain ⟨tp1, tp2, eus'⟩ := two_strs hi1); (subst eus'); (try k_sweep)))
  (k_with "exec Try" => (k_here; (with_reducible show wpAny _ _ (exec (Stmt.Try _ (_ :: _) _ [] _) _) _ _ _); refine wpAny_Try_except ?_))
  (k_with "call builtin:str.split" => (k_here; (with_reducible show wpAny _ _ (call (Value.builtin "str.split") [Value.str _ _, Value.str _ _]) _ _ _); refine Stop.mk ?_))
  (k_with "eval SetComp" => (k_here; (with_reducible show wpAny _ _ (eval (Expr.SetComp _ _ _ _) _) _ _ _); refine Stop.mk ?_))
  (k_with "call builtin:min" => (k_here; (with_reducible show wpAny _ _ (call (Value.builtin "min") [Value.ref _]) _ _ _); refine Stop.mk ?_))
  (k_with "call builtin:max" => (k_here; (with_reducible show wpAny _ _ (call (Value.builtin "max") [Value.ref _]) _ _ _); refine Stop.mk ?_))
  (k_with "subscriptTail" => (k_here; (with_reducible show wpAny _ _ (subscriptTail _ _ (Value.ref _) (Value.int _ _)) _ _ _); k_dflt (refine' sub_at ?msaN ?msam ?msav ?msaz ?_ ?msas; (case msaN => k_asm); (case msam => k_mem); (case msav => with_reducible assumption); (case msaz => with_reducible assumption); (case msas => with_unfolding_all rfl); k_whole)))
  (k_with "subscriptTail Name Slice ref ref" => (k_here; (with_reducible show wpAny _ _ (subscriptTail _ (PySem.Expr.Slice _ _ none _) (Value.ref _) (Value.ref _)) _ _ _); k_dflt (refine' slice_at ?mstF ?mstN ?mstm ?msti ?mstz ?_ ?msts ?mstt; (case mstF => k_asm); (case mstN => k_asm); (case mstm => k_mem); (case msti => (first | lia | omega)); (case mstz => (first | lia | omega)); (case msts => with_unfolding_all rfl); (case mstt => kmk_pure); k_whole); (intro _ _ _ _ _); (try k_sweep)))
  (k_with "binaryOp Add str str" => ((with_reducible show wpAny _ _ (binaryOp Operator.Add (Value.str _ _) (Value.str (Txt.join _ _) _)) _ _ _); refine Stop.mk ?_))
  have mFill : ∀ P : Params, (Mine.hd.heap_39 P).In {} → PySem.Challenge.rw_pd0187_01.Holds → True := by
    k_fill
    exact fun _ _ _ => trivial
  clear mFill
  refine' PC.ofC [(Str.ofString "paths", .ref l)] (fun _ _ u h => h.at fun o e => u _ _ e) ?ho ?hcd ?hbind ?hkind ?hnd ?hco ?hgen ?hk ?h
  (case ho => k_is)
  (case hcd => k_is)
  (case hbind => exact fun _ _ => BindsTo.of_eq rfl)
  (case hkind => exact rfl)
  (case hnd => decide +kernel)
  (case hco => exact rfl)
  (case hgen => exact rfl)
  (case hk => exact rfl)
  case h =>
    intro dp un gd env outer A₁ base g L s cells Q B F X T N Y pre hd hu hret
    have hsx : Txt.startswith x (Str.ofString "/") = true := by rw [hx, slash, starts_one]; rfl
    have hsy : Txt.startswith y (Str.ofString "/") = true := by rw [hy, slash, starts_one]; rfl
    have hcl := comm_len as bs
    have hcs : ∀ c ∈ comm as bs, c.length ≤ 2 := fun c hc => (hca c (comm_mem hc)).2.2.2
    have hjl := joinL_len (comm as bs) hcs
    have hms := map_sum_le' (comm as bs) hcs
    have hsum : (((comm as bs).map S).map (·.length)).sum + ((comm as bs).map S).length * (Str.ofString "/").length ≤ 16777216 := by
      rw [List.length_map, slash, S_len]
      simp only [List.length_cons, List.length_nil]; (first | lia | omega)
    have ej : Txt.join (Str.ofString "/") ((comm as bs).map S) = S (joinL (comm as bs)) := by rw [slash, ← txt_join]
    have hsz : (Str.ofString "/").length + (S (joinL (comm as bs))).length ≤ sizeLine := by
      rw [slash, S_len, S_len]
      show _ ≤ 2 ^ 24
      simp only [List.length_cons, List.length_nil]; (first | lia | omega)
    obtain ⟨oc1, oc2, rfl, hoc1, hoc2⟩ := CellsAre.two Y
    have hstr : StrsAre [.str x t, .str y u] [x, y] := .cons _ _ (.cons _ _ .nil)
    k_steps
    rename_i M1 T1 I1 hA lA lB lC hC tkC tkD tkE hD oS dS hE oC F1 N1 dC
    unfold Stop
    refine cga_tuple (L := L) (vs := [.str x tp1, .str y tp2]) (fun i nw v => ∃ D vs nn, v = .ref D ∧ (D, listOf (List.toArray vs) nn) ∈ nw ∧ StrsAre vs (Txt.split ([x, y].getD i default) (Str.ofString "/"))) rfl ⟨_, (N1 _ (.head _)).1, rfl, _, rfl⟩ (by show 2 ≤ 16777216; decide) (fun i a b y hab ⟨D, vs, nn, h1, h2, h3⟩ => ⟨D, vs, nn, h1, hab _ h2, h3⟩) rfl F1 N1 ?_ ?_
    · intro C i v s₃ m₃ E' hv hn hm hu' F3 N3
      obtain ⟨z, tz, rfl, hz, hzl⟩ : ∃ z tz, v = .str z tz ∧ [x, y].getD i default = z ∧ z.length ≤ 1000 := by
        rcases i with _ | _ | i
        · exact ⟨x, tp1, (Option.some.inj hv).symm, rfl, hxl⟩
        · exact ⟨y, tp2, (Option.some.inj hv).symm, rfl, hyl⟩
        · simp at hv
      rw [hz]
      k_steps
      unfold Stop
      refine split_push (by decide) (by show _ ≤ 16777216; (first | lia | omega)) fun l k e => ?_
      exact EltPost.some_ [(s₃.heap.objs.size, listOf (strValues l).toArray 0)] (fun p hp => by rw [List.mem_singleton.mp hp]; exact ⟨Heap.get?_push_size _ rfl, get_none _⟩) ⟨_, _, _, rfl, .head _, e ▸ strsAre_of_values l⟩ (fun b o e => Heap.get?_push_of_some _ e)
    · intro D h' tk ys all k F' N' hnew hall hlen' hres
      obtain ⟨Da, va, na, Db, vb, nb, rfl, ha1, ha2, hb1, hb2⟩ : ∃ Da va na Db vb nb, ys = [.ref Da, .ref Db] ∧ (Da, listOf (List.toArray va) na) ∈ all ∧ StrsAre va (Txt.split x (Str.ofString "/")) ∧ (Db, listOf (List.toArray vb) nb) ∈ all ∧ StrsAre vb (Txt.split y (Str.ofString "/")) := by
        match ys, hlen' with
        | [a, b], _ =>
          obtain ⟨Da, va, na, rfl, h1, h2⟩ := hres 0 a rfl
          obtain ⟨Db, vb, nb, rfl, h3, h4⟩ := hres 1 b rfl
          exact ⟨Da, va, na, Db, vb, nb, rfl, h1, h2, h3, h4⟩
      have N2 : News g L h' ((D, listOf #[.ref Da, .ref Db] k) :: (Da, listOf (List.toArray va) na) :: (Db, listOf (List.toArray vb) nb) :: [(DP, ({ cls := Value.type "tuple", data := Data.seq #[Value.str x tp1, Value.str y tp2] } : Obj)), (L + 1 + 1, oC), (L + 1, oS)]) := by
        refine cb_drop N' fun p hp => ?_
        rcases List.mem_cons.mp hp with rfl | hp
        · exact .head _
        rcases List.mem_cons.mp hp with rfl | hp
        · exact .tail _ (List.mem_append_left _ ha1)
        rcases List.mem_cons.mp hp with rfl | hp
        · exact .tail _ (List.mem_append_left _ hb1)
        exact .tail _ (List.mem_append_right _ hp)
      clear N' N1
      have F2 := F'
      clear F' F1
      k_steps
      unfold Stop
      refine comp_set (l := DP) (vs := [.str x tp1, .str y tp2]) rfl (by with_unfolding_all rfl) (by decide) (by with_unfolding_all rfl) (by decide) (by with_unfolding_all rfl) (by intro _; with_unfolding_all rfl) (Nat.succ_pos _) ?_ ⟨_, (N2 _ (.tail _ (.tail _ (.tail _ (.head _))))).1, rfl, _, rfl⟩ ?_ ?_
      · k_steps
        all_goals exact ⟨rfl, rfl⟩
      · intro C i v s₃ m₃ E' hv hn hm hu'
        obtain ⟨z, tz, rfl, hz, hzl⟩ : ∃ z tz, v = .str z tz ∧ Txt.startswith z (Str.ofString "/") = true ∧ z.length ≤ 1000 := by
          rcases i with _ | _ | i
          · exact ⟨x, tp1, (Option.some.inj hv).symm, hsx, hxl⟩
          · exact ⟨y, tp2, (Option.some.inj hv).symm, hsy, hyl⟩
          · simp at hv
        have F3 := F2.keeps hu'
        have N3 : News g L s₃.heap _ := fun p hp => ⟨hu' _ _ (N2 p hp).1, (N2 p hp).2⟩
        clear F2 N2
        k_steps
        exact ⟨by rw [hz], s₃.heap, s₃.toks, rfl, Up.refl _⟩
      · intro DS h2 tk2 up2 hDS hset
        have F3 := F2.keeps up2
        have N3 : News g L h2 ((DS, set1 (!byText w)) :: _) := fun p hp => by
          rcases List.mem_cons.mp hp with rfl | hp
          · exact new_off F2 _ hset hDS
          · exact ⟨up2 _ _ (N2 p hp).1, (N2 p hp).2⟩
        clear F2 N2
        k_steps
        refine unpack_set rfl (by intro e p q; cases q) hset fun h3 up3 => ?_
        have F4 := F3.keeps up3
        have N4 := newsUp N3 up3
        clear F3 N3
        k_steps
        rename_i h5 F5 N5
        unfold Stop
        refine cga_list (L := L) (l := D) (vs := [.ref Da, .ref Db]) (fun i nw v => ∃ D vs nn, v = .ref D ∧ (D, listOf (List.toArray vs) nn) ∈ nw ∧ StrsAre vs (([as, bs].getD i []).map S)) rfl (News.isList N5 (.tail _ (.head _))) (by show 2 ≤ 16777216; decide) (fun i a b y hab ⟨D, vs, nn, h1, h2, h3⟩ => ⟨D, vs, nn, h1, hab _ h2, h3⟩) rfl F5 N5 ?_ ?_
        · intro C i v s₃ m₃ E' hv hn hm hu' F6 N6
          obtain ⟨Di, vi, ni, ci, rfl, hmi, hvi, hci, hcl, hzi⟩ : ∃ Di vi ni ci, v = .ref Di ∧ (Di, listOf (List.toArray vi) ni) ∈ [(DS, set1 (!byText w)), (D, listOf #[.ref Da, .ref Db] k), (Da, listOf (List.toArray va) na), (Db, listOf (List.toArray vb) nb), (DP, ({ cls := Value.type "tuple", data := Data.seq #[Value.str x tp1, Value.str y tp2] } : Obj)), (L + 1 + 1, oC), (L + 1, oS)] ∧ StrsAre vi ((segs ci).map S) ∧ [as, bs].getD i [] = ci ∧ (∀ c ∈ ci, 47 ∉ c ∧ c ≠ [] ∧ c ≠ [46] ∧ c.length ≤ 2) ∧ ci.length ≤ 64 := by
            rcases i with _ | _ | i
            · exact ⟨Da, va, na, as, (Option.some.inj hv).symm, .tail _ (.tail _ (.head _)), by rw [← split_segs as fun c hc => (hca c hc).1, ← hx, ← slash]; exact ha2, rfl, hca, hna⟩
            · exact ⟨Db, vb, nb, bs, (Option.some.inj hv).symm, .tail _ (.tail _ (.tail _ (.head _))), by rw [← split_segs bs fun c hc => (hcb c hc).1, ← hy, ← slash]; exact hb2, rfl, hcb, hnb⟩
            · simp at hv
          rw [hci]
          have hvl := hvi.length
          rw [List.length_map] at hvl
          have hsl := segs_len ci
          refine comp_filter (l := Di) (vs := vi) (kp := nameV) rfl (by with_unfolding_all rfl) (by decide) (by with_unfolding_all rfl) (by decide) (by with_unfolding_all rfl) (by decide) (by intro _; with_unfolding_all rfl) (by show _ ≤ 16777216; (first | lia | omega)) ?_ (News.isList N6 hmi) ?_ ?_
          · k_steps
            all_goals exact ⟨rfl, rfl⟩
          · intro C2 j v2 s₄ m₄ E2 hv2 hn2 hm2 hu2
            obtain ⟨c0, t0, rfl, hc0⟩ : ∃ c0 t0, v2 = .str (S c0) t0 ∧ c0 ∈ segs ci := by
              have hj : j < (segs ci).length := by rw [← hvl]; exact (List.getElem?_eq_some_iff.mp hv2).1
              obtain ⟨t0, ht0⟩ := hvi.get j (S ((segs ci)[j]'hj)) (by simp [hj])
              rw [hv2] at ht0
              exact ⟨_, t0, Option.some.inj ht0, List.getElem_mem hj⟩
            have hcl0 : (S c0).length ≤ 2 := by
              rw [S_len]
              unfold segs at hc0
              rcases List.mem_cons.mp hc0 with rfl | hc0
              · exact Nat.zero_le _
              · split at hc0
                · rw [List.mem_singleton.mp hc0]; exact Nat.zero_le _
                · exact (hcl c0 hc0).2.2.2
            have F7 := F6.keeps hu2
            have N7 := newsUp N6 hu2
            clear F6 N6
            k_steps
            · exact TestPost.mk (name_yes (by assumption) (by assumption))
            · exact TestPost.mk (name_no1 (by assumption))
            · exact TestPost.mk (name_no2 (by assumption))
          · intro D2 h6 tk6 k6 up6 hD6 hf6
            refine EltPost.some_ [(D2, listOf (vi.filter nameV).toArray k6)] (fun p hp => by rw [List.mem_singleton.mp hp]; exact ⟨hf6, hD6⟩) ⟨_, _, _, rfl, .head _, ?_⟩ up6
            rw [← segs_filter ci hcl]
            exact strsAre_filter hvi
        · intro D2 h6 tk6 ys2 all2 k6 F6 N6 hnew2 hall2 hlen2 hres2
          obtain ⟨Dx, wx, nx, Dy, wy, ny, rfl, hx1, hx2, hy1, hy2⟩ : ∃ Dx wx nx Dy wy ny, ys2 = [.ref Dx, .ref Dy] ∧ (Dx, listOf (List.toArray wx) nx) ∈ all2 ∧ StrsAre wx (as.map S) ∧ (Dy, listOf (List.toArray wy) ny) ∈ all2 ∧ StrsAre wy (bs.map S) := by
            match ys2, hlen2 with
            | [a, b], _ =>
              obtain ⟨Da, va, na, rfl, h1, h2⟩ := hres2 0 a rfl
              obtain ⟨Db, vb, nb, rfl, h3, h4⟩ := hres2 1 b rfl
              exact ⟨Da, va, na, Db, vb, nb, rfl, h1, h2, h3, h4⟩
          have N7 : News g L h6 ((D2, listOf #[.ref Dx, .ref Dy] k6) :: (Dx, listOf (List.toArray wx) nx) :: (Dy, listOf (List.toArray wy) ny) :: [(L + 1 + 1, oC), (L + 1, oS)]) := by
            refine cb_drop N6 fun p hp => ?_
            rcases List.mem_cons.mp hp with rfl | hp
            · exact .head _
            rcases List.mem_cons.mp hp with rfl | hp
            · exact .tail _ (List.mem_append_left _ hx1)
            rcases List.mem_cons.mp hp with rfl | hp
            · exact .tail _ (List.mem_append_left _ hy1)
            exact .tail _ (List.mem_append_right _ (.tail _ (.tail _ (.tail _ (.tail _ (.tail _ hp))))))
          have F7 := F6
          clear F6 N6 F5 N5 hres2 hnew2 hall2 hlen2 hres hnew hall hlen'
          k_steps
          unfold Stop
          have hmm := min_max as bs
          obtain ⟨D1, w1, n1, hD1, hm1, hs1⟩ := pick_ref (news := [(D2, listOf #[.ref Dx, .ref Dy] k6), (Dx, listOf (List.toArray wx) nx), (Dy, listOf (List.toArray wy) ny), (L + 1 + 1, oC), (L + 1, oS)]) (lexG sLt nLt bs as) (.tail _ (.head _)) hx2 (.tail _ (.tail _ (.head _))) hy2
          refine call_min_two (x := .ref Dx) (y := .ref Dy) (b₀ := lexG sLt nLt bs as) rfl (News.isList N7 (.head _)) (fun s₁ Q₁ E₁ hk₁ hq₁ => rc_list_Lt hy2 hx2 (hk₁ _ _ (N7 _ (.tail _ (.tail _ (.head _)))).1) (hk₁ _ _ (N7 _ (.tail _ (.head _))).1) (by show un + 1 < cLine; (first | lia | omega)) hq₁) fun h8 tk8 up8 => ?_
          rw [hD1]
          have F8 := F7.keeps up8
          have N8 := newsUp N7 up8
          clear F7 N7
          k_steps
          unfold Stop
          (rename Fr _ _ _ _ => F9); (rename News _ _ _ _ => N9)
          obtain ⟨D3, w3, n3, hD3, hm3, hs3⟩ := pick_ref (news := [(D2, listOf #[.ref Dx, .ref Dy] k6), (Dx, listOf (List.toArray wx) nx), (Dy, listOf (List.toArray wy) ny), (L + 1 + 1, oC), (L + 1, oS)]) (lexG sGt nGt bs as) (.tail _ (.head _)) hx2 (.tail _ (.tail _ (.head _))) hy2
          refine call_max_two (x := .ref Dx) (y := .ref Dy) (b₀ := lexG sGt nGt bs as) rfl (News.isList N9 (.head _)) (fun s₁ Q₁ E₁ hk₁ hq₁ => rc_list_Gt hy2 hx2 (hk₁ _ _ (N9 _ (.tail _ (.tail _ (.head _)))).1) (hk₁ _ _ (N9 _ (.tail _ (.head _))).1) (by show un + 1 < cLine; (first | lia | omega)) hq₁) fun h10 tk10 up10 => ?_
          rw [hD3]
          have F10 := F9.keeps up10
          have N10 := newsUp N9 up10
          have N11 : News g L h10 [(D1, listOf (List.toArray w1) n1), (D3, listOf (List.toArray w3) n3), (L + 1 + 1, oC), (L + 1, oS)] := cb_drop N10 fun p hp => by
            rcases List.mem_cons.mp hp with rfl | hp
            · exact hm1
            rcases List.mem_cons.mp hp with rfl | hp
            · exact hm3
            exact .tail _ (.tail _ (.tail _ hp))
          clear F9 N9 N10
          have hlA : (if lexG sLt nLt bs as = true then bs else as).length ≤ 64 ∧ (if lexG sGt nGt bs as = true then bs else as).length ≤ 64 := ⟨by split <;> assumption, by split <;> assumption⟩
          generalize (if lexG sLt nLt bs as = true then bs else as) = ls1 at hs1 hmm hlA
          generalize (if lexG sGt nGt bs as = true then bs else as) = ls2 at hs3 hmm hlA
          obtain ⟨hgood, hcomm⟩ := hmm
          have hl1 := hs1.length
          have hl3 := hs3.length
          rw [List.length_map] at hl1 hl3
          k_steps
          (rename Fr _ _ _ _ => F13); (rename News _ _ _ _ => N13)
          refine call_enumerate_list (News.isList N13 (.head _)) fun h14 he hit hz up14 => ?_
          obtain ⟨m0, F14, em0⟩ := name_fr (F13.keeps up14)
          have N14 := newsUp N13 up14
          have hD1L : D1 ≠ L := (N13 _ (.head _)).2.1
          have ltN : ∀ p ∈ [(D1, listOf (List.toArray w1) n1), (D3, listOf (List.toArray w3) n3), (L + 1 + 1, oC), (L + 1, oS)], p.1 < _ := fun p hp => Heap.lt_size (N13 p hp).1
          have hLs := F13.ns.lt
          have hgs := Nat.le_of_lt (Nat.lt_of_le_of_lt F13.above hLs)
          have hD1lt := ltN _ (.head _)
          dsimp only at hD1lt hLs he hit ⊢
          have hes := hz
          refine (WalksT.enumerate rfl _ _ D1 (by exact Nat.ne_of_gt (Nat.lt_succ_self _)) (Nat.ne_of_lt (Nat.lt_succ_of_lt hD1lt)) (Nat.ne_of_lt hD1lt) w1.toArray).self 0 _ _ _ ⟨⟨_, he⟩, hit, News.isList N14 (.head _)⟩ ?_
          refine ⟨_, _, _, _, _, _, _, (fun i v0 v1 => ∃ t x, w1.toArray[i]? = some x ∧ v0 = .int (i : Int) t ∧ v1 = x), _, [(D1, listOf (List.toArray w1) n1), (D3, listOf (List.toArray w3) n3), (L + 1 + 1, oC), (L + 1, oS)],
            (fun i m nx => (∀ z, z ≠ Str.ofString "i" → z ≠ Str.ofString "c" → m z = m0 z) ∧ nx = [(D1, listOf (List.toArray w1) n1), (D3, listOf (List.toArray w3) n3), (L + 1 + 1, oC), (L + 1, oS)] ∧ ∀ j, j < i → ls1.getD j [] = ls2.getD j []),
            rfl, WalksT.enumerate rfl _ _ D1 (by exact Nat.ne_of_gt (Nat.lt_succ_self _)) (Nat.ne_of_lt (Nat.lt_succ_of_lt hD1lt)) (Nat.ne_of_lt hD1lt) w1.toArray, ?_, ?_, ?_, ?_, ⟨⟨_, he⟩, hit, News.isList N14 (.head _)⟩, F14, N14, ⟨fun z _ _ => rfl, rfl, fun j hj => absurd hj (Nat.not_lt_zero _)⟩, ?_, ?_⟩
          · rintro i vals ⟨t, x, hx, rfl⟩
            exact ⟨_, _, rfl, t, x, hx, rfl, rfl⟩
          · intro hm
            rcases List.mem_cons.mp hm with q | hm
            · exact absurd q (Nat.ne_of_lt (Nat.lt_succ_of_lt hLs))
            rcases List.mem_cons.mp hm with q | hm
            · exact absurd q (Nat.ne_of_lt hLs)
            · exact hD1L (List.mem_singleton.mp hm).symm
          · intro b hb
            rcases List.mem_cons.mp hb with rfl | hb
            · exact Heap.get?_none_of_le (Nat.le_succ_of_le hgs)
            · rw [List.mem_singleton.mp hb]
              exact Heap.get?_none_of_le hgs
          · intro p hp hm
            have hlt := ltN p hp
            rcases List.mem_cons.mp hm with q | hm
            · exact absurd q (Nat.ne_of_lt (Nat.lt_succ_of_lt hlt))
            · exact absurd (List.mem_singleton.mp hm) (Nat.ne_of_lt hlt)
          · rintro i v0 v1 m₁ news₁ s₁ own ⟨h15, tk15, rfl⟩ hi15 ⟨t15, x15, hx15, rfl, rfl⟩ ⟨hm15, rfl, hj15⟩ hmap15 hown F15 N15
            have N16 : News g L h15 ([(D1, listOf (List.toArray w1) n1), (D3, listOf (List.toArray w3) n3), (L + 1 + 1, oC), (L + 1, oS)] ++ own) := fun p hp => N15 p (by
              rcases List.mem_append.mp hp with hp | hp
              · exact List.mem_append_right _ hp
              · exact List.mem_append_left _ hp)
            have F16 : Fr g L h15 (fun y => if y = Str.ofString "c" then some v1 else if y = Str.ofString "i" then some (.int (i : Int) t15) else m0 y) := fr_eq2 (fun y h1 h2 => by rw [hm15 y h2 h1]) F15
            clear F15 N15 F14 N14
            subst em0
            have hi1 : i < ls1.length := by rw [← hl1]; simpa using hi15
            have hi3 : i < ls2.length := hgood i hi1 hj15
            obtain ⟨tc1, hc1⟩ := hs1.get i (S (ls1.getD i [])) (by simp [List.getD, hi1])
            obtain ⟨tc3, hc3⟩ := hs3.get i (S (ls2.getD i [])) (by simp [List.getD, hi3])
            have ev1 : v1 = .str (S (ls1.getD i [])) tc1 := by
              have : w1[i]? = some v1 := by simpa using hx15
              rw [hc1] at this
              exact (Option.some.inj this).symm
            subst ev1
            have hi63 : i < 2 ^ 40 := by (first | lia | omega)
            by_cases heq : ls1.getD i [] = ls2.getD i []
            · have hcnd : ¬ ((S (ls1.getD i []) != S (ls2.getD i [])) = true) := by rw [bne, S_beq, decide_eq_true heq]; decide
              k_steps
              refine ⟨rfl, _, _, _, _, rfl, F16, fun p hp => N16 p (by
                rcases List.mem_append.mp hp with hp | hp
                · exact List.mem_append_right _ hp
                · exact List.mem_append_left _ hp), rfl, fun z h1 h2 => by simp only [if_neg h1, if_neg h2], rfl, fun j hj => ?_⟩
              rcases Nat.lt_or_ge j i with q | q
              · exact hj15 j q
              · rw [show j = i by (first | lia | omega)]; exact heq
            · have hcnd : (S (ls1.getD i []) != S (ls2.getD i [])) = true := by rw [bne, S_beq, decide_eq_false heq]; rfl
              have hcb2 := comm_break ls1 ls2 i hi1 hi3 hj15 heq
              rw [hcomm] at hcb2
              have hS' : StrsAre (w1.take i).toArray.toList ((comm as bs).map S) := by
                rw [hcb2]; exact strsAre_take hs1 i
              k_steps
              unfold Stop
              rw [ej]
              refine SB.add ?_ hsz
              intro t' k'
              rw [slash, S_app]
              k_steps
              dsimp only
              exact hret _ _ _ _ [] (by assumption) News.nil ⟨rfl, _, rfl⟩
          · rintro h15 tk15 m' news' F15 N15 hmap15 ⟨hm15, rfl, hj15⟩
            rw [List.size_toArray, hl1] at hj15
            have hw := comm_whole ls1 ls2 (good_end hgood hj15) hj15
            rw [hcomm] at hw
            have F16 : Fr g L h15 (fun y => if y = Str.ofString "c" then m' (Str.ofString "c") else if y = Str.ofString "i" then m' (Str.ofString "i") else m0 y) := fr_eq3 (fun y h1 h2 => hm15 y h2 h1) F15
            clear F15 F14 N14
            subst em0
            rw [← hw] at hs1
            have hS' : StrsAre w1.toArray.toList ((comm as bs).map S) := hs1
            k_steps
            unfold Stop
            rw [ej]
            refine SB.add ?_ hsz
            intro t' k'
            rw [slash, S_app]
            k_steps
            dsimp only
            exact hret _ _ _ _ [] (by assumption) News.nil ⟨rfl, _, rfl⟩

end Mine
end
section
open PySem PySem.W PySem.Spec PySem.Calls PyProof.Rows
set_option Elab.async false
set_option maxRecDepth 100000
set_option maxHeartbeats 8000000
set_option pp.maxSteps 3000
namespace Mine

theorem split_ (w : World) (mean : ExcName → Option Value) (mg mb : Str → Option Value) (x : Str) (t : Tok) (a b : List Nat) (hx : x = S (a ++ 47 :: b)) (hb : 47 ∉ b) (hn : a.length + b.length ≤ 1000)
    (ha : a = [] ∨ (a.getLast? ≠ some 47 ∧ a ++ [47] ≠ List.replicate (a.length + 1) 47)) :
    PC w mean mg mb 4 152 [.str x t] (fun _ => True) (PairOut (S (if a = [] then [47] else a)) (S b)) := by
  w_top off
  k_with_none
  (k_with "call builtin:issubclass" => (k_here; k_dflt (refine' issub_tuple ?kD ?kc ?_; (case kD => exact (News.get (by k_asm) (by k_mem))); (case kc => exact rfl); k_whole)))
  (k_with "exec For Name Call cons nil" => (k_here; (with_unfolding_all refine' For_invVF ?kF0 ?k1 ?k2 ?_; (case kF0 => k_asm); (case k1 => exact rfl); (case k2 => exact rfl); k_whole)))
  (k_with "exec For Name Name cons nil" => (k_here; (with_unfolding_all refine' For_invVF ?kF0 ?k1 ?k2 ?_; (case kF0 => k_asm); (case k1 => exact rfl); (case k2 => exact rfl); k_whole)))
  (k_with "pyIter ref" => (k_here; (with_reducible show wpAny _ _ (pyIter (Value.ref _)) (fun it s₂ => LoopAtV _ _ _ _ _ _ _ _ _ it s₂) _ _); refine Stop.mk ?_))
  (k_with "eval ListComp" => (k_here; (with_reducible apply comp_evalG); (case hclos => with_unfolding_all rfl); (case hcell => decide); (case hkind => with_unfolding_all rfl); (case hnames => decide); (case hx => with_unfolding_all rfl); (case hs => intro _; with_unfolding_all rfl)))
  (k_with "pyIter ref" => (k_here; (with_reducible show wpAny _ _ (pyIter (Value.ref _)) (fun it s₂ => CG _ _ _ _ _ _ _ _ _ it s₂) _ _); refine Stop.mk ?_))
  (k_with "binaryOp Pow int int" => (k_here; (with_reducible refine pow_int_small ?kb1 ?kb2 ?kb3 ?_); (case kb1 => (first | lia | omega)); (case kb2 => (first | lia | omega)); (case kb3 => decide)))
  (k_with "binaryOp FloorDiv int int" => (k_here; (with_reducible refine floordiv_int (pow64_ne _) ?_ (Or.inl (PyProof.noPylong_of_log2 (pow64_log _ (by (first | lia | omega))))))))
  (k_with "binaryOp FloorDiv int int" => (k_here; (with_reducible refine floordiv_int (by decide) ?_ (Or.inl (PyProof.noPylong_of_log2 (by decide +kernel))))))
  (k_with "binaryOp Mod int int" => (k_here; (with_reducible refine mod_int' (by decide) ?_ (Or.inl (PyProof.noPylong_of_log2 (by decide +kernel))))))
  (k_with "eval Name" => (k_here; (with_reducible show wpAny _ _ (eval (Expr.Name _ _) (compEnvC _ _ _ _)) _ _ _); (with_unfolding_all refine' nameC_F ?N ?c ?m ?d ?k ?x ?dd ?_; (case k => exact rfl); (case x => exact rfl); (case dd => decide); (case N => with_reducible assumption); (case c => exact rfl); (case m => k_mem); (case d => k_asm); k_whole)))
  (k_with "eval Name" => (k_here; (with_reducible show wpAny _ _ (eval (Expr.Name _ _) (compEnvC _ _ _ _)) _ _ _); (with_unfolding_all refine' nameC_L ?n ?v ?k ?x ?d ?_; (case k => exact rfl); (case x => exact rfl); (case d => decide); (case n => with_reducible assumption); (case v => with_reducible assumption); k_whole)))
  (k_with "call ref" => (k_here; k_dflt ((refine wpAny_call ?_); (refine' code_def ?k1 ?k2 ?k3 ?k4 ?k5 ?kA ?kF ?kK ?k6 ?k7 ?k8 ?k9 ?kB ?_ ?c2 ?c3 ?c4 ?c5); (case kA => exact rfl); (case kF => exact rfl); (case kK => first | exact rfl | assumption); (case k1 => k_asm); (case k2 => k_asm); (case k3 => k_asm); (case k4 => k_asm); (case k5 => k_asm); (case k6 => k_is); (case k7 => k_is); (case k8 => ktr_room); (case k9 => first | exact BindsTo.of_eq rfl | exact binds_K (by k_in) rfl (by k_is) rfl rfl rfl); (case c5 => decide); (case kB => exact locs rfl); (case c2 => exact rfl); (case c3 => exact rfl); (case c4 => exact rfl); k_whole; (intro _ _ _ _ _ _ _ _ _); (try dsimp only); (try k_fold))))
  (k_with "call ref" => (k_here; (with_reducible show wpAny _ _ (call (Value.ref 124) [Value.str _ _]) _ _ _); (k_dflt (refine' PC.useStr (fspath_str _ _ _ _ _ _) ?B ?F ?X ?N ?T ?hk ?hd ?hu trivial ?_; ((case B => k_asm); (case F => k_asm); (case X => k_asm); (case N => k_asm); (case T => k_asm); (case hk => first | exact rfl | assumption); (case hd => ktr_room); (case hu => ktr_units)); k_whole)); (intro _ _ _ _ _ _ _); (try dsimp only); (try k_sweep)))
  have mFill : ∀ P : Params, (Mine.hd.heap_39 P).In {} → PySem.Challenge.rw_pd0187_01.Holds → True := by
    k_fill
    exact fun _ _ _ => trivial
  clear mFill
  refine' PC.of [(Str.ofString "p", .str x t)] (fun _ _ _ h => h) ?ho ?hcd ?hbind ?hloc ?hco ?hgen ?hk ?hcell ?h
  (case ho => k_is)
  (case hcd => k_is)
  (case hbind => exact fun _ _ => BindsTo.of_eq rfl)
  (case hloc => exact locs rfl)
  (case hco => exact rfl)
  (case hgen => exact rfl)
  (case hk => exact rfl)
  (case hcell => decide)
  case h =>
    intro dp un gd env outer A₁ base g L s Q B F X T N pre hd hu hret
    have hxl : x.length ≤ 1001 := by rw [hx, S_len]; simp; (first | lia | omega)
    have e1 : Txt.rfind x (Str.ofString "/") = (a.length : Int) := by rw [hx, slash, rfind_last _ _ hb]
    have e2 : Txt.slice x none (some (Txt.rfind x (Str.ofString "/") + 1)) = S (a ++ [47]) := by
      rw [e1, hx, slice_to _ _ (by simp; (first | lia | omega))]
      congr 1
      have : ((a.length : Int) + 1).toNat = a.length + 1 := by (first | lia | omega)
      rw [this]; simp [List.take_append, List.take_of_length_le]
    have e3 : Txt.slice x (some (Txt.rfind x (Str.ofString "/") + 1)) none = S b := by
      rw [e1, hx, slice_from _ _ (by simp; (first | lia | omega))]
      congr 1
      have : ((a.length : Int) + 1).toNat = a.length + 1 := by (first | lia | omega)
      rw [this]; simp [List.drop_append]
    have e4 : (S (a ++ [47])).length = a.length + 1 := by rw [S_len]; simp
    have e5 : Txt.mul (Str.ofString "/") ((a.length + 1 : Nat) : Int) = S (List.replicate (a.length + 1) 47) := by rw [slash, mul_one _ (by (first | lia | omega))]
    k_steps
    · rename_i F2 N2 l2
      (rename (Txt.slice x none _ != Txt.mul _ _) = true => hc)
      rw [e2, e4, e5] at hc
      have ha' : a ≠ [] := fun q => by subst q; simp at hc
      have hh : a.getLast? ≠ some 47 := by rcases ha with q | q; exact absurd q ha'; exact q.1
      rw [e2, e3, slash, rstrip_one _ hh] at N2
      rw [if_neg ha'] at hret
      exact hret _ _ _ _ _ F2 (cb_drop N2 (fun p hp => by rw [List.mem_singleton.mp hp]; exact .head _)) ⟨_, _, _, rfl, rfl⟩
    · rename_i F2 N2 l2
      (rename (Txt.slice x none _ != Txt.mul _ _) = false => hc)
      rw [e2, e4, e5] at hc
      have ha' : a = [] := by
        rcases ha with q | q
        · exact q
        · exact absurd (S_inj (by simpa using hc)) q.2
      rw [e2, e3] at N2
      rw [if_pos ha'] at hret
      subst ha'
      exact hret _ _ _ _ _ F2 (cb_drop N2 (fun p hp => by rw [List.mem_singleton.mp hp]; exact .head _)) ⟨_, _, _, rfl, rfl⟩
    · exfalso
      (rename ((Txt.slice x none _).length : Int) = 0 => hc)
      rw [e2, e4] at hc
      (first | lia | omega)
end Mine
end
section
open PySem PySem.W PySem.Spec PySem.Calls PyProof.Rows
set_option Elab.async false
set_option maxRecDepth 100000
set_option maxHeartbeats 8000000
set_option pp.maxSteps 3000
namespace Mine
theorem pathL_shape (os : List Int) (o : Int) (hb : ∀ o ∈ os, 0 ≤ o ∧ o < 256) :
    ∃ a, pathL (os ++ [o]) = a ++ 47 :: hex2 o ∧ (a = [] ∨ (a.getLast? ≠ some 47 ∧ a ++ [47] ≠ List.replicate (a.length + 1) 47)) ∧ (if a = [] then [47] else a) = pathL os := by
  by_cases h : os = []
  · subst h
    exact ⟨[], rfl, .inl rfl, rfl⟩
  · refine ⟨pathL os, pathL_snoc os o h, .inr ⟨pathL_last os h hb, fun q => ?_⟩, if_neg (by simp [pathL])⟩
    obtain ⟨o', r, rfl⟩ : ∃ o' r, os = o' :: r := ⟨os.head h, os.tail, (List.cons_head_tail h).symm⟩
    have h1 : hx (o' / 16) ∈ pathL (o' :: r) ++ [47] := by
      simp only [pathL, List.map_cons, joinL_cons, hex2]
      simp
    rw [q] at h1
    have h2 := List.eq_of_mem_replicate h1
    have h3 := hb o' (.head _)
    have h4 := hx_le (o' / 16) (by (first | lia | omega)) (by (first | lia | omega))
    (first | lia | omega)

structure RdSt where
  rest : List Nat
  t : Tok
  lo : Addr
  ws : List Value
  nn : Nat
  u : Str → Option Value

theorem law_read (w : World) (mean : ExcName → Option Value) (mg mb : Str → Option Value) (x : Str) (t : Tok) (os : List Int) (hx : x = S (pathL os)) (hb : ∀ o ∈ os, 0 ≤ o ∧ o < 256) (hn : os.length ≤ 64) :
    PC w mean mg mb 5 198 [.str x t] (fun _ => True) (IntsOut os) := by
  w_top off
  k_with_none
  (k_with "call builtin:issubclass" => (k_here; k_dflt (refine' issub_tuple ?kD ?kc ?_; (case kD => exact (News.get (by k_asm) (by k_mem))); (case kc => exact rfl); k_whole)))
  (k_with "exec For Name Call cons nil" => (k_here; (with_unfolding_all refine' For_invVF ?kF0 ?k1 ?k2 ?_; (case kF0 => k_asm); (case k1 => exact rfl); (case k2 => exact rfl); k_whole)))
  (k_with "exec For Name Name cons nil" => (k_here; (with_unfolding_all refine' For_invVF ?kF0 ?k1 ?k2 ?_; (case kF0 => k_asm); (case k1 => exact rfl); (case k2 => exact rfl); k_whole)))
  (k_with "pyIter ref" => (k_here; (with_reducible show wpAny _ _ (pyIter (Value.ref _)) (fun it s₂ => LoopAtV _ _ _ _ _ _ _ _ _ it s₂) _ _); refine Stop.mk ?_))
  (k_with "eval ListComp" => (k_here; (with_reducible apply comp_evalG); (case hclos => with_unfolding_all rfl); (case hcell => decide); (case hkind => with_unfolding_all rfl); (case hnames => decide); (case hx => with_unfolding_all rfl); (case hs => intro _; with_unfolding_all rfl)))
  (k_with "pyIter ref" => (k_here; (with_reducible show wpAny _ _ (pyIter (Value.ref _)) (fun it s₂ => CG _ _ _ _ _ _ _ _ _ it s₂) _ _); refine Stop.mk ?_))
  (k_with "binaryOp Pow int int" => (k_here; (with_reducible refine pow_int_small ?kb1 ?kb2 ?kb3 ?_); (case kb1 => (first | lia | omega)); (case kb2 => (first | lia | omega)); (case kb3 => decide)))
  (k_with "binaryOp FloorDiv int int" => (k_here; (with_reducible refine floordiv_int (pow64_ne _) ?_ (Or.inl (PyProof.noPylong_of_log2 (pow64_log _ (by (first | lia | omega))))))))
  (k_with "binaryOp FloorDiv int int" => (k_here; (with_reducible refine floordiv_int (by decide) ?_ (Or.inl (PyProof.noPylong_of_log2 (by decide +kernel))))))
  (k_with "binaryOp Mod int int" => (k_here; (with_reducible refine mod_int' (by decide) ?_ (Or.inl (PyProof.noPylong_of_log2 (by decide +kernel))))))
  (k_with "eval Name" => (k_here; (with_reducible show wpAny _ _ (eval (Expr.Name _ _) (compEnvC _ _ _ _)) _ _ _); (with_unfolding_all refine' nameC_F ?N ?c ?m ?d ?k ?x ?dd ?_; (case k => exact rfl); (case x => exact rfl); (case dd => decide); (case N => with_reducible assumption); (case c => exact rfl); (case m => k_mem); (case d => k_asm); k_whole)))
  (k_with "eval Name" => (k_here; (with_reducible show wpAny _ _ (eval (Expr.Name _ _) (compEnvC _ _ _ _)) _ _ _); (with_unfolding_all refine' nameC_L ?n ?v ?k ?x ?d ?_; (case k => exact rfl); (case x => exact rfl); (case d => decide); (case n => with_reducible assumption); (case v => with_reducible assumption); k_whole)))
  (k_with "call ref" => (k_here; (first | (with_reducible show wpAny _ _ (call (Value.ref 138) _) _ _ _) | (with_reducible show wpAny _ _ (call (Value.ref 159) _) _ _ _) | (with_reducible show wpAny _ _ (call (Value.ref 44) _) _ _ _) | (with_reducible show wpAny _ _ (call (Value.ref 35) _) _ _ _)); k_dflt ((refine wpAny_call ?_); (refine' code_def ?k1 ?k2 ?k3 ?k4 ?k5 ?kA ?kF ?kK ?k6 ?k7 ?k8 ?k9 ?kB ?_ ?c2 ?c3 ?c4 ?c5); (case kA => exact rfl); (case kF => exact rfl); (case kK => first | exact rfl | assumption); (case k1 => k_asm); (case k2 => k_asm); (case k3 => k_asm); (case k4 => k_asm); (case k5 => k_asm); (case k6 => k_is); (case k7 => k_is); (case k8 => ktr_room); (case k9 => first | exact BindsTo.of_eq rfl | exact binds_K (by k_in) rfl (by k_is) rfl rfl rfl); (case c5 => decide); (case kB => exact locs rfl); (case c2 => exact rfl); (case c3 => exact rfl); (case c4 => exact rfl); k_whole; (intro _ _ _ _ _ _ _ _ _); (try dsimp only); (try k_fold))))
  (k_with "exec Assign cons ListComp" => (k_here; (with_reducible apply comp_assignG); (case hsw => with_unfolding_all rfl); (case hclos => with_unfolding_all rfl); (case hcell => decide); (case hkind => with_unfolding_all rfl); (case hnames => decide); (case hx => with_unfolding_all rfl); (case hy => with_unfolding_all rfl); (case hp => with_unfolding_all rfl); (case hs => intro _; with_unfolding_all rfl)))
  (k_with "pyIter ref" => (k_here; (with_reducible show wpAny _ _ (pyIter (Value.ref _)) (fun it s₂ => CGA _ _ _ _ _ _ _ _ _ _ it s₂) _ _); refine Stop.mk ?_))
  (k_with "pyIter str" => (k_here; (with_reducible show wpAny _ _ (pyIter (Value.str _ _)) (fun it s₂ => CGA _ _ _ _ _ _ _ _ _ _ it s₂) _ _); refine Stop.mk ?_))
  (k_with "pyIter bytes" => (k_here; (with_reducible show wpAny _ _ (pyIter (Value.bytes _ _)) (fun it s₂ => CG _ _ _ _ _ _ _ _ _ it s₂) _ _); refine Stop.mk ?_))
  (k_with "ite" => (k_here; first | (refine ite_pos (by with_reducible assumption) ?_) | (refine ite_neg (by with_reducible assumption) ?_)))
  (k_with "call ref" => (k_here; (with_reducible show wpAny _ _ (call (Value.ref 124) [Value.str _ _]) _ _ _); (k_dflt (refine' PC.useStr (fspath_str _ _ _ _ _ _) ?B ?F ?X ?N ?T ?hk ?hd ?hu trivial ?_; ((case B => k_asm); (case F => k_asm); (case X => k_asm); (case N => k_asm); (case T => k_asm); (case hk => first | exact rfl | assumption); (case hd => ktr_room); (case hu => ktr_units)); k_whole)); (intro _ _ _ _ _ _ _); (try dsimp only); (try k_sweep)))
  (k_with "call ref" => (k_here; (with_reducible show wpAny _ _ (call (Value.ref 152) [Value.str _ _]) _ _ _); (k_dflt (refine' PC.usePair (SplitAt.pc ?C _) ?B ?F ?X ?N ?T ?hk ?hd ?hu trivial ?_; (case C => with_reducible assumption); ((case B => k_asm); (case F => k_asm); (case X => k_asm); (case N => k_asm); (case T => k_asm); (case hk => first | exact rfl | assumption); (case hd => ktr_room); (case hu => ktr_units)); k_whole)); (intro _ _ _ _ _ _ _ _ _); (try dsimp only); (try k_sweep)))
  have mFill : ∀ P : Params, (Mine.hd.heap_39 P).In {} → PySem.Challenge.rw_pd0187_01.Holds → True := by
    k_fill
    exact fun _ _ _ => trivial
  clear mFill
  refine' PC.of [(Str.ofString "way", .str x t)] (fun _ _ _ h => h) ?ho ?hcd ?hbind ?hloc ?hco ?hgen ?hk ?hcell ?h
  (case ho => k_is)
  (case hcd => k_is)
  (case hbind => exact fun _ _ => BindsTo.of_eq rfl)
  (case hloc => exact locs rfl)
  (case hco => exact rfl)
  (case hgen => exact rfl)
  (case hk => exact rfl)
  (case hcell => decide)
  case h =>
    intro dp un gd env outer A₁ base g L s Q B F X T N pre hd hu hret
    have hxl : x.length = (pathL os).length := by rw [hx, S_len]
    have hpl := pathL_len os
    k_steps
    rename_i la h3 l1 h2 h1 F1 N1 h0 tk0 t0 u0 v0 R0 F0 N0 U0
    unfold Stop
    have hpl2 : os.length ≤ (pathL os).length := by
      have : ∀ xs : List Int, xs.length ≤ (joinL (xs.map hex2)).length := by
        intro xs
        induction xs with
        | nil => exact Nat.zero_le _
        | cons y r ih =>
          rw [List.map_cons, joinL_cons, List.length_append, hex2_len]
          have : (joinL (r.map hex2)).length ≤ (tailJ (r.map hex2)).length := by cases r <;> simp [tailJ, joinL]
          simp only [List.length_cons]; (first | lia | omega)
      have := this os
      simp only [pathL, List.length_cons]; (first | lia | omega)
    refine loop_range (n := (pathL os).length) (fun i (c : RdSt) => c.rest = pathL (os.take (os.length - i)) ∧ IntsAre c.ws (os.drop (os.length - i)))
      (fun c y => if y = Str.ofString "rest" then some (Value.str (S c.rest) c.t) else if y = Str.ofString "octets" then some (Value.ref c.lo) else c.u y)
      (fun c => [(c.lo, listOf c.ws.toArray c.nn)]) ⟨pathL os, t, la, [], 0, fun y => List.lookup y [(Str.ofString "way", Value.str x t)].reverse⟩ rfl R0 (by rw [hxl]) (by (first | lia | omega)) F0 N0 ?_ (fun z hz => by rw [← hx]) (fun _ h => h) ?_ ?_
    · simp only [Nat.sub_zero, List.take_length, List.drop_length]
      exact ⟨trivial, .nil⟩
    · intro i c t1 h tk own hi hc hoff F' N'
      obtain ⟨rest, rt, lo, ws, nn, u⟩ := c
      change OwnOff own [lo] at hoff
      dsimp only at hc F' N' ⊢
      obtain ⟨hrest, hws⟩ := hc
      have hlen := hws.length
      rw [List.length_drop] at hlen
      by_cases hk : os.length ≤ i
      · have e0 : os.length - i = 0 := by (first | lia | omega)
        rw [e0, List.take_zero] at hrest
        have hcnd : ¬ ((S rest != Str.ofString "/") = true) := by rw [hrest, slash]; simp [pathL, joinL]
        k_steps
        refine JS.mk_ ⟨rest, rt, lo, ws, nn, u⟩ (by assumption) (by assumption) ?_ (fun z hz => by simp only [if_neg hz]) (fun p hp => List.mem_append_left _ hp) (fun p hp => List.mem_append_right _ hp) hoff
        have e1 : os.length - (i + 1) = 0 := by (first | lia | omega)
        rw [e0] at hws
        exact ⟨by rw [e1]; exact hrest, by rw [e1]; exact hws⟩
      · obtain ⟨k, ek⟩ : ∃ k, os.length - i = k + 1 := ⟨os.length - i - 1, by (first | lia | omega)⟩
        have hkl : k < os.length := by (first | lia | omega)
        have etake : os.take (k + 1) = os.take k ++ [os[k]'hkl] := by rw [List.take_add_one, List.getElem?_eq_getElem hkl]; rfl
        have edrop : os.drop k = os[k]'hkl :: os.drop (k + 1) := List.drop_eq_getElem_cons hkl
        have ek' : os.length - (i + 1) = k := by (first | lia | omega)
        generalize os[k]'hkl = o at etake edrop
        have ho : 0 ≤ o ∧ o < 256 := hb o (List.mem_of_mem_take (etake ▸ List.mem_append_right _ (.head _)))
        have hbk : ∀ o ∈ os.take k, 0 ≤ o ∧ o < 256 := fun o h => hb o (List.mem_of_mem_take h)
        obtain ⟨a, ea, ha, hra⟩ := pathL_shape (os.take k) o hbk
        rw [ek, etake, ea] at hrest
        have hlk : a.length ≤ 3 * os.length + 1 := by
          have h9 := pathL_len (os.take k ++ [o])
          rw [ea] at h9
          simp only [List.length_append, List.length_cons, List.length_nil, List.length_take] at h9
          (first | lia | omega)
        have hcnd : (S rest != Str.ofString "/") = true := by
          rw [hrest, slash, bne, S_beq, decide_eq_false]; rfl
          intro q
          have := congrArg List.length q
          simp [hex2] at this
        have HPC : SplitAt w mean mg mb (S rest) (S (pathL (os.take k))) (S (hex2 o)) := by
          intro t'
          rw [← hra]
          exact split_ w mean mg mb (S rest) t' a (hex2 o) (by rw [hrest]) (hex2_free o ho.1 ho.2) (by rw [hex2_len]; (first | lia | omega)) ha
        k_steps
        rename_i h6 tk6 lp tp tp2 u5 ni5 h5 F5 N5
        unfold Stop
        refine cga_str (L := L) (fun i nw y => ∃ t', y = .int ([o / 16, o % 16].getD i 0) t') rfl (by show _ ≤ 2 ^ 24; simp [S, hex2]) (fun _ _ _ _ _ h => h) rfl F5 N5 ?_ ?_
        · intro C j ch u1 s₃ m₃ E' hv hn' hm hu' F3 N3
          have hch : ch = Mine.hx ([o / 16, o % 16].getD j 0) ∧ 0 ≤ [o / 16, o % 16].getD j 0 ∧ [o / 16, o % 16].getD j 0 < 16 := by
            rcases j with _ | _ | j
            · simp [S, hex2] at hv; exact ⟨hv.symm, by simp; (first | lia | omega), by simp; (first | lia | omega)⟩
            · simp [S, hex2] at hv; exact ⟨hv.symm, by simp; (first | lia | omega), by simp; (first | lia | omega)⟩
            · simp [S, hex2] at hv
          k_steps
          refine EltPost.none_ ?_ (Up.refl _)
          rw [hch.1, find_hx _ hch.2.1 hch.2.2]
          exact ⟨_, rfl⟩
        · intro D h' tk' ys all k' F' N' hnew hall hlen' hres
          have hys : ∃ ta tb, ys = [.int (o / 16) ta, .int (o % 16) tb] := by
            have hI : IntsAre ys [o / 16, o % 16] := intsAre_of (by rw [hlen']; rfl) hres
            cases hI with
            | cons _ ta r1 =>
              cases r1 with
              | cons _ tb r2 => cases r2; exact ⟨ta, tb, rfl⟩
          obtain ⟨ta, tb, rfl⟩ := hys
          have N6 : News g L h' ((D, listOf #[.int (o / 16) ta, .int (o % 16) tb] k') :: (lp, { cls := .type "tuple", data := .seq #[.str (S (pathL (os.take k))) tp, .str (S (hex2 o)) tp2] }) :: (lo, listOf ws.toArray nn) :: own) := by
            refine cb_drop N' fun p hp => ?_
            rcases List.mem_cons.mp hp with rfl | hp
            · exact .head _
            · exact .tail _ (List.mem_append_right _ hp)
          clear N' N5 F5 hnew hall
          have hoD : OwnOff own [lo] := hoff
          k_steps
          rename_i l7 h7a l7a D7 ws7 h7b hI7 l7b h7c h7d F7 N7
          refine JS.mkR (fun m' => ⟨pathL (os.take k), tp, D7, ws7, 0, m'⟩) F7 N7 ?_ ?_ ?_ ?_ ?_
          · refine ⟨by rw [ek'], ?_⟩
            rw [ek', edrop]
            have e9 : [o / 16, o % 16].getD (Int.toNat 0) 0 * 16 + [o / 16, o % 16].getD (Int.toNat 1) 0 = o := by
              simp; (first | lia | omega)
            rw [e9, ek] at hI7
            exact hI7
          · intro z hz
            dsimp only
            repeat' (split <;> try rfl)
          · intro p hp
            rw [List.mem_singleton.mp hp]; exact .head _
          · intro p hp
            exact .tail _ (.tail _ (.tail _ (.tail _ (.tail _ hp))))
          · exact offOne l7b.2.2.2.2
    · intro c u h tk hc F' N'
      obtain ⟨rest, rt, lo, ws, nn, u'⟩ := c
      dsimp only at hc F' N' ⊢
      k_steps
      dsimp only
      have e0 : os.length - (pathL os).length = 0 := by (first | lia | omega)
      rw [e0, List.drop_zero] at hc
      exact hret _ _ _ _ _ (by assumption) (by assumption) ⟨_, _, _, rfl, .head _, hc.2⟩
end Mine
end
section
open PySem PySem.W PySem.Spec PySem.Calls PyProof.Rows
set_option Elab.async false
set_option maxRecDepth 100000
set_option maxHeartbeats 8000000
set_option pp.maxSteps 3000
namespace Mine



theorem law_path (w : World) (mean : ExcName → Option Value) (mg mb : Str → Option Value) (l : Addr) (vs : List Value) (ns : List Int) (hi : IntsAre vs ns) (hb : ∀ n ∈ ns, 0 ≤ n ∧ n < 256) (hlen : ns.length ≤ 64) :
    PC w mean mg mb 2 193 [.ref l] (fun h => h.IsList l vs.toArray) (StrOut (S (pathL ns))) := by
  w_top off
  k_with_none
  (k_with "call builtin:issubclass" => (k_here; k_dflt (refine' issub_tuple ?kD ?kc ?_; (case kD => exact (News.get (by k_asm) (by k_mem))); (case kc => exact rfl); k_whole)))
  (k_with "exec For Name Call cons nil" => (k_here; (with_unfolding_all refine' For_invVF ?kF0 ?k1 ?k2 ?_; (case kF0 => k_asm); (case k1 => exact rfl); (case k2 => exact rfl); k_whole)))
  (k_with "exec For Name Name cons nil" => (k_here; (with_unfolding_all refine' For_invVF ?kF0 ?k1 ?k2 ?_; (case kF0 => k_asm); (case k1 => exact rfl); (case k2 => exact rfl); k_whole)))
  (k_with "pyIter ref" => (k_here; (with_reducible show wpAny _ _ (pyIter (Value.ref _)) (fun it s₂ => LoopAtV _ _ _ _ _ _ _ _ _ it s₂) _ _); refine Stop.mk ?_))
  (k_with "eval ListComp" => (k_here; (with_reducible apply comp_evalG); (case hclos => with_unfolding_all rfl); (case hcell => decide); (case hkind => with_unfolding_all rfl); (case hnames => decide); (case hx => with_unfolding_all rfl); (case hs => intro _; with_unfolding_all rfl)))
  (k_with "pyIter ref" => (k_here; (with_reducible show wpAny _ _ (pyIter (Value.ref _)) (fun it s₂ => CG _ _ _ _ _ _ _ _ _ it s₂) _ _); refine Stop.mk ?_))
  (k_with "binaryOp Pow int int" => (k_here; (with_reducible refine pow_int_small ?kb1 ?kb2 ?kb3 ?_); (case kb1 => (first | lia | omega)); (case kb2 => (first | lia | omega)); (case kb3 => decide)))
  (k_with "binaryOp FloorDiv int int" => (k_here; (with_reducible refine floordiv_int (pow64_ne _) ?_ (Or.inl (PyProof.noPylong_of_log2 (pow64_log _ (by (first | lia | omega))))))))
  (k_with "binaryOp FloorDiv int int" => (k_here; (with_reducible refine floordiv_int (by decide) ?_ (Or.inl (PyProof.noPylong_of_log2 (by decide +kernel))))))
  (k_with "binaryOp Mod int int" => (k_here; (with_reducible refine mod_int' (by decide) ?_ (Or.inl (PyProof.noPylong_of_log2 (by decide +kernel))))))
  (k_with "eval Name" => (k_here; (with_reducible show wpAny _ _ (eval (Expr.Name _ _) (compEnvC _ _ _ _)) _ _ _); (with_unfolding_all refine' nameC_F ?N ?c ?m ?d ?k ?x ?dd ?_; (case k => exact rfl); (case x => exact rfl); (case dd => decide); (case N => with_reducible assumption); (case c => exact rfl); (case m => k_mem); (case d => k_asm); k_whole)))
  (k_with "eval Name" => (k_here; (with_reducible show wpAny _ _ (eval (Expr.Name _ _) (compEnvC _ _ _ _)) _ _ _); (with_unfolding_all refine' nameC_L ?n ?v ?k ?x ?d ?_; (case k => exact rfl); (case x => exact rfl); (case d => decide); (case n => with_reducible assumption); (case v => with_reducible assumption); k_whole)))
  (k_with "call ref" => (k_here; k_dflt ((refine wpAny_call ?_); (refine' code_def ?k1 ?k2 ?k3 ?k4 ?k5 ?kA ?kF ?kK ?k6 ?k7 ?k8 ?k9 ?kB ?_ ?c2 ?c3 ?c4 ?c5); (case kA => exact rfl); (case kF => exact rfl); (case kK => first | exact rfl | assumption); (case k1 => k_asm); (case k2 => k_asm); (case k3 => k_asm); (case k4 => k_asm); (case k5 => k_asm); (case k6 => k_is); (case k7 => k_is); (case k8 => ktr_room); (case k9 => first | exact BindsTo.of_eq rfl | exact binds_K (by k_in) rfl (by k_is) rfl rfl rfl); (case c5 => decide); (case kB => exact locs rfl); (case c2 => exact rfl); (case c3 => exact rfl); (case c4 => exact rfl); k_whole; (intro _ _ _ _ _ _ _ _ _); (try dsimp only); (try k_fold))))
  (k_with "call ref" => (k_here; (with_reducible show wpAny _ _ (call (Value.ref 124) [Value.str _ _]) _ _ _); (k_dflt (refine' PC.useStr (fspath_str _ _ _ _ _ _) ?B ?F ?X ?N ?T ?hk ?hd ?hu trivial ?_; ((case B => k_asm); (case F => k_asm); (case X => k_asm); (case N => k_asm); (case T => k_asm); (case hk => first | exact rfl | assumption); (case hd => ktr_room); (case hu => ktr_units)); k_whole)); (intro _ _ _ _ _ _ _); (try dsimp only); (try k_sweep)))
  (k_with "call builtin:str.join" => (k_here; (with_reducible show wpAny _ _ (call (Value.builtin "str.join") [Value.str _ _, Value.ref _]) _ _ _); (with_unfolding_all refine' join_list ?jl ?js ?jo ?_; (case jl => exact News.isList (by k_asm) (by k_mem)); (case js => with_reducible assumption); (case jo => with_reducible assumption); k_whole); (intro _ _)))
  (k_with "binaryOp Add str str" => ((with_reducible show wpAny _ _ (binaryOp Operator.Add (Value.str _ _) (Value.str (Txt.join _ _) _)) _ _ _); refine Stop.mk ?_))
  have mFill : ∀ P : Params, (Mine.hd.heap_39 P).In {} → PySem.Challenge.rw_pd0187_01.Holds → True := by
    k_fill
    exact fun _ _ _ => trivial
  clear mFill
  refine' PC.ofC [(Str.ofString "octets", .ref l)] (fun _ _ u h => h.at fun o e => u _ _ e) ?ho ?hcd ?hbind ?hkind ?hnd ?hco ?hgen ?hk ?h
  (case ho => k_is)
  (case hcd => k_is)
  (case hbind => exact fun _ _ => BindsTo.of_eq rfl)
  (case hkind => exact rfl)
  (case hnd => decide +kernel)
  (case hco => exact rfl)
  (case hgen => exact rfl)
  (case hk => exact rfl)
  case h =>
    intro dp un gd env outer A₁ base g L s cells Q B F X T N Y pre hd hu hret
    obtain ⟨oc, rfl, hoc⟩ := CellsAre.one Y
    k_steps
    rename_i h1 oc1 F1 N1 hoc1
    unfold Stop
    have hl := hi.length
    refine cg_list (vs := vs) (fun i nw y => ∃ t', y = .str ((ns.map fun n => S (hex2 n)).getD i default) t') rfl (pre.at fun o e => F1.keep _ _ e) (by show _ ≤ 2 ^ 24; (first | lia | omega)) (fun _ _ _ _ _ h => h) F1 N1 ?_ ?_
    · intro C i v s₃ m₃ E' hv hn hm hu F3 N3
      have hi' : i < ns.length := by rw [← hi.length]; exact (List.getElem?_eq_some_iff.mp hv).1
      obtain ⟨t, hx⟩ := hi.get i (ns[i]'hi') (List.getElem?_eq_getElem hi')
      have ev : v = .int (ns[i]'hi') t := by rw [hx] at hv; exact (Option.some.inj hv).symm
      have hg : (ns.map fun n => S (hex2 n)).getD i default = S (hex2 (ns[i]'hi')) := by simp [List.getD, hi']
      rw [hg]
      subst ev
      generalize hni : ns[i]'hi' = n at *
      obtain ⟨hb1, hb2⟩ : 0 ≤ n ∧ n < 256 := by rw [← hni]; exact hb _ (List.getElem_mem hi')
      k_steps
      refine EltPost.none_ ?_ (Up.refl _)
      rw [Int.fdiv_eq_ediv_of_nonneg _ (by decide), Int.fmod_eq_emod_of_nonneg _ (by decide), item_hx _ (by (first | lia | omega)) (by (first | lia | omega)), item_hx _ (by (first | lia | omega)) (by (first | lia | omega)), S_app]
      exact ⟨_, rfl⟩
    · intro D h' tk ys all k F' N' hnew hall up hlen' hres
      have hS := strsAre_of (ns := ns.map fun n => S (hex2 n)) (by rw [hlen', hl, List.length_map]) hres
      have hsum : ((ns.map fun n => S (hex2 n)).map (·.length)).sum + (ns.map fun n => S (hex2 n)).length * (Str.ofString "/").length ≤ 16777216 := by
        rw [sum_const _ (fun x hx => by obtain ⟨n, _, rfl⟩ := List.mem_map.mp hx; exact S_len _), List.length_map, slash, S_len]
        simp only [List.length_cons, List.length_nil]; (first | lia | omega)
      have hS' : StrsAre ys.toArray.toList (ns.map fun n => S (hex2 n)) := hS
      have ej : Txt.join (Str.ofString "/") (ns.map fun n => S (hex2 n)) = S (joinL (ns.map hex2)) := by
        rw [slash, ← txt_join, List.map_map]; rfl
      have hpl := pathL_len ns
      have hsz : (Str.ofString "/").length + (S (joinL (ns.map hex2))).length ≤ sizeLine := by
        rw [slash, S_len, S_len]
        simp only [pathL, List.length_cons] at hpl
        show _ ≤ 2 ^ 24
        simp only [List.length_cons, List.length_nil]; (first | lia | omega)
      k_steps
      unfold Stop
      rw [ej]
      refine SB.add ?_ hsz
      intro t' k'
      rw [slash, S_app]
      k_steps
      dsimp only
      exact hret _ _ _ _ [] F' News.nil ⟨rfl, _, rfl⟩
end Mine
end
section
open PySem PySem.W PySem.Spec PySem.Calls PyProof.Rows
set_option Elab.async false
set_option maxRecDepth 100000
set_option maxHeartbeats 8000000
namespace Mine
section
variable {g h : Heap} {L : Addr} {x y e1 e2 e3 e4 d d2 c1 c2 wa sa : Addr × Obj} {all all2 all3 l tl nw : Led}
theorem sh5 (N : News g L h [e1, x, y, c1, c2]) : News g L h [e1, c1, c2] := fun p hp => N p (by
  simp only [List.mem_cons, List.not_mem_nil, or_false] at hp ⊢
  rcases hp with h | h | h <;> simp [h])
theorem shA (N : News g L h (x :: (all ++ [e1, c1, c2]))) : News g L h [e1, x, c1, c2] := fun p hp => N p (by
  simp only [List.mem_cons, List.not_mem_nil, or_false, List.mem_append] at hp ⊢
  rcases hp with h | h | h | h <;> simp [h])
theorem shB (N : News g L h (x :: (all ++ [e1, d, c1, c2]))) : News g L h [e1, x, c1, c2] := fun p hp => N p (by
  simp only [List.mem_cons, List.not_mem_nil, or_false, List.mem_append] at hp ⊢
  rcases hp with h | h | h | h <;> simp [h])
theorem shK (N : News g L h [e1, x, c1, c2]) : News g L h [e1, c1, c2] := fun p hp => N p (by
  simp only [List.mem_cons, List.not_mem_nil, or_false] at hp ⊢
  rcases hp with h | h | h <;> simp [h])
theorem shC (N : News g L h [wa, e1, d, c1, c2]) : News g L h [c1, c2, e1, wa] := fun p hp => N p (by
  simp only [List.mem_cons, List.not_mem_nil, or_false] at hp ⊢
  rcases hp with h | h | h | h <;> simp [h])
theorem shD (N : News g L h (nw ++ [c1, c2, e1, wa])) (hs : sa ∈ nw) : News g L h (c1 :: c2 :: wa :: sa :: nw) := fun p hp => N p (by
  simp only [List.mem_cons, List.not_mem_nil, or_false, List.mem_append] at hp ⊢
  rcases hp with h | h | h | h | h <;> simp [h]
  exact .inl hs)
theorem shE (N : News g L h (x :: (all ++ l))) : News g L h (x :: l) := fun p hp => N p (by
  rcases List.mem_cons.mp hp with h | h
  · exact h ▸ .head _
  · exact .tail _ (List.mem_append_right _ h))
theorem shT (N : News g L h (x :: l)) : News g L h l := fun p hp => N p (.tail _ hp)
theorem shF (N : News g L h (x :: (all3 ++ e1 :: e2 :: e3 :: e4 :: d :: d2 :: (all2 ++ l)))) : News g L h (e1 :: e2 :: e3 :: e4 :: d :: l) := fun p hp => N p (by
  simp only [List.mem_cons, List.mem_append] at hp ⊢
  rcases hp with h | h | h | h | h | h <;> simp [h])
theorem shG (N : News g L h (x :: (all3 ++ e1 :: e2 :: e3 :: e4 :: d :: d2 :: (all2 ++ (all ++ l))))) : News g L h (e1 :: e2 :: e3 :: e4 :: l) := fun p hp => N p (by
  simp only [List.mem_cons, List.mem_append] at hp ⊢
  rcases hp with h | h | h | h | h <;> simp [h])
theorem shH (N : News g L h (x :: (all ++ e1 :: e2 :: e3 :: e4 :: l))) : News g L h (e1 :: x :: e4 :: l) := fun p hp => N p (by
  simp only [List.mem_cons, List.mem_append] at hp ⊢
  rcases hp with h | h | h | h <;> simp [h])
theorem shI (N : News g L h (e1 :: e2 :: e3 :: l)) : News g L h [e1, e2, e3] := fun p hp => N p (by
  simp only [List.mem_cons, List.not_mem_nil, or_false] at hp ⊢
  rcases hp with h | h | h <;> simp [h])
theorem pick1 {b : Led} (N : News g L h (e1 :: e2 :: e3 :: e4 :: (b ++ l))) (h1 : x ∈ b) : News g L h [x] := fun p hp => N p (by
  rw [List.mem_singleton.mp hp]
  exact .tail _ (.tail _ (.tail _ (.tail _ (List.mem_append_left _ h1)))))
theorem pick5 (N : News g L h (e1 :: e2 :: e3 :: e4 :: d :: (all ++ l))) (h1 : x ∈ all) : News g L h [x] := fun p hp => N p (by
  rw [List.mem_singleton.mp hp]
  exact .tail _ (.tail _ (.tail _ (.tail _ (.tail _ (List.mem_append_left _ h1))))))
theorem pickN (N : News g L h (e1 :: e2 :: e3 :: e4 :: l)) (h1 : x ∈ l) : News g L h [x] := fun p hp => N p (by
  rw [List.mem_singleton.mp hp]
  exact .tail _ (.tail _ (.tail _ (.tail _ h1))))
theorem pickN2 (N : News g L h (e1 :: e2 :: e3 :: e4 :: l)) (h1 : x ∈ l) (h2 : y ∈ l) : News g L h [x, y] := fun p hp => N p (by
  rcases List.mem_cons.mp hp with h | h
  · exact h ▸ .tail _ (.tail _ (.tail _ (.tail _ h1)))
  · rw [List.mem_singleton.mp h]; exact .tail _ (.tail _ (.tail _ (.tail _ h2))))
theorem pickD (N : News g L h (e1 :: e2 :: e3 :: e4 :: d :: d2 :: (all2 ++ (all ++ l)))) (h1 : x ∈ l) : News g L h [x] := fun p hp => N p (by
  rw [List.mem_singleton.mp hp]
  exact .tail _ (.tail _ (.tail _ (.tail _ (.tail _ (.tail _ (List.mem_append_right _ (List.mem_append_right _ h1))))))))
theorem pickD2 (N : News g L h (e1 :: e2 :: e3 :: e4 :: d :: d2 :: (all2 ++ (all ++ l)))) (h1 : x ∈ l) (h2 : y ∈ l) : News g L h [x, y] := fun p hp => N p (by
  have k : ∀ z ∈ l, z ∈ e1 :: e2 :: e3 :: e4 :: d :: d2 :: (all2 ++ (all ++ l)) := fun z hz => .tail _ (.tail _ (.tail _ (.tail _ (.tail _ (.tail _ (List.mem_append_right _ (List.mem_append_right _ hz)))))))
  rcases List.mem_cons.mp hp with h | h
  · exact h ▸ k _ h1
  · rw [List.mem_singleton.mp h]; exact k _ h2)
theorem pickJ {t1 t2 b1 b2 : Addr × Obj} (N : News g L h (e1 :: e2 :: e3 :: l)) (h1 : t1 ∈ l) (h2 : t2 ∈ l) (h3 : b1 ∈ l) (h4 : b2 ∈ l) : News g L h [e1, e3, t1, t2, b1, b2] := fun p hp => N p (by
  simp only [List.mem_cons, List.not_mem_nil, or_false] at hp ⊢
  rcases hp with h | h | h | h | h | h <;> subst h <;> simp [*])
theorem offAll {h' : Heap} (N : News g L h [c1, c2, e1, wa]) (NI : NewIn h h' nw) (hs : sa ∈ nw) (h0 : c2.1 ≠ c1.1) (h1 : c1.1 ≠ wa.1) : ∀ p ∈ c2 :: wa :: sa :: nw, p.1 ≠ c1.1 := fun p hp => by
  have k : ∀ q ∈ nw, q.1 ≠ c1.1 := fun q hq e => by
    have a := (N c1 (.head _)).1
    have b := (NI q hq).2
    rw [e, a] at b; cases b
  rcases List.mem_cons.mp hp with rfl | hp
  · exact h0
  rcases List.mem_cons.mp hp with rfl | hp
  · exact Ne.symm h1
  rcases List.mem_cons.mp hp with rfl | hp
  · exact k _ hs
  · exact k _ hp
end
theorem sz16 {a n : Nat} (e : a = n) (h : n ≤ 16) : a ≤ sizeLine := by
  show a ≤ 2 ^ 24
  omega
theorem sz32 {a n : Nat} (e : a = 2 * n) (h : n ≤ 16) : a ≤ sizeLine := by
  show a ≤ 2 ^ 24
  omega
theorem up64 {a n : Nat} (e : a ≤ n) (h : n ≤ 16) : a ≤ 64 := by omega
theorem up20 {a n : Nat} (e : a ≤ n) (h : n ≤ 16) : a < 2 ^ 20 := by omega
theorem up40 {a n : Nat} (e : a = n) (h : n ≤ 16) : a < 2 ^ 40 := by omega
theorem steps_elim {P : Prop} {ws : List Value} {ns : List Int} (hI : IntsAre ws (ns.take 12 ++ [6, 9, 0, 13])) (k : ∀ st, IntsAre ws st → st.length ≤ 16 → 0 < st.length → ws.length = st.length → P) : P :=
  k _ hI (by rw [List.length_append, List.length_take]; simp only [List.length_cons, List.length_nil]; omega) (by rw [List.length_append]; simp only [List.length_cons, List.length_nil]; omega) hI.length
section
variable {P : Prop} {m₃ : Str → Option Value} {x : Str} {v : Value} {i : Nat}
theorem elem_int {ws : List Value} {ns : List Int} (hI : IntsAre ws ns) (hv : ws[i]? = some v) (hm : m₃ x = some v) (k : ∀ n t, ns[i]? = some n → m₃ x = some (.int n t) → P) : P := by
  have hi : i < ns.length := by rw [← hI.length]; exact (List.getElem?_eq_some_iff.mp hv).1
  obtain ⟨t, hx⟩ := hI.get i (ns[i]'hi) (List.getElem?_eq_getElem hi)
  rw [hx] at hv
  exact k _ t (List.getElem?_eq_getElem hi) (hm.trans (hv ▸ rfl))
theorem elem_str {vs : List Value} {n : Nat} {f : Nat → Str} (hW : StrsAre vs ((List.range n).map f)) (hv : vs[i]? = some v) (hm : m₃ x = some v) (k : i < n → ∀ t, m₃ x = some (.str (f i) t) → P) : P := by
  obtain ⟨hi, t, rfl⟩ := strs_at hW hv
  exact k hi t hm
theorem elem_row {ys : List Value} {n : Nat} {all : Led} {f : Nat → List Int} (hl : ys.length = n) (hr : ∀ (i : Nat) (v : Value), ys[i]? = some v → ∃ l us un, v = .ref l ∧ (l, listOf (List.toArray us) un) ∈ all ∧ IntsAre us (f i)) (hv : ys[i]? = some v) (hm : m₃ x = some v)
    (k : i < n → ∀ l us un, (l, listOf (List.toArray us) un) ∈ all → IntsAre us (f i) → m₃ x = some (.ref l) → P) : P := by
  obtain ⟨l, us, un, rfl, h1, h2⟩ := hr i v hv
  exact k (by rw [← hl]; exact (List.getElem?_eq_some_iff.mp hv).1) l us un h1 h2 hm
theorem elem_state {nw : Led} {sws : List Value} {st : List Int} (h : DatAll nw sws ((List.range st.length).map fun i => stateD (srun st (i + 1)))) (hv : sws[i]? = some v) (hm : m₃ x = some v)
    (k : i < st.length → ∀ t a avs an tv b bvs bn pn, (t, ({ cls := .type "tuple", data := .seq #[.ref a, .int (srun st (i + 1)).value tv, .ref b] pn } : Obj)) ∈ nw → (a, listOf (List.toArray avs) an) ∈ nw → IntsAre avs ((srun st (i + 1)).done.map (·.1)) → (b, listOf (List.toArray bvs) bn) ∈ nw → IntsAre bvs (OO st i) → m₃ x = some (.ref t) → P) : P := by
  obtain ⟨hi, t, a, avs, an, tv, b, bvs, bn, pn, rfl, h1, h2, h3, h4, h5⟩ := state_get h hv
  exact k hi t a avs an tv b bvs bn pn h1 h2 h3 h4 h5 hm
theorem last_state {nw : Led} {sws : List Value} {st : List Int} (h : DatAll nw sws ((List.range st.length).map fun i => stateD (srun st (i + 1)))) (h0 : 0 < st.length)
    (k : ∀ t a tv b bvs bn pn, sws.getLast? = some (.ref t) → (t, ({ cls := .type "tuple", data := .seq #[.ref a, .int (srun st (st.length - 1 + 1)).value tv, .ref b] pn } : Obj)) ∈ nw → (b, listOf (List.toArray bvs) bn) ∈ nw → IntsAre bvs (OO st (st.length - 1)) → P) : P := by
  have hl : sws.length = st.length := by rw [h.length, List.length_map, List.length_range]
  obtain ⟨v, hv⟩ : ∃ v, sws[st.length - 1]? = some v := ⟨_, List.getElem?_eq_getElem (by omega)⟩
  obtain ⟨-, t, a, avs, an, tv, b, bvs, bn, pn, rfl, h1, -, -, h4, h5⟩ := state_get h hv
  exact k t a tv b bvs bn pn (by rw [List.getLast?_eq_getElem?, hl]; exact hv) h1 h4 h5
theorem elem_byte {bx : Array UInt8} {c : UInt8} (hv : bx[i]? = some c) : c.toNat ≤ 1114111 ∧ (0 : Int) ≤ (c.toNat : Int) ∧ ((c.toNat : Nat) : Int) ≤ 1114111 := by
  have := c.toNat_lt
  omega
end
theorem ints_map {ws ys : List Value} {st : List Int} {f : Int → Int} (hwl : ws.length = st.length) (hl : ys.length = ws.length) (hr : ∀ (i : Nat) (y : Value), ys[i]? = some y → ∃ n t, st[i]? = some n ∧ y = .int (f n) t) : IntsAre ys (st.map f) :=
  intsAre_of (by rw [hl, hwl, List.length_map]) fun i y hy => by
    obtain ⟨n, t, h1, rfl⟩ := hr i y hy
    exact ⟨t, by simp [List.getD, h1]⟩
theorem strs_bytes {ys : List Value} {bx : Array UInt8} (hl : ys.length = bx.size) (hr : ∀ (i : Nat) (y : Value), ys[i]? = some y → ∃ c t, bx[i]? = some c ∧ y = .str (S [c.toNat]) t) : StrsAre ys.toArray.toList ((bx.toList.map (·.toNat)).map fun c => S [c]) :=
  strsAre_of (by simpa using hl) fun i y hy => by
    obtain ⟨c, t, h1, rfl⟩ := hr i y (by simpa using hy)
    exact ⟨t, by simp [List.getD, h1]⟩
theorem strs_map {ys zs : List Value} {n : Nat} {f : Nat → Str} (hz : zs.length = n) (hl : ys.length = zs.length) (hr : ∀ (i : Nat) (y : Value), ys[i]? = some y → ∃ t, y = .str (f i) t) : StrsAre ys ((List.range n).map f) :=
  strsAre_of (by rw [hl, hz, List.length_map, List.length_range]) fun i y hy => by
    have hi : i < n := by rw [← hz, ← hl]; exact (List.getElem?_eq_some_iff.mp hy).1
    obtain ⟨t, rfl⟩ := hr i y hy
    exact ⟨t, by simp [List.getD, hi]⟩
theorem join_bound {bx : Array UInt8} {n : Nat} (e : bx.size = 2 * n) (h : n ≤ 16) : (((bx.toList.map (·.toNat)).map fun c => S [c]).map (·.length)).sum + ((bx.toList.map (·.toNat)).map fun c => S [c]).length * (Str.ofString "").length ≤ 16777216 := by
  rw [sum_one, nothing, S_len]; simp; omega
theorem size_int {a n : Nat} (e : a = 2 * n) : (a : Int) = 2 * (n : Int) := by omega
theorem oc_all {st : List Int} : ∀ n ∈ st.map oc, 0 ≤ n ∧ n < 256 := fun n hn => by
  obtain ⟨x, _, rfl⟩ := List.mem_map.mp hn
  have := oc_bnd x; omega
theorem ways_all {wws : List Value} {st : List Int} (h : StrsAre wws ((List.range (st.map (· % 4)).length).map fun i => S (pathL (owalk (st.map (· % 4)) (st.map oc) (i + 1))))) : StrsAre wws ((List.range st.length).map fun i => S (pathL (OO st i))) := by
  rw [List.length_map] at h
  have e : ((List.range st.length).map fun i => S (pathL (owalk (st.map (· % 4)) (st.map oc) (i + 1)))) = ((List.range st.length).map fun i => S (pathL (OO st i))) := List.map_congr_left fun i hi => by rw [OO_eq (List.mem_range.mp hi)]
  rw [← e]; exact h
theorem strs_len {vs : List Value} {n : Nat} {f : Nat → Str} (h : StrsAre vs ((List.range n).map f)) : vs.length = n := by rw [h.length, List.length_map, List.length_range]
theorem dat_len {nw : Led} {vs : List Value} {n : Nat} {f : Nat → Dat} (h : DatAll nw vs ((List.range n).map f)) : vs.length = n := by rw [h.length, List.length_map, List.length_range]
theorem last_str {vs : List Value} {n : Nat} {f : Nat → Str} (h : StrsAre vs ((List.range n).map f)) (h0 : 0 < n) {P : Prop} (k : ∀ t, vs.getLast? = some (.str (f (n - 1)) t) → P) : P := by
  obtain ⟨v, hv⟩ : ∃ v, vs[n - 1]? = some v := ⟨_, List.getElem?_eq_getElem (by rw [strs_len h]; omega)⟩
  obtain ⟨_, t, e⟩ := strs_at h hv
  exact k t (by rw [List.getLast?_eq_getElem?, strs_len h, hv, e])
theorem path_len2 {os : List Int} {n : Nat} (h : os.length ≤ n) (h2 : n ≤ 16) : (S (pathL os)).length ≤ 1000 := by
  rw [S_len]; have := pathL_len os; omega
theorem hex_all {os : List Int} (hb : ∀ o ∈ os, 0 ≤ o ∧ o < 256) : ∀ c ∈ os.map hex2, 47 ∉ c ∧ c ≠ [] ∧ c ≠ [46] ∧ c.length ≤ 2 := fun c hc => by
  obtain ⟨o, ho, rfl⟩ := List.mem_map.mp hc
  exact hex_clean o (hb o ho)
theorem alike_len (a b : List Int) : (alikeTo a b (min a.length b.length)).length ≤ a.length := by
  rw [alike_all]
  exact Nat.le_trans (comm_len a b) (Nat.min_le_left _ _)
/-- the octets that both begin with -/
def AK (st : List Int) (i : Nat) : List Int := alikeTo (OO st i) (OO st (st.length - 1)) (min (OO st i).length (OO st (st.length - 1)).length)
theorem AK_shared {st : List Int} {i : Nat} (hi : i < st.length) (h0 : 0 < st.length) : S (47 :: joinL (comm ((OO st i).map hex2) ((OO st (st.length - 1)).map hex2))) = S (pathL (AK st i)) := by
  rw [OO_shared hi (by omega)]; rfl
theorem AK_bnd {st : List Int} {i : Nat} (hi : i < st.length) : ∀ o ∈ AK st i, 0 ≤ o ∧ o < 256 := fun o ho => OO_bnd2 hi o (alike_mem _ _ _ (Nat.min_le_left _ _) o ho)
theorem AK_len {st : List Int} {i : Nat} (hi : i < st.length) (h : st.length ≤ 16) : (AK st i).length ≤ 64 := by
  have := alike_len (OO st i) (OO st (st.length - 1))
  have := OO_len hi
  show (alikeTo _ _ _).length ≤ 64
  omega
theorem shared_ok (st : List Int) : ∀ d ∈ ((List.range st.length).map fun i => S (pathL (AK st i))).map Dat.str, kqdOk 8 d = true := fun d hd => by
  obtain ⟨x, hx, rfl⟩ := List.mem_map.mp hd
  obtain ⟨i, hi, rfl⟩ := List.mem_map.mp hx
  exact path_ok _ (AK_bnd (List.mem_range.mp hi))
theorem up_none {a b : Heap} {x : Addr} (u : Up a b) (h : b.get? x = none) : a.get? x = none := by
  cases e : a.get? x with
  | none => rfl
  | some o => rw [u _ _ e] at h; cases h
theorem EltPost.oneT {L : Addr} {R : Led → Value → Prop} {s₃ : Shared} {y : Value} {h : Heap} {tk : Nat} {r : Addr} {o : Obj} (h0 : s₃.heap.get? r = none) (h1 : h.get? r = some o) (u : UpT L s₃.heap h) (res : R [(r, o)] y) : EltPost L R s₃ y { s₃ with heap := h, toks := tk } :=
  EltPost.someT [(r, o)] (fun p hp => by rw [List.mem_singleton.mp hp]; exact ⟨h1, h0⟩) res u
theorem nums_bnd0 {st : List Int} {i : Nat} (hi : i < st.length) : ∀ n ∈ OO st i ++ [0], 0 ≤ n ∧ n < 128 := fun n hn => by
  rcases List.mem_append.mp hn with hn | hn
  · exact OO_bnd hi n hn
  · rw [List.mem_singleton.mp hn]; omega
theorem nums_len0 {st : List Int} {i : Nat} (hi : i < st.length) (h : st.length ≤ 16) : (OO st i ++ [0]).length ≤ 64 := by
  have := OO_len hi
  rw [List.length_append, List.length_singleton]; omega
theorem row_one {us : List Value} {st : List Int} {i : Nat} (hU : IntsAre us (OO st i)) (hi : i < st.length) (h : st.length ≤ 16) : us.length + 1 ≤ 2 ^ 20 := by
  have := OO_len hi
  rw [hU.length]; omega
theorem done_one {us : List Value} {st : List Int} {i : Nat} (hU : IntsAre us ((srun st (i + 1)).done.map (·.1))) (hi : i < st.length) (h : st.length ≤ 16) : us.length + 1 ≤ 2 ^ 20 := by
  have := done_len hi
  rw [hU.length, List.length_map]; omega
section
variable {w : World} {A : Around} {E : Value → Shared → Prop} {s : Shared} {prog : Program} {g : Heap} {L D2 D3 : Addr} {e1 e2 e3 e4 d : Addr × Obj} {all all2 all3 nw l : Led} {ys2 ys3 zs : List Value} {k2 k3 n : Nat} {Q : Value → Shared → Prop}
/-- two lists of rows that are the same -/
theorem ne_rows (f gg : Nat → List Int) (N : News g L s.heap ((D3, listOf ys3.toArray k3) :: (all3 ++ e1 :: e2 :: e3 :: e4 :: d :: (D2, listOf ys2.toArray k2) :: (all2 ++ (all ++ l)))))
    (hl2 : ys2.length = n) (hl3 : ys3.length = n) (hfg : ∀ i, i < n → gg i = f i)
    (h2 : ∀ (i : Nat) (v : Value), ys2[i]? = some v → ∃ l us un, v = .ref l ∧ (l, listOf (List.toArray us) un) ∈ all2 ∧ IntsAre us (gg i))
    (h3 : ∀ (i : Nat) (v : Value), ys3[i]? = some v → ∃ l us un, v = .ref l ∧ (l, listOf (List.toArray us) un) ∈ nw ∧ IntsAre us (f i)) (hn : nw = l ∨ nw = all3)
    (hu : A.units + 64 < cLine) (h : Q (.bool false) s) : wpAny (model prog w) A (compareOp .NotEq (.ref D2) (.ref D3)) Q E s := by
  have Da := datAll_rows (nw := all2) (vs := ys2) (n := n) f gg hl2 hfg h2
  have Db := datAll_rows (nw := nw) (vs := ys3) (n := n) f f hl3 (fun _ _ => rfl) h3
  refine kqd_neF N (.tail _ (List.mem_append_right _ (.tail _ (.tail _ (.tail _ (.tail _ (.tail _ (.head _)))))))) Da (fun p hp => .tail _ (List.mem_append_right _ (.tail _ (.tail _ (.tail _ (.tail _ (.tail _ (.tail _ (List.mem_append_left _ hp))))))))) (.head _) Db ?_ (rows_ok _ _) hu h
  intro p hp
  rcases hn with rfl | rfl
  · exact .tail _ (List.mem_append_right _ (.tail _ (.tail _ (.tail _ (.tail _ (.tail _ (.tail _ (List.mem_append_right _ (List.mem_append_right _ hp)))))))))
  · exact .tail _ (List.mem_append_left _ hp)
end
section
variable {w : World} {mean : ExcName → Option Value} {mg mb : Str → Option Value} {n : Nat} {f : Addr} {vs : List Value} {Pre : Heap → Prop}
  {dp un : Nat} {gd : Option (List Code)} {cn : Str} {cs : Scope} {a : Addr} {ccd : Value} {cl : List (Str × Addr)} {outer : List Env} {A₀ : Around} {base h₀ : Heap} {L : Addr} {m : Str → Option Value} {news : Led} {s : Shared} {Q E : Value → Shared → Prop}
theorem PC.useV {V : Tok → Value} (C : PC w mean mg mb n f vs Pre (fun nw r => nw = [] ∧ ∃ t, r = V t))
    (B : Below A₀ base outer h₀) (F : Fr h₀ L s.heap m) (X : (Mine.hd.heap_39 w.params).In h₀) (N : News h₀ L s.heap news)
    (T : Top Mine.hd.view_39 (looseW Mine.hd.view_39 [Str.ofString "_NO_SEP", Str.ofString "b2a_hex", Str.ofString "hexlify"]) mean mg mb h₀)
    (hk : cs.kind = .function) (hd : dp + n < recursionLimit) (hu : un + 20 * n < cLine) (pre : Pre s.heap)
    (ret : ∀ h' tk' t, Up s.heap h' → Fr h₀ L h' m → News h₀ L h' news → Q (V t) { s with heap := h', toks := tk' }) :
    wpAny (model PySem.Challenge.rw_pd0187_01.row.prog w) (ktrTop dp un gd cn cs L a ccd cl outer) (call (.ref f) vs) Q E s :=
  PC.use C B F X N T hk hd hu pre fun r h' tk' nw U NI F' N' R => by
    obtain ⟨rfl, t, rfl⟩ := R
    exact ret h' tk' t U F' N'
theorem PC.useData {ds : List Dat} (C : PC w mean mg mb n f vs Pre (fun nw r => ∃ l ws nn, r = .ref l ∧ (l, listOf (List.toArray ws) nn) ∈ nw ∧ DatAll nw ws ds))
    (B : Below A₀ base outer h₀) (F : Fr h₀ L s.heap m) (X : (Mine.hd.heap_39 w.params).In h₀) (N : News h₀ L s.heap news)
    (T : Top Mine.hd.view_39 (looseW Mine.hd.view_39 [Str.ofString "_NO_SEP", Str.ofString "b2a_hex", Str.ofString "hexlify"]) mean mg mb h₀)
    (hk : cs.kind = .function) (hd : dp + n < recursionLimit) (hu : un + 20 * n < cLine) (pre : Pre s.heap)
    (ret : ∀ l ws nn nw h' tk', Up s.heap h' → NewIn s.heap h' nw → Fr h₀ L h' m → News h₀ L h' (nw ++ news) → (l, listOf (List.toArray ws) nn) ∈ nw → DatAll nw ws ds → Q (.ref l) { s with heap := h', toks := tk' }) :
    wpAny (model PySem.Challenge.rw_pd0187_01.row.prog w) (ktrTop dp un gd cn cs L a ccd cl outer) (call (.ref f) vs) Q E s :=
  PC.use C B F X N T hk hd hu pre fun r h' tk' nw U NI F' N' R => by
    obtain ⟨l, ws, nn, rfl, hm, hI⟩ := R
    exact ret l ws nn nw h' tk' U NI F' N' hm hI
/-- a list comes back, its place in the ledger told -/
theorem PC.useNew {P : List Value → Prop} {R : Led → Value → Prop} (C : PC w mean mg mb n f vs Pre (fun nw r => ∃ l ws nn, r = .ref l ∧ (l, listOf (List.toArray ws) nn) ∈ nw ∧ P ws))
    (B : Below A₀ base outer h₀) (F : Fr h₀ L s.heap m) (X : (Mine.hd.heap_39 w.params).In h₀) (N : News h₀ L s.heap news)
    (T : Top Mine.hd.view_39 (looseW Mine.hd.view_39 [Str.ofString "_NO_SEP", Str.ofString "b2a_hex", Str.ofString "hexlify"]) mean mg mb h₀)
    (hk : cs.kind = .function) (hd : dp + n < recursionLimit) (hu : un + 20 * n < cLine) (pre : Pre s.heap)
    (ret : ∀ l ws nn, P ws → R [(l, listOf (List.toArray ws) nn)] (.ref l)) :
    wpAny (model PySem.Challenge.rw_pd0187_01.row.prog w) (ktrTop dp un gd cn cs L a ccd cl outer) (call (.ref f) vs) (EltPost L R s) E s :=
  PC.use C B F X N T hk hd hu pre fun r h' tk' nw U NI F' N' R' => by
    obtain ⟨l, ws, nn, rfl, hm, hI⟩ := R'
    exact EltPost.some_ [(l, listOf (List.toArray ws) nn)] (fun p hp => by rw [List.mem_singleton.mp hp]; exact NI _ hm) (ret l ws nn hI) U
end
theorem law_open {w : World} {qual : Str} {scope : Scope} {L' f : Addr} {cdv : Value} {body : List Stmt} {Q : Flow → Shared → Prop} {E : Value → Shared → Prop} {s : Shared} {R : Shared → Prop} (hR : ∀ s', R s' → Q (.ret (.bool true)) s')
    (h : ∀ (dp un : Nat) (gd : Option (List Code)) (Q' : Flow → Shared → Prop) (E' : Value → Shared → Prop), dp + 20 < recursionLimit → un + 400 < cLine → (∀ s', R s' → Q' (.ret (.bool true)) s') → wpAny (model PySem.Challenge.rw_pd0187_01.row.prog w) (ktrTop dp un gd qual scope L' f cdv (cellsFrom (L' + 1) scope.names []) []) (execs body (envX qual scope L' f cdv (cellsFrom (L' + 1) scope.names []))) Q' E' s) :
    wpAny (model PySem.Challenge.rw_pd0187_01.row.prog w) (callerA.deeper (envOfC qual scope L' f cdv)) (execs body (envOfC qual scope L' f cdv)) Q E s := h (2 + claimMargin) 7 (some []) Q E (by decide) (by decide) hR
theorem oc_one {n : Int} (h : n.fmod 4 = 1) : (n.fdiv 4).fmod 64 + 0 = oc n := by
  rw [Int.fmod_eq_emod_of_nonneg _ (by decide)] at h
  rw [Int.fmod_eq_emod_of_nonneg _ (by decide), Int.fdiv_eq_ediv_of_nonneg _ (by decide), oc, if_pos h]
theorem oc_two {n : Int} (h : n.fmod 4 ≠ 1) : (n.fdiv 4).fmod 64 + 64 = oc n := by
  rw [Int.fmod_eq_emod_of_nonneg _ (by decide)] at h
  rw [Int.fmod_eq_emod_of_nonneg _ (by decide), Int.fdiv_eq_ediv_of_nonneg _ (by decide), oc, if_neg h]
theorem ev_int {x y : Int} {t : Tok} (h : x = y) : Value.int x t = .int y t := h ▸ rfl
theorem frL {g h : Heap} {L a : Addr} {cn : Str} {cs : Scope} {ccd : Value} {cl : List (Str × Addr)} {m : Str → Option Value} (F : Fr g (envX cn cs L a ccd cl).locals h m) : Fr g L h m := F
end Mine
end
section
open PySem PySem.W PySem.Spec PySem.Calls PyProof.Rows
set_option Elab.async false
set_option maxRecDepth 100000
set_option maxHeartbeats 8000000
set_option pp.maxSteps 3000
namespace Mine
theorem law_holds : PySem.Challenge.rw_pd0187_01.Holds := Mine.hd (by
  k_with_none
  (k_with "call builtin:issubclass" => (k_here; k_dflt (refine' issub_tuple ?kD ?kc ?_; (case kD => exact (News.get (by k_asm) (by k_mem))); (case kc => exact rfl); k_whole)))
  (k_with "exec For Name Call cons nil" => (k_here; (with_unfolding_all refine' For_invVF ?kF0 ?k1 ?k2 ?_; (case kF0 => k_asm); (case k1 => exact rfl); (case k2 => exact rfl); k_whole)))
  (k_with "exec For Name Name cons nil" => (k_here; (with_unfolding_all refine' For_invVF ?kF0 ?k1 ?k2 ?_; (case kF0 => k_asm); (case k1 => exact rfl); (case k2 => exact rfl); k_whole)))
  (k_with "pyIter ref" => (k_here; (with_reducible show wpAny _ _ (pyIter (Value.ref _)) (fun it s₂ => LoopAtV _ _ _ _ _ _ _ _ _ it s₂) _ _); refine Stop.mk ?_))
  (k_with "eval ListComp" => (k_here; (with_reducible apply comp_evalG); (case hclos => with_unfolding_all rfl); (case hcell => decide); (case hkind => with_unfolding_all rfl); (case hnames => decide); (case hx => with_unfolding_all rfl); (case hs => intro _; with_unfolding_all rfl)))
  (k_with "pyIter ref" => (k_here; (with_reducible show wpAny _ _ (pyIter (Value.ref _)) (fun it s₂ => CG _ _ _ _ _ _ _ _ _ it s₂) _ _); refine Stop.mk ?_))
  (k_with "binaryOp Pow int int" => (k_here; (with_reducible refine pow_int_small ?kb1 ?kb2 ?kb3 ?_); (case kb1 => (first | lia | omega)); (case kb2 => (first | lia | omega)); (case kb3 => decide)))
  (k_with "binaryOp FloorDiv int int" => (k_here; (with_reducible refine floordiv_int (pow64_ne _) ?_ (Or.inl (PyProof.noPylong_of_log2 (pow64_log _ (by (first | lia | omega))))))))
  (k_with "binaryOp FloorDiv int int" => (k_here; (with_reducible refine floordiv_int (by decide) ?_ (Or.inl (PyProof.noPylong_of_log2 (by decide +kernel))))))
  (k_with "binaryOp Mod int int" => (k_here; (with_reducible refine mod_int' (by decide) ?_ (Or.inl (PyProof.noPylong_of_log2 (by decide +kernel))))))
  (k_with "eval Name" => (k_here; (with_reducible show wpAny _ _ (eval (Expr.Name _ _) (compEnvC _ _ _ _)) _ _ _); (with_unfolding_all refine' nameC_F ?N ?c ?m ?d ?k ?x ?dd ?_; (case k => exact rfl); (case x => exact rfl); (case dd => decide); (case N => with_reducible assumption); (case c => exact rfl); (case m => k_mem); (case d => k_asm); k_whole)))
  (k_with "eval Name" => (k_here; (with_reducible show wpAny _ _ (eval (Expr.Name _ _) (compEnvC _ _ _ _)) _ _ _); (with_unfolding_all refine' nameC_L ?n ?v ?k ?x ?d ?_; (case k => exact rfl); (case x => exact rfl); (case d => decide); (case n => with_reducible assumption); (case v => with_reducible assumption); k_whole)))
  (k_with "call ref" => (k_here; (first | (with_reducible show wpAny _ _ (call (Value.ref 138) _) _ _ _) | (with_reducible show wpAny _ _ (call (Value.ref 159) _) _ _ _) | (with_reducible show wpAny _ _ (call (Value.ref 44) _) _ _ _) | (with_reducible show wpAny _ _ (call (Value.ref 35) _) _ _ _)); k_dflt ((refine wpAny_call ?_); (refine' code_def ?k1 ?k2 ?k3 ?k4 ?k5 ?kA ?kF ?kK ?k6 ?k7 ?k8 ?k9 ?kB ?_ ?c2 ?c3 ?c4 ?c5); (case kA => exact rfl); (case kF => exact rfl); (case kK => first | exact rfl | assumption); (case k1 => k_asm); (case k2 => k_asm); (case k3 => k_asm); (case k4 => k_asm); (case k5 => k_asm); (case k6 => k_is); (case k7 => k_is); (case k8 => ktr_room); (case k9 => first | exact BindsTo.of_eq rfl | exact binds_K (by k_in) rfl (by k_is) rfl rfl rfl); (case c5 => decide); (case kB => exact locs rfl); (case c2 => exact rfl); (case c3 => exact rfl); (case c4 => exact rfl); k_whole; (intro _ _ _ _ _ _ _ _ _); (try dsimp only); (try k_fold))))
  (k_with "exec Assign cons ListComp" => (k_here; (with_reducible apply comp_assignG); (case hsw => with_unfolding_all rfl); (case hclos => with_unfolding_all rfl); (case hcell => decide); (case hkind => with_unfolding_all rfl); (case hnames => decide); (case hx => with_unfolding_all rfl); (case hy => with_unfolding_all rfl); (case hp => with_unfolding_all rfl); (case hs => intro _; with_unfolding_all rfl)))
  (k_with "pyIter ref" => (k_here; (with_reducible show wpAny _ _ (pyIter (Value.ref _)) (fun it s₂ => CGA _ _ _ _ _ _ _ _ _ _ it s₂) _ _); refine Stop.mk ?_))
  (k_with "pyIter str" => (k_here; (with_reducible show wpAny _ _ (pyIter (Value.str _ _)) (fun it s₂ => CGA _ _ _ _ _ _ _ _ _ _ it s₂) _ _); refine Stop.mk ?_))
  (k_with "pyIter bytes" => (k_here; (with_reducible show wpAny _ _ (pyIter (Value.bytes _ _)) (fun it s₂ => CG _ _ _ _ _ _ _ _ _ it s₂) _ _); refine Stop.mk ?_))
  (k_with "ite" => (k_here; first | (refine ite_pos (by with_reducible assumption) ?_) | (refine ite_neg (by with_reducible assumption) ?_)))
  (k_with "call ref" => (k_here; (with_reducible show wpAny _ _ (call (Value.ref 124) [Value.str _ _]) _ _ _); (k_dflt (refine' PC.useStr (fspath_str _ _ _ _ _ _) ?B ?F ?X ?N ?T ?hk ?hd ?hu trivial ?_; ((case B => k_asm); (case F => k_asm); (case X => k_asm); (case N => k_asm); (case T => k_asm); (case hk => first | exact rfl | assumption); (case hd => ktr_room); (case hu => ktr_units)); k_whole)); (intro _ _ _ _ _ _ _); (try dsimp only); (try k_sweep)))
  (k_with "call ref" => (k_here; (with_reducible show wpAny _ _ (call (Value.ref 152) [Value.str _ _]) _ _ _); (k_dflt (refine' PC.usePair (SplitAt.pc ?C _) ?B ?F ?X ?N ?T ?hk ?hd ?hu trivial ?_; (case C => with_reducible assumption); ((case B => k_asm); (case F => k_asm); (case X => k_asm); (case N => k_asm); (case T => k_asm); (case hk => first | exact rfl | assumption); (case hd => ktr_room); (case hu => ktr_units)); k_whole)); (intro _ _ _ _ _ _ _ _ _); (try dsimp only); (try k_sweep)))
  (k_with "truthy str" => (k_here; (with_reducible show wpAny _ _ (PySem.truthy (Value.str _ _)) _ _ _); (refine truthy_yes (by (first | lia | omega)) (by (first | lia | omega)) ?_)))
  (k_with "truthy ref" => (k_here; (with_reducible show wpAny _ _ (PySem.truthy (Value.ref _)) _ _ _); (k_dflt (first | (refine' truthy_listY ?mtyN ?mtym ?mtya ?mtyb ?_; (case mtyN => k_asm); (case mtym => k_mem); (case mtya => (first | lia | omega)); (case mtyb => (first | lia | omega)); k_whole) | (refine' truthy_listN ?mtnN ?mtnm ?mtna ?_; (case mtnN => k_asm); (case mtnm => k_mem); (case mtna => (first | lia | omega)); k_whole)))))
  (k_with "subscriptTail" => (k_here; (with_reducible show wpAny _ _ (subscriptTail _ _ (Value.ref _) (Value.int (-1) _)) _ _ _); k_dflt (refine' sub_last ?mslN ?mslm ?mslv ?mslz ?_ ?msls; (case mslN => k_asm); (case mslm => k_mem); (case mslv => with_reducible assumption); (case mslz => first | with_reducible assumption | omega); (case msls => with_unfolding_all rfl); k_whole)))
  (k_with "call builtin:list.pop" => (k_here; k_dflt (refine' kl_pop ?mplF ?mplN ?mple ?mplU ?mplz ?_; (case mplF => k_asm); (case mplN => k_asm); (case mple => with_reducible assumption); (case mplU => k_upd); (case mplz => with_reducible assumption); k_whole); intro _ _ _; (try k_sweep)))
  (k_with "call builtin:str.join" => (k_here; (with_reducible show wpAny _ _ (call (Value.builtin _) [Value.str _ _, Value.ref _]) _ _ _); k_dflt (refine' join_list ?mjnl ?mjni ?mjnk ?_; (case mjnl => exact News.isList (by k_asm) (by k_mem)); (case mjni => with_reducible assumption); (case mjnk => with_reducible assumption); k_whole); intro _ _))
  (k_with "compareOp NotEq ref ref" => (k_here; (with_reducible show wpAny _ _ (compareOp CmpOp.NotEq (Value.ref _) (Value.ref _)) _ _ _); refine Stop.mk ?_))
  (k_with "compareOp Eq ref ref" => (k_here; (with_reducible show wpAny _ _ (compareOp CmpOp.Eq (Value.ref _) (Value.ref _)) _ _ _); refine Stop.mk ?_))
  (k_with "newList" => (k_here; (have hmk' := ‹Stop True›); (clear hmk'); k_dflt (refine' newList_U ?mnuF ?mnuN ?_ ?mnuz; (case mnuF => k_asm); (case mnuN => k_asm); (case mnuz => exact Nat.le_of_ble_eq_true rfl); k_whole); intro _ _ _ _ _; (try k_sweep)))
  (k_with "binaryOp Add ref ref" => (k_here; (have hmk' := ‹Stop True›); (clear hmk'); k_dflt (refine' add_U ?mauF ?mauN ?maua ?maub ?mauz ?_; (case mauF => k_asm); (case mauN => k_asm); (case maua => k_mem); (case maub => k_mem); (case mauz => assumption); k_whole); intro _ _ _ _ _; (try k_sweep)))
  (k_with "call ref" => (k_here; (with_reducible show wpAny _ _ (call (Value.ref _) _) _ _ _); refine Stop.mk ?_))
  k_go0
  rename_i w s₀ s₁ mg mb G Y fa o pm doc ho hgens KX X V GL T B TE TW z1 z2 M cd z4 hcd ns hs hlay0 hL1 hr1 hl2 z5 z6 sl vs z7 hL ra w1 r0 hI hr hlen hcond2 K0 hD h₁ tk₁ F c1 c2 hc1 hc2 N X0
  refine law_open (R := fun s' => (∃ m, Fr s₁.heap s₁.heap.objs.size s'.heap m) ∧ s'.gens = s₁.gens ∧ s'.os = s₁.os) (fun s' hr => ?_) fun dp un gd Q' E' hd hU0 hret => ?_
  · obtain ⟨⟨m, F'⟩, e1, e2⟩ := hr
    show GoodW _ _ _ _ _ (Except.ok (Flow.ret (Value.bool true))) _
    refine goodW_bool F' (e1.trans hgens) ?hn ?hp e2
    case hn => intro cls; with_unfolding_all rfl
    case hp => with_unfolding_all rfl
  have B0 : Below callerA s₁.heap [] s₁.heap := K0
  clear G Y ho X V GL B TE TW M hcd hs hlay0 hL1 hr1 hl2 ra w1 r0 hr hcond2 K0 hD hgens
  generalize hgg : s₁.heap = g at *
  generalize hLL : g.objs.size = L at *
  k_steps
  rename_i D1 vs1 h2 hI1 hC1 hL1 l1 l2 h3 l3 SD ws h4 hI2 l4 h5 F5 N5
  have hne1 : L + 1 + 1 ≠ SD := Nat.ne_of_lt l4.2.2.1
  have hne2 : L + 1 ≠ SD := Nat.ne_of_lt l4.2.2.2
  have hne3 : L + 1 ≠ L + 1 + 1 := Nat.ne_of_lt (Nat.lt_succ_self _)
  have N6 := sh5 N5
  clear N5 hI1 hC1 hL1 l1 l3 l4 X0 hlen hI
  unfold Stop
  refine steps_elim hI2 fun st hI2 hsl hs0 hwl => ?_
  refine cg_list (vs := ws) (fun i nw y => ∃ n t, st[i]? = some n ∧ y = .int (oc n) t) rfl (News.isList N6 (.head _)) (sz16 hwl hsl) (fun _ _ _ _ _ h => h) F5 N6 ?_ ?_
  · intro C i v s₃ m₃ E' hv hn hm hu F3 N3
    refine elem_int hI2 hv hm fun n t hsn hm1 => ?_
    clear hm hv N3
    k_steps
    · rename_i hm4
      exact EltPost.none_ ⟨n, _, hsn, ev_int (oc_one hm4)⟩ (Up.refl _)
    · rename_i hm4
      exact EltPost.none_ ⟨n, _, hsn, ev_int (oc_two hm4)⟩ (Up.refl _)
  · intro D h' tk ys all k F' N' hnew hall up hlen' hres
    have hS := ints_map hwl hlen' hres
    have hob := oc_all (st := st)
    have N1 := shA N'
    clear N' hnew hall up hres N6 F5 hlen'
    k_steps
    rename_i h6 t6 k6 F6 N6 hb1 hb2
    have hbs2 : (byteArr (st.map oc)).size ≤ 64 := by rw [byteArr_size, List.length_map]; exact up64 (Nat.le_refl _) hsl
    clear hb1 hb2
    unfold Stop
    refine PC.useV (b16_ w _ mg mb _ _ hbs2) B0 F6 KX N6 T rfl (room hd) (room hU0) trivial fun h7 tk7 t7 U F7 N7 => ?_
    have hs2 : (b16 (byteArr (st.map oc))).size = 2 * st.length := by rw [b16_size hob rfl, List.length_map]
    have htx := b16_os hob rfl
    have hcs : ((b16 (byteArr (st.map oc))).size : Int) = 2 * (st.length : Int) := size_int hs2
    clear F6 N6 F' N1 U hS hbs2
    k_steps
    · rename_i hcc
      exact absurd hcs hcc
    rename_i h8 F8 N8 tk8 tk9 hcc
    clear hcc hcs
    unfold Stop
    refine cg_bytes (fun i nw y => ∃ c t, (b16 (byteArr (st.map oc)))[i]? = some c ∧ y = .str (S [c.toNat]) t) rfl (sz32 hs2 hsl) (fun _ _ _ _ _ h => h) F8 N8 ?_ ?_
    · intro C i c u s₃ m₃ E' hv hn hm hu F3 N3
      obtain ⟨hc, hc0, hc1'⟩ := elem_byte hv
      clear N3
      k_steps
      exact EltPost.none_ ⟨c, _, hv, rfl⟩ (Up.refl _)
    · intro D h' tk ys all k F' N' hnew hall up hlen' hres
      have hS' := strs_bytes hlen' hres
      have hsum := join_bound hs2 hsl
      have N1 := shB N'
      clear N' hnew hall up hres N8 F8 hlen'
      k_steps
      rename_i tk9 k9 t9
      unfold Stop
      have N2 := shK N1
      clear N1 hS' hsum
      refine cg_list (vs := ws) (fun i nw y => ∃ n t, st[i]? = some n ∧ y = .int (n % 4) t) rfl (News.isList N2 (.head _)) (sz16 hwl hsl) (fun _ _ _ _ _ h => h) F' N2 ?_ ?_
      · intro C i v s₃ m₃ E' hv hn hm hu F3 N3
        refine elem_int hI2 hv hm fun n t hsn hm1 => ?_
        clear hm hv N3
        k_steps
        exact EltPost.none_ ⟨n, _, hsn, ev_int (fm4 _)⟩ (Up.refl _)
      · intro D h' tk ys all k F' N' hnew hall up hlen' hres
        have hS := ints_map hwl hlen' hres
        have N1 := shA N'
        clear N' hnew hall up hres N2 hlen'
        k_steps
        unfold Stop
        refine PC.useList (law_ways w _ mg mb _ _ D ys (st.map (· % 4)) (st.map oc) ((txt_join0 _).trans (congrArg S htx)) hS hob (by rw [List.length_map, List.length_map]) (by rw [List.length_map]; exact up64 (Nat.le_refl _) hsl)) B0 F' KX N1 T rfl (room hd) (room hU0) (News.isList N1 (.tail _ (.head _))) fun WA wws wn h9 tk9 U he F9 N9 hne hW0 => ?_
        have hW := ways_all hW0
        have hf1 : SD ≠ WA := hne _ (.head _)
        have hf2 : L + 1 + 1 ≠ WA := hne _ (.tail _ (.tail _ (.head _)))
        have hf3 : L + 1 ≠ WA := hne _ (.tail _ (.tail _ (.tail _ (.head _))))
        have N2 := shC N9
        clear N1 N9 F' hne he U hS hW0 htx
        k_steps
        rename_i h10 cw F10 N10 hcw
        unfold Stop
        refine PC.useData (law_states w _ mg mb SD ws st hI2 hsl) B0 F10 KX N10 T rfl (room hd) (room hU0) (News.isList N10 (.tail _ (.tail _ (.head _)))) fun SA sws sn nw2 h11 tk11 U NI F11 N11 hsm hSD => ?_
        have hoff := offAll N10 NI hsm hne3 hf2
        k_steps
        refine storeX_C F11 (shD N11 hsm) rfl (UpdF.head hoff) hc1 fun h12 cs2 F12 N12 hcs => ?_
        clear N11 F11 N10 F10 NI U hoff hc1 hc2 hf1 hf2 hf3 hne1 hne2 hne3
        k_steps
        unfold Stop
        have hswl := dat_len hSD
        have hwwl := strs_len hW
        refine cg_list (vs := sws) (fun i nw y => ∃ t, y = .str (S (pathL (OO st i))) t) rfl (News.isList N12 (.tail _ (.tail _ (.tail _ (.head _))))) (sz16 hswl hsl) (fun _ _ _ _ _ h => h) F12 N12 ?_ ?_
        · intro C i v s₃ m₃ E' hv hn hm hu F3 N3
          refine elem_state hSD hv hm fun hi' ta a avs an tv b bvs bn pn hm1 hm2 hA hm3 hB hm' => ?_
          have N4 := pickN2 N3 hm1 hm3
          clear N3 hm hv
          k_steps
          unfold Stop
          exact PC.useV (law_path w _ mg mb b bvs (OO st i) hB (OO_bnd2 hi') (up64 (OO_len hi') hsl)) B0 F3 KX N4 T rfl (room hd) (room hU0) (News.isList N4 (.tail _ (.head _))) fun h9 tk9 t9 U F9 N9 => EltPost.none_ ⟨_, rfl⟩ U
        · intro D h' tk ys all k F' N' hnew hall up hlen' hres
          have hS := strs_map hswl hlen' hres
          have N13 := shE N'
          clear N' hnew hall up hres hlen'
          k_steps
          unfold Stop
          refine kqd_neF N13 (.tail _ (.tail _ (.tail _ (.head _)))) (datAll_strs (nw := []) hW) (fun _ h => nomatch h) (.head _) (datAll_strs (nw := []) hS) (fun _ h => nomatch h) (ways_ok st) (room hU0) ?_
          have N14 := shT N13
          clear N13 hS
          k_steps
          unfold Stop
          refine cga_list (vs := wws) (fun i nw y => ∃ l us un, y = .ref l ∧ (l, listOf (List.toArray us) un) ∈ nw ∧ IntsAre us (OO st i)) rfl (News.isList N14 (.tail _ (.tail _ (.head _)))) (sz16 hwwl hsl) (fun _ _ _ _ hs ⟨l, us, un, e, hm, hi⟩ => ⟨l, us, un, e, hs _ hm, hi⟩) rfl F' N14 ?_ ?_
          · intro C i v s₃ m₃ E' hv hn hm hu F3 N3
            refine elem_str hW hv hm fun hi' t hm' => ?_
            clear hm hv
            have N4 : News g L s₃.heap [] := News.nil
            clear N3
            k_steps
            unfold Stop
            exact PC.useNew (law_read w _ mg mb (S (pathL (OO st i))) t (OO st i) rfl (OO_bnd2 hi') (up64 (OO_len hi') hsl)) B0 F3 KX N4 T rfl (room hd) (room hU0) trivial fun l us un hI => ⟨l, us, un, rfl, .head _, hI⟩
          · intro D h' tk ys all k F' N' hnew hall hlen' hres
            k_steps
            unfold Stop
            have N15 := perm4 N'
            have F15 := frL F'
            have hyl : ys.length = st.length := hlen'.trans hwwl
            clear N' F' hnew hall N14 hlen'
            refine cg_list (vs := ys) (fun i nw y => ∃ l us un, y = .ref l ∧ (l, listOf (List.toArray us) un) ∈ nw ∧ IntsAre us (nums (OO st i))) rfl (News.isList N15 (.tail _ (.tail _ (.tail _ (.tail _ (.head _)))))) (sz16 hyl hsl) (fun _ _ _ _ hs ⟨l, us, un, e, hm, hi⟩ => ⟨l, us, un, e, hs _ hm, hi⟩) F15 N15 ?_ ?_
            · intro C i v s₃ m₃ E' hv hn hm hu F3 N3
              refine elem_row hyl hres hv hm fun hi' l us uk hm1 hU hm' => ?_
              have N4 := pick5 N3 hm1
              clear N3 hm hv
              k_steps
              unfold Stop
              refine law_numbers_ w _ mg mb dp un gd _ _ _ _ _ _ g g L _ _ _ _ l us (OO st i) B0 F3 KX T KX T (News.isList N4 (.head _)) hU (OO_bnd hi') (up64 (OO_len hi') hsl) ?hkk (room hd) (room hU0) fun r vs9 n9 h9 tk9 U9 hr0 hr1 hI9 => ?_
              case hkk => exact rfl
              exact EltPost.oneT hr0 hr1 U9 ⟨r, vs9, n9, rfl, .head _, hI9⟩
            · intro D2 h' tk ys2 all2 k2 F' N' hnew hall up hlen2 hres2
              have N16 := perm5 N'
              clear N' hnew hall up
              k_steps
              unfold Stop
              refine cg_list (vs := sws) (fun i nw y => ∃ l us un, y = .ref l ∧ (l, listOf (List.toArray us) un) ∈ nw2 ∧ IntsAre us ((srun st (i + 1)).done.map fun p : Int × Int => p.1)) rfl (News.isList N16 (.tail _ (.tail _ (.tail _ (.head _))))) (sz16 hswl hsl) (fun _ _ _ _ _ h => h) F' N16 ?_ ?_
              · intro C i v s₃ m₃ E' hv hn hm hu F3 N3
                refine elem_state hSD hv hm fun hi' ta a avs an tv b bvs bn pn hm1 hm2 hA hm3 hB hm' => ?_
                have N4 := pickD N3 hm1
                clear N3 hm hv
                k_steps
                exact EltPost.none_ ⟨a, avs, an, rfl, hm2, hA⟩ (Up.refl _)
              · intro D3 h' tk ys3 all3 k3 F'' N' hnew hall up hlen3 hres3
                clear hnew hall up F' N16
                k_steps
                unfold Stop
                refine ne_rows (fun i => (srun st (i + 1)).done.map (·.1)) (fun i => nums (OO st i)) N' (hlen2.trans hyl) (hlen3.trans hswl) (fun i hi => OO_nums hi) hres2 hres3 (.inl rfl) (room hU0) ?_
                have N17 := shF N'
                clear N' hlen2 hres2 hlen3 hres3
                k_steps
                unfold Stop
                refine cg_list (vs := ys) (fun i nw y => ∃ l us un, y = .ref l ∧ (l, listOf (List.toArray us) un) ∈ nw ∧ IntsAre us (nums (OO st i ++ [0]))) rfl (News.isList N17 (.tail _ (.tail _ (.tail _ (.tail _ (.head _)))))) (sz16 hyl hsl) (fun _ _ _ _ hs ⟨l, us, un, e, hm, hi⟩ => ⟨l, us, un, e, hs _ hm, hi⟩) F'' N17 ?_ ?_
                · intro C i v s₃ m₃ E' hv hn hm hu F3 N3
                  refine elem_row hyl hres hv hm fun hi' l us uk hm1 hU hm' => ?_
                  have N4 := pick5 N3 hm1
                  clear N3 hm hv
                  have hmk : Stop True := trivial
                  have hul := row_one hU hi' hsl
                  k_steps
                  unfold Stop
                  rename_i l3 h4 U4 DR h5 U5 F5 N5
                  refine law_numbers_ w _ mg mb dp un gd _ _ _ _ _ _ g g L _ _ _ _ DR _ (OO st i ++ [0]) B0 F5 KX T KX T (News.isList N5 (.head _)) (hU.append (.cons _ _ .nil)) (nums_bnd0 hi') (nums_len0 hi' hsl) ?hkk (room hd) (room hU0) fun r vs9 n9 h9 tk9 U9 hr0 hr1 hI9 => ?_
                  case hkk => exact rfl
                  have U45 := U4.2.trans U5.2
                  exact EltPost.oneT (up_none U45 hr0) hr1 ((UpT.of U45).trans U9) ⟨r, vs9, n9, rfl, .head _, hI9⟩
                · intro D2 h' tk ys2 all2 k2 F' N' hnew hall up hlen2 hres2
                  have N18 := perm5 N'
                  clear N' hnew hall up N17 F''
                  k_steps
                  unfold Stop
                  refine cg_list (vs := sws) (fun i nw y => ∃ l us un, y = .ref l ∧ (l, listOf (List.toArray us) un) ∈ nw ∧ IntsAre us (((srun st (i + 1)).done.map fun p : Int × Int => p.1) ++ [64 * (srun st (i + 1)).value])) rfl (News.isList N18 (.tail _ (.tail _ (.tail _ (.head _))))) (sz16 hswl hsl) (fun _ _ _ _ hs ⟨l, us, un, e, hm, hi⟩ => ⟨l, us, un, e, hs _ hm, hi⟩) F' N18 ?_ ?_
                  · intro C i v s₃ m₃ E' hv hn hm hu F3 N3
                    refine elem_state hSD hv hm fun hi' ta a avs an tv b bvs bn pn hm1 hm2 hA hm3 hB hm' => ?_
                    have N4 := pickD2 N3 hm2 hm1
                    clear N3 hm hv
                    have hmk : Stop True := trivial
                    have hul := done_one hA hi' hsl
                    k_steps
                    rename_i l3 h4 U4 DR h5 U5 F5 N5
                    exact EltPost.oneT (up_none U4.2 U5.1) (N5 _ (.head _)).1 (UpT.of (U4.2.trans U5.2)) ⟨DR, _, _, rfl, .head _, hA.append (.cons _ _ .nil)⟩
                  · intro D3 h' tk ys3 all3 k3 F'' N' hnew hall up hlen3 hres3
                    clear hnew hall up F' N18
                    k_steps
                    unfold Stop
                    refine ne_rows (fun i => ((srun st (i + 1)).done.map (·.1)) ++ [64 * (srun st (i + 1)).value]) (fun i => nums (OO st i ++ [0])) N' (hlen2.trans hyl) (hlen3.trans hswl) (fun i hi => OO_nums0 hi) hres2 hres3 (.inr rfl) (room hU0) ?_
                    have N19 := shG N'
                    clear N' hlen2 hres2 hlen3 hres3 hres hyl
                    k_steps
                    unfold Stop
                    refine last_str hW hs0 fun tj hlast => ?_
                    refine cga_list (vs := wws) (fun i nw y => ∃ t, y = .str (S (pathL (AK st i))) t) rfl (News.isList N19 (.tail _ (.tail _ (.head _)))) (sz16 hwwl hsl) (fun _ _ _ _ _ h => h) rfl F'' N19 ?_ ?_
                    · intro C i v s₃ m₃ E' hv hn hm hu F3 N3
                      refine elem_str hW hv hm fun hi' t hm' => ?_
                      have hj : st.length - 1 < st.length := Nat.sub_lt hs0 Nat.one_pos
                      rw [← AK_shared hi' hs0]
                      have N4 := shI N3
                      clear N3 hm hv
                      have hmk : Stop True := trivial
                      have hz40 := up40 hwwl hsl
                      k_steps
                      unfold Stop
                      rename_i DR h4 U4 F4 N5
                      exact PC.useV (commonpath_ w _ mg mb DR _ _ t tj ((OO st i).map hex2) ((OO st (st.length - 1)).map hex2) rfl rfl (path_len2 (OO_len hi') hsl) (path_len2 (OO_len hj) hsl) (hex_all (OO_bnd2 hi')) (hex_all (OO_bnd2 hj)) (by rw [List.length_map]; exact up64 (OO_len hi') hsl) (by rw [List.length_map]; exact up64 (OO_len hj) hsl)) B0 F4 KX N5 T rfl (room hd) (room hU0) (News.isList N5 (.head _)) fun h9 tk9 t9 U F9 N9 => EltPost.none_ ⟨_, rfl⟩ (U4.2.trans U)
                    · intro D h' tk ys all k F' N' hnew hall hlen' hres
                      have hS := strs_map hwwl hlen' hres
                      have N20 := shH N'
                      have F20 := frL F'
                      clear N' F' hnew hall hres N19 F'' hlen' hlast hwwl hW
                      k_steps
                      unfold Stop
                      refine last_state hSD hs0 fun taj aj tvj bj bvj bnj pnj hlast2 hj1 hj3 hBj => ?_
                      refine cg_list (vs := sws) (fun i nw y => ∃ t, y = .str (S (pathL (AK st i))) t) rfl (News.isList N20 (.tail _ (.tail _ (.head _)))) (sz16 hswl hsl) (fun _ _ _ _ _ h => h) F20 N20 ?_ ?_
                      · intro C i v s₃ m₃ E' hv hn hm hu F3 N3
                        refine elem_state hSD hv hm fun hi' ta a avs an tv b bvs bn pn hm1 hm2 hA hm3 hB hm' => ?_
                        have N4 := pickJ N3 hm1 hj1 hm3 hj3
                        clear N3 hm hv
                        have hj : st.length - 1 < st.length := Nat.sub_lt hs0 Nat.one_pos
                        have hz40 := up40 hswl hsl
                        k_steps
                        unfold Stop
                        refine PC.useList (law_alike w _ mg mb b bj bvs bvj (OO st i) (OO st (st.length - 1)) hB hBj (up20 (OO_len hi') hsl) (up20 (OO_len hj) hsl)) B0 F3 KX N4 T rfl (room hd) (room hU0) ⟨News.isList N4 (.tail _ (.tail _ (.tail _ (.tail _ (.head _))))), News.isList N4 (.tail _ (.tail _ (.tail _ (.tail _ (.tail _ (.head _))))))⟩ fun lr us un h9 tk9 U he F9 N9 hne hU => ?_
                        have N5 : News g L h9 [(lr, listOf (List.toArray us) un)] := fun p hp => N9 p (by rw [List.mem_singleton.mp hp]; exact .head _)
                        clear N9 N4 hne he
                        k_steps
                        unfold Stop
                        exact PC.useV (law_path w _ mg mb lr us (AK st i) hU (AK_bnd hi') (AK_len hi' hsl)) B0 F9 KX N5 T rfl (room hd) (room hU0) (News.isList N5 (.head _)) fun h10 tk10 t10 U2 F10 N10 => EltPost.none_ ⟨_, rfl⟩ (U.trans U2)
                      · intro D2 h' tk ys2 all2 k2 F' N' hnew hall up hlen2 hres2
                        have hS2 := strs_map hswl hlen2 hres2
                        clear hnew hall up hres2 hlen2
                        k_steps
                        unfold Stop
                        refine kqd_eqT N' (.tail _ (List.mem_append_right _ (.tail _ (.head _)))) (datAll_strs (nw := []) hS) (fun _ h => nomatch h) (.head _) (datAll_strs (nw := []) hS2) (fun _ h => nomatch h) (shared_ok st) (room hU0) ?_
                        exact hret _ ⟨⟨_, F'⟩, rfl, rfl⟩)
end Mine
end
set_option maxRecDepth 100000 in
set_option maxHeartbeats 8000000 in
theorem PySem.Challenge.cw_pd0187_01_holds : PySem.Challenge.rw_pd0187_01.Holds := by
  exact Mine.law_holds
