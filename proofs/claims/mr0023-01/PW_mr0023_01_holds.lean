import PyProof.Rows.All
import Wide.All
import OpenK.AllK
import Wide.FinOn
import PyProof.FactsAll.object_1
import PySem.Challenge.RW_mr0023_01
open PySem PySem.W PyProof.Rows
set_option Elab.async false
set_option maxRecDepth 100000
set_option maxHeartbeats 8000000
namespace Mine

/- part MTop -/
section
open PySem PySem.W PyProof.Rows
open_top hd for PySem.Challenge.rw_mr0023_01
end
theorem switch_off : True := by w_top off; trivial

/- part MBase -/
section
open PySem PySem.W PyProof.Rows PySem.Calls
section
variable {prog : Program} {w : World} {A₀ A : Around} {s : Shared} {base h₀ : Heap} {outer : List Env} {L : Addr} {m : Str → Option Value} {env : Env} {K : Frag}
  {p : Program} {loose : List Str} {mean : ExcName → Option Value} {mg mb : Str → Option Value}
  {R : Result → Shared → Prop} {name qual : Str} {params : Arguments} {body : List Stmt} {scope : Scope} {dV kV doc pm cdv ct oc : Value} {an od : Option Addr} {osl : Array (Option Value)} {f : Addr} {args : Args} {binds : List (Str × Value)}
/-- a call that leaves all that stood as it stood: the callee's base is the caller's whole heap -/
theorem call_keep (B : Below A₀ base outer h₀) (F : Fr h₀ L s.heap m) (X : K.In h₀) (T : Top p loose mean mg mb h₀) (hA : A.frames = some (env :: outer)) (hf : env.frame = some L) (hke : env.scope.kind = .function)
    (ho : K.lookup f = some ⟨oc, od, .func (fnOf name qual params body scope dV kV doc pm an cdv ct), osl⟩) (hcd : codeIn K cdv qual = true) (hroom : A.depth < recursionLimit)
    (hbind : BindsTo s (fnOf name qual params body scope dV kV doc pm an cdv ct) args binds) (hloc : ∀ y ∈ binds, scope.names.lookup y.1 = some .local)
    (h : ∀ L' h₁, Fr s.heap L' h₁ (fun y => binds.reverse.lookup y) → News s.heap L' h₁ [] → Below A base (env :: outer) s.heap → K.In s.heap → Top p loose mean mg mb s.heap →
      wpAny (model prog w) (A.deeper (envOf qual scope L' f cdv)) (execs body (envOf qual scope L' f cdv))
        (fun fl s' => R (.ok (.ret (match fl with | .ret v => v | _ => .none))) s')
        (fun e s' => wpAny (model prog w) (A.deeper (envOf qual scope L' f cdv)) (leaving (envOf qual scope L' f cdv) e) (fun _ s'' => R (.error e) s'') (fun e' s'' => R (.error e') s'') s')
        { s with heap := h₁, toks := s.toks + binds.length })
    (hco : scope.isCoroutine = false := by rfl) (hgen : scope.isGenerator = false := by rfl) (hk : scope.kind = .function := by rfl)
    (hcell : ∀ x ∈ scope.names, x.2 ≠ .cell := by decide) : codeAny (model prog w) A (.call (.ref f) args) R s := by
  obtain ⟨_, BG, st, _⟩ := groundX (R := R) B F News.nil hA hf hke
  have X' := X.keeps F.keep
  refine codeAny_call_def (fd := fnOf name qual params body scope dV kV doc pm an cdv ct) (body := body) (binds := binds) hroom (X' _ _ ho) rfl (T.nolimit.keeps F.keep) (codeRec_of X' hcd) rfl hbind hcell hloc (fun h₁ hns hk₁ => ?_) hco hgen hk
  exact h s.heap.objs.size h₁ ⟨hns, hk₁, Nat.le_refl _⟩ News.nil BG X' (T.keeps F.keep)
/-- the same for a def with captured names -/
theorem call_keepC (B : Below A₀ base outer h₀) (F : Fr h₀ L s.heap m) (X : K.In h₀) (T : Top p loose mean mg mb h₀) (hA : A.frames = some (env :: outer)) (hf : env.frame = some L) (hke : env.scope.kind = .function)
    (ho : K.lookup f = some ⟨oc, od, .func (fnOf name qual params body scope dV kV doc pm an cdv ct), osl⟩) (hcd : codeIn K cdv qual = true) (hroom : A.depth < recursionLimit)
    (hbind : BindsTo s (fnOf name qual params body scope dV kV doc pm an cdv ct) args binds) (hkind : (binds.all fun y => scope.names.lookup y.1 == some .local || scope.names.lookup y.1 == some .cell) = true)
    (hnd : ((cellsFrom 0 scope.names []).map (·.1)).Nodup)
    (h : ∀ L' h₁ tk cells, Fr s.heap L' h₁ (bindL (envOfC qual scope L' f cdv).kindOf binds fun _ => none) → News s.heap L' h₁ cells →
      CellsAre (bindC (envOfC qual scope L' f cdv).kindOf binds fun _ => none) (cellsFrom (L' + 1) scope.names []) cells → Below A base (env :: outer) s.heap → K.In s.heap → Top p loose mean mg mb s.heap →
      wpAny (model prog w) (A.deeper (envOfC qual scope L' f cdv)) (execs body (envOfC qual scope L' f cdv))
        (fun fl s' => R (.ok (.ret (match fl with | .ret v => v | _ => .none))) s')
        (fun e s' => wpAny (model prog w) (A.deeper (envOfC qual scope L' f cdv)) (leaving (envOfC qual scope L' f cdv) e) (fun _ s'' => R (.error e) s'') (fun e' s'' => R (.error e') s'') s')
        { s with heap := h₁, toks := tk })
    (hco : scope.isCoroutine = false := by rfl) (hgen : scope.isGenerator = false := by rfl) (hk : scope.kind = .function := by rfl) : codeAny (model prog w) A (.call (.ref f) args) R s := by
  obtain ⟨_, BG, st, _⟩ := groundX (R := R) B F News.nil hA hf hke
  have X' := X.keeps F.keep
  refine codeAny_call_function hroom (X' _ _ ho) rfl hco hgen rfl (codeRec_of X' hcd) (hbind _ _ _ _ ?_)
  refine wpAny_newFunctionEnv_cells hk (kindsX hkind _) fun env' he s' x => ?_
  subst he
  refine ⟨(T.nolimit.keeps F.keep).keeps x.toInCall.keep, codeAny_func ?_⟩
  obtain ⟨h₁, tk, rfl, _⟩ := x.done
  have hk₁ := x.toInCall.keep
  obtain ⟨cells, NC, Y⟩ := Cl.news (h₀ := s.heap) (Nat.le_refl _) fun n c hm => ⟨x.cell n c (lookup_of_mem_nodup (cellsFrom_names scope.names 0 (s.heap.objs.size + 1) [] [] rfl ▸ hnd) hm), x.above n c hm⟩
  exact h s.heap.objs.size h₁ tk cells ⟨x.toInCall.ns, hk₁, Nat.le_refl _⟩ NC Y BG X' (T.keeps F.keep)
/-- the same, the table of the inner codes being the callee's to change -/
theorem call_keepT {tb : Addr} {tobj : Obj} (B : Below A₀ base outer h₀) (F : Fr h₀ L s.heap m) (N : News h₀ L s.heap [(tb, tobj)]) (X : K.In h₀) (T : Top p loose mean mg mb h₀) (hA : A.frames = some (env :: outer)) (hf : env.frame = some L) (hke : env.scope.kind = .function)
    (ho : K.lookup f = some ⟨oc, od, .func (fnOf name qual params body scope dV kV doc pm an cdv ct), osl⟩) (hcd : codeIn K cdv qual = true) (hroom : A.depth < recursionLimit)
    (hbind : BindsTo s (fnOf name qual params body scope dV kV doc pm an cdv ct) args binds) (hkind : (binds.all fun y => scope.names.lookup y.1 == some .local || scope.names.lookup y.1 == some .cell) = true)
    (hnd : ((cellsFrom 0 scope.names []).map (·.1)).Nodup)
    (h : ∀ g L' h₁ tk cells, g = hideAll s.heap [tb] → h₀.StaysIn g → (∀ b o, b ≠ tb → s.heap.get? b = some o → g.get? b = some o) → tb < L' → Fr g L' h₁ (bindL (envOfC qual scope L' f cdv).kindOf binds fun _ => none) → News g L' h₁ (cells ++ [(tb, tobj)]) →
      CellsAre (bindC (envOfC qual scope L' f cdv).kindOf binds fun _ => none) (cellsFrom (L' + 1) scope.names []) cells → Below A base (env :: outer) g → K.In g → Top p loose mean mg mb g →
      wpAny (model prog w) (A.deeper (envOfC qual scope L' f cdv)) (execs body (envOfC qual scope L' f cdv))
        (fun fl s' => R (.ok (.ret (match fl with | .ret v => v | _ => .none))) s')
        (fun e s' => wpAny (model prog w) (A.deeper (envOfC qual scope L' f cdv)) (leaving (envOfC qual scope L' f cdv) e) (fun _ s'' => R (.error e) s'') (fun e' s'' => R (.error e') s'') s')
        { s with heap := h₁, toks := tk })
    (hco : scope.isCoroutine = false := by rfl) (hgen : scope.isGenerator = false := by rfl) (hk : scope.kind = .function := by rfl) : codeAny (model prog w) A (.call (.ref f) args) R s := by
  obtain ⟨_, BG, st, _⟩ := groundX (R := R) B F N hA hf hke
  have X' := X.keeps F.keep
  refine codeAny_call_function hroom (X' _ _ ho) rfl hco hgen rfl (codeRec_of X' hcd) (hbind _ _ _ _ ?_)
  refine wpAny_newFunctionEnv_cells hk (kindsX hkind _) fun env' he s' x => ?_
  subst he
  refine ⟨(T.nolimit.keeps F.keep).keeps x.toInCall.keep, codeAny_func ?_⟩
  obtain ⟨h₁, tk, rfl, _⟩ := x.done
  have hk₁ := x.toInCall.keep
  obtain ⟨cells, NC, Y⟩ := Cl.news (h₀ := s.heap) (Nat.le_refl _) fun n c hm => ⟨x.cell n c (lookup_of_mem_nodup (cellsFrom_names scope.names 0 (s.heap.objs.size + 1) [] [] rfl ▸ hnd) hm), x.above n c hm⟩
  refine h _ s.heap.objs.size h₁ tk cells rfl st (fun b o hb e => hideAll_get _ e (by simpa using hb)) (Heap.lt_size (N _ (.head _)).1) ⟨x.toInCall.ns, fun b o e => hk₁ b o (of_hideAll _ e), Nat.le_of_eq (hideAll_size _ _)⟩ (fun p hp => ?_) Y BG (X.keeps st) (T.keeps st)
  rcases List.mem_append.mp hp with hp | hp
  · refine ⟨(NC p hp).1, (NC p hp).2.1, ?_⟩
    cases q : (hideAll s.heap [tb]).get? p.1 with
    | none => rfl
    | some o => have := of_hideAll _ q; rw [(NC p hp).2.2] at this; cases this
  · exact ⟨hk₁ _ _ (N p hp).1, Nat.ne_of_lt (Heap.lt_size (N p hp).1), hideAll_none _ (List.mem_map_of_mem hp)⟩
end
/-- the walk halts here -/
def Stp (p : Prop) : Prop := p
theorem Stp.go {p : Prop} (h : Stp p) : p := h
theorem Stp.in {p : Prop} (h : p) : Stp p := h
/-- what a call of the text's own defs needs to know of where it stands -/
structure Std (n : Nat) (w : World) (mean : ExcName → Option Value) (mg mb : Str → Option Value) (A : Around) (s : Shared) : Prop where
  ex : ∃ A₀ base outer h₀ L m env d u gs, A = ⟨none, d, some (env :: outer), gs, u⟩ ∧ d ≤ 302 + n ∧ u ≤ 100 * (n + 1) ∧ Below A₀ base outer h₀ ∧ Fr h₀ L s.heap m ∧ (hd.heap_39 w.params).In h₀ ∧
    Top topProg (looseW hd.view_39 [] ++ List.map (fun x => x.name) (recsOf hd.view_39) ++ List.map (fun x => x.fst) (litsOf hd.view_39) ++ List.map (fun x => x.name) (clssOf hd.view_39 (looseW hd.view_39 []))) mean mg mb h₀ ∧ env.frame = some L ∧ env.scope.kind = .function
theorem Std.of {n : Nat} {w : World} {A₀ : Around} {s : Shared} {base h₀ : Heap} {outer : List Env} {L : Addr} {m : Str → Option Value} {env : Env}
    {mean : ExcName → Option Value} {mg mb : Str → Option Value} {d u : Nat} {gs : Option (List Code)}
    (B : Below A₀ base outer h₀) (F : Fr h₀ L s.heap m) (X : (hd.heap_39 w.params).In h₀) (T : Top topProg (looseW hd.view_39 [] ++ List.map (fun x => x.name) (recsOf hd.view_39) ++ List.map (fun x => x.fst) (litsOf hd.view_39) ++ List.map (fun x => x.name) (clssOf hd.view_39 (looseW hd.view_39 []))) mean mg mb h₀)
    (hf : env.frame = some L) (hke : env.scope.kind = .function) (hd : d ≤ 302 + n) (hu : u ≤ 100 * (n + 1)) : Std n w mean mg mb ⟨none, d, some (env :: outer), gs, u⟩ s :=
  ⟨A₀, base, outer, h₀, L, m, env, d, u, gs, rfl, hd, hu, B, F, X, T, hf, hke⟩
/-- the same, with the table of the inner codes of _law_laid -/
structure StdT (n : Nat) (w : World) (mean : ExcName → Option Value) (mg mb : Str → Option Value) (A : Around) (s : Shared) : Prop where
  ex : ∃ A₀ base outer h₀ L m env d u gs, A = ⟨none, d, some (env :: outer), gs, u⟩ ∧ d ≤ 302 + n ∧ u ≤ 100 * (n + 1) ∧ Below A₀ base outer h₀ ∧ Fr h₀ L s.heap m ∧ (hd.heap_39 w.params).In h₀ ∧
    Top topProg (looseW hd.view_39 [] ++ List.map (fun x => x.name) (recsOf hd.view_39) ++ List.map (fun x => x.fst) (litsOf hd.view_39) ++ List.map (fun x => x.name) (clssOf hd.view_39 (looseW hd.view_39 []))) mean mg mb h₀ ∧ env.frame = some L ∧ env.scope.kind = .function ∧ CodeHd h₀ 95 91 ∧ News h₀ L s.heap [(91, tabObj #[])]
theorem StdT.of {n : Nat} {w : World} {A₀ : Around} {s : Shared} {base h₀ : Heap} {outer : List Env} {L : Addr} {m : Str → Option Value} {env : Env}
    {mean : ExcName → Option Value} {mg mb : Str → Option Value} {d u : Nat} {gs : Option (List Code)}
    (B : Below A₀ base outer h₀) (F : Fr h₀ L s.heap m) (X : (hd.heap_39 w.params).In h₀) (T : Top topProg (looseW hd.view_39 [] ++ List.map (fun x => x.name) (recsOf hd.view_39) ++ List.map (fun x => x.fst) (litsOf hd.view_39) ++ List.map (fun x => x.name) (clssOf hd.view_39 (looseW hd.view_39 []))) mean mg mb h₀)
    (hf : env.frame = some L) (hke : env.scope.kind = .function) (hd : d ≤ 302 + n) (hu : u ≤ 100 * (n + 1)) (C : CodeHd h₀ 95 91) (N : News h₀ L s.heap [(91, tabObj #[])]) : StdT n w mean mg mb ⟨none, d, some (env :: outer), gs, u⟩ s :=
  ⟨A₀, base, outer, h₀, L, m, env, d, u, gs, rfl, hd, hu, B, F, X, T, hf, hke, C, N⟩
end

/- part MNd -/
section
open PySem PySem.W PyProof.Rows PySem.Calls
/-- addresses that are apart, and apart from those of a ledger's tail -/
def ND (as : List Addr) (own : List (Addr × Obj)) : Prop := as.Nodup ∧ ∀ p ∈ own, p.1 ∉ as
def Top9 (x : Addr) (as : List Addr) (own : List (Addr × Obj)) : Prop := (∀ b ∈ as, b < x) ∧ ∀ p ∈ own, p.1 < x
theorem nd_nil : ND [] [] := ⟨List.nodup_nil, fun _ h => (nomatch h)⟩
theorem nd_own {as : List Addr} {own : List (Addr × Obj)} (h : ND as []) (o : OwnOff own as) : ND as own := ⟨h.1, fun p hp hm => o p hp p.1 hm rfl⟩
theorem top9_of {x : Addr} {led own : List (Addr × Obj)} {as : List Addr} (h : ∀ p ∈ led, p.1 < x) (_ : ND as own) (e : led.map (·.1) = as ++ own.map (·.1)) : Top9 x as own := by
  have : ∀ b ∈ as ++ own.map (·.1), b < x := by
    rw [← e]; intro b hb
    obtain ⟨p, hp, rfl⟩ := List.mem_map.mp hb
    exact h p hp
  exact ⟨fun b hb => this b (List.mem_append_left _ hb), fun p hp => this p.1 (List.mem_append_right _ (List.mem_map_of_mem hp))⟩
theorem nd_pushT {x : Addr} {own : List (Addr × Obj)} {as : List Addr} (h : Top9 x as own) (hn : ND as own) : ND (x :: as) own :=
  ⟨List.nodup_cons.mpr ⟨fun hm => Nat.lt_irrefl _ (h.1 x hm), hn.1⟩, fun p hp hm => by
    rcases List.mem_cons.mp hm with e | hm
    · exact Nat.lt_irrefl _ (e ▸ h.2 p hp)
    · exact hn.2 p hp hm⟩
theorem nd_push2 {x d : Addr} {own : List (Addr × Obj)} {as : List Addr} (h : Top9 d as own) (hn : ND (d :: as) own) (l : d < x) : ND (x :: d :: as) own :=
  nd_pushT ⟨fun b hb => by
    rcases List.mem_cons.mp hb with rfl | hb
    · exact l
    · exact Nat.lt_trans (h.1 b hb) l, fun p hp => Nat.lt_trans (h.2 p hp) l⟩ hn
theorem nd_pushNe {x : Addr} {led own : List (Addr × Obj)} {as : List Addr} (h : ∀ p ∈ led, p.1 ≠ x) (hn : ND as own) (e : led.map (·.1) = as ++ own.map (·.1)) : ND (x :: as) own := by
  have hh : ∀ b ∈ as ++ own.map (·.1), b ≠ x := by
    rw [← e]; intro b hb
    obtain ⟨p, hp, rfl⟩ := List.mem_map.mp hb
    exact h p hp
  refine ⟨List.nodup_cons.mpr ⟨fun hm => hh x (List.mem_append_left _ hm) rfl, hn.1⟩, fun p hp hm => ?_⟩
  rcases List.mem_cons.mp hm with e | hm
  · exact hh p.1 (List.mem_append_right _ (List.mem_map_of_mem hp)) e
  · exact hn.2 p hp hm
/-- one address of a list and another one of it -/
inductive PairIn (a b : Addr) : List Addr → Prop
  | h1 {as} : b ∈ as → PairIn a b (a :: as)
  | h2 {as} : a ∈ as → PairIn a b (b :: as)
  | tl {c as} : PairIn a b as → PairIn a b (c :: as)
theorem nd_ne {a b : Addr} {own : List (Addr × Obj)} {as : List Addr} (hn : ND as own) (h : PairIn a b as) : a ≠ b := by
  obtain ⟨hn, -⟩ := hn
  induction h with
  | h1 hm => rintro rfl; exact (List.nodup_cons.mp hn).1 hm
  | h2 hm => rintro rfl; exact (List.nodup_cons.mp hn).1 hm
  | tl _ ih => exact ih (List.nodup_cons.mp hn).2
/-- all that stand below the head of the list are apart from it -/
theorem nd_off {x : Addr} {own led : List (Addr × Obj)} {as bs : List Addr} (hn : ND (x :: as) own) (hb : ∀ b ∈ bs, b ∈ as) (o : OwnOff led bs) : OwnOff ((x, (o' : Obj)) :: led) bs := fun p hp b hb' => by
  rcases List.mem_cons.mp hp with rfl | hp
  · intro e; have e : x = b := e; subst e; exact (List.nodup_cons.mp hn.1).1 (hb x hb')
  · exact o p hp b hb'
theorem nd_allNe {x : Addr} {own led : List (Addr × Obj)} {as : List Addr} (hn : ND (x :: as) own) (e : led.map (·.1) = as ++ own.map (·.1)) : ∀ p ∈ led, p.1 ≠ x := fun p hp he => by
  have : p.1 ∈ as ++ own.map (·.1) := e ▸ List.mem_map_of_mem hp
  rcases List.mem_append.mp this with h | h
  · exact (List.nodup_cons.mp hn.1).1 (he ▸ h)
  · obtain ⟨q, hq, hqe⟩ := List.mem_map.mp h
    exact hn.2 q hq (by rw [hqe, he]; exact .head _)
theorem nd_tail {x : Addr} {own : List (Addr × Obj)} {as : List Addr} (hn : ND (x :: as) own) : ND as own := ⟨(List.nodup_cons.mp hn.1).2, fun p hp hm => hn.2 p hp (.tail _ hm)⟩
/-- one entry of a ledger set anew: what stands about it needs no word of its own -/
def UpdK (d : Addr) (o o' : Obj) (as : List Addr) (own r r' : List (Addr × Obj)) : Prop := ND as own → r.map (·.1) = as ++ own.map (·.1) → d ∈ as ∧ Upd d o o' r r'
def UpdFK (d : Addr) (o : Obj) (as : List Addr) (own r : List (Addr × Obj)) (g : Obj → List (Addr × Obj)) : Prop := ND as own → r.map (·.1) = as ++ own.map (·.1) → d ∈ as ∧ UpdF d o r g
theorem updK_rest {d : Addr} {o : Obj} {as : List Addr} {own r : List (Addr × Obj)} (hn : ND (d :: as) own) (e : ((d, o) :: r).map (·.1) = (d :: as) ++ own.map (·.1)) : ∀ p ∈ r, p.1 ≠ d := by
  have e' : r.map (·.1) = as ++ own.map (·.1) := by
    simp only [List.map_cons, List.cons_append, List.cons.injEq, true_and] at e
    exact e
  exact nd_allNe hn e'
theorem updK_next {a : Addr} {q : Obj} {as : List Addr} {own r : List (Addr × Obj)} (e : ((a, q) :: r).map (·.1) = (a :: as) ++ own.map (·.1)) : r.map (·.1) = as ++ own.map (·.1) := by
  simp only [List.map_cons, List.cons_append, List.cons.injEq, true_and] at e
  exact e
theorem UpdK.head {d : Addr} {o o' : Obj} {as : List Addr} {own r : List (Addr × Obj)} : UpdK d o o' (d :: as) own ((d, o) :: r) ((d, o') :: r) := fun hn e => ⟨.head _, .head (updK_rest hn e)⟩
theorem UpdK.tail {d a : Addr} {o o' q : Obj} {as : List Addr} {own r r' : List (Addr × Obj)} (h : UpdK d o o' as own r r') : UpdK d o o' (a :: as) own ((a, q) :: r) ((a, q) :: r') := fun hn e =>
  let ⟨x, y⟩ := h (nd_tail hn) (updK_next e)
  ⟨.tail _ x, .tail (fun e => by have e : a = d := e; subst e; exact (List.nodup_cons.mp hn.1).1 x) y⟩
theorem UpdK.use {d : Addr} {o o' : Obj} {as : List Addr} {own r r' : List (Addr × Obj)} (hn : ND as own) (e : r.map (·.1) = as ++ own.map (·.1)) (h : UpdK d o o' as own r r') : Upd d o o' r r' := (h hn e).2
theorem UpdFK.head {d : Addr} {o : Obj} {as : List Addr} {own r : List (Addr × Obj)} : UpdFK d o (d :: as) own ((d, o) :: r) (fun o' => (d, o') :: r) := fun hn e => ⟨.head _, .head (updK_rest hn e)⟩
theorem UpdFK.tail {d a : Addr} {o q : Obj} {as : List Addr} {own r : List (Addr × Obj)} {g : Obj → List (Addr × Obj)} (h : UpdFK d o as own r g) : UpdFK d o (a :: as) own ((a, q) :: r) (fun o' => (a, q) :: g o') := fun hn e =>
  let ⟨x, y⟩ := h (nd_tail hn) (updK_next e)
  ⟨.tail _ x, .tail (fun e => by have e : a = d := e; subst e; exact (List.nodup_cons.mp hn.1).1 x) y⟩
theorem UpdFK.use {d : Addr} {o : Obj} {as : List Addr} {own r : List (Addr × Obj)} {g : Obj → List (Addr × Obj)} (hn : ND as own) (e : r.map (·.1) = as ++ own.map (·.1)) (h : UpdFK d o as own r g) : UpdF d o r g := (h hn e).2
theorem nd_cells2 {t L : Addr} (h : t < L) : ND [L + 1 + 1, L + 1, t] [] := by
  have h' : @LT.lt Nat _ t L := h
  refine ⟨?_, fun p hp => nomatch hp⟩
  simp only [List.nodup_cons, List.mem_cons, List.not_mem_nil, or_false, not_or, not_false_eq_true, List.nodup_nil, and_true]
  refine ⟨⟨?_, ?_⟩, ?_⟩ <;> (refine neN ?_; omega)
theorem nd_two {L : Addr} : ND [L + 1 + 1, L + 1] [] := by
  refine ⟨?_, fun p hp => nomatch hp⟩
  simp only [List.nodup_cons, List.mem_cons, List.not_mem_nil, or_false, not_false_eq_true, List.nodup_nil, and_true]
  refine neN ?_; omega
theorem ltI8 {k : Int} (h : k < 0 + (((8 : Int) - 0).toNat : Int)) : k < 8 := h
theorem ltI32 {k : Int} (h : k < 0 + (((32 : Int) - 0).toNat : Int)) : k < 32 := h
/-- all of a ledger are apart from the iterator, one more put ahead of the tail -/
theorem nd_allNe2 {x y : Addr} {own led : List (Addr × Obj)} {as : List Addr} (hn : ND (x :: as) own) (hy : y ≠ x) (e : led.map (·.1) = as ++ y :: own.map (·.1)) : ∀ p ∈ led, p.1 ≠ x := fun p hp he => by
  have : p.1 ∈ as ++ y :: own.map (·.1) := e ▸ List.mem_map_of_mem hp
  rcases List.mem_append.mp this with h | h
  · exact (List.nodup_cons.mp hn.1).1 (he ▸ h)
  · rcases List.mem_cons.mp h with h | h
    · exact hy (by rw [← h, he])
    · obtain ⟨q, hq, hqe⟩ := List.mem_map.mp h
      exact hn.2 q hq (by rw [hqe, he]; exact .head _)
theorem nd_push_en {x y : Addr} {led own : List (Addr × Obj)} {as : List Addr} (h : ∀ p ∈ led, p.1 ≠ x) (h' : ∀ p ∈ led, p.1 ≠ y) (hxy : x ≠ y) (hn : ND as own) (e : led.map (·.1) = as ++ own.map (·.1)) : ND (y :: x :: as) own := by
  have hy := nd_pushNe h' hn e
  have hx := nd_pushNe h hn e
  refine ⟨List.nodup_cons.mpr ⟨fun hm => ?_, hx.1⟩, fun p hp hm => ?_⟩
  · rcases List.mem_cons.mp hm with e | hm
    · exact hxy e.symm
    · exact (List.nodup_cons.mp hy.1).1 hm
  · rcases List.mem_cons.mp hm with e | hm
    · exact hy.2 p hp (e ▸ .head _)
    · exact hx.2 p hp hm
section
variable {prog : Program} {w : World} {A : Around} {E : Value → Shared → Prop} {s : Shared} {h₀ : Heap} {L : Addr} {m : Str → Option Value} {env : Env}
/-- what is made next stands apart from a ledger of the heap as it was -/
theorem below_nd {news own : List (Addr × Obj)} {as : List Addr} {h : Heap} {Q : Value → Shared → Prop} {f : Value} (N : News h₀ L h news) (hn : ND as own) (e : news.map (·.1) = as ++ own.map (·.1)) (k : ND ((h.objs.size + 1) :: as) own → wpAny (model prog w) A (call f [.ref (h.objs.size + 1)]) Q E s) : wpAny (model prog w) A (call f [.ref (h.objs.size + 1)]) Q E s :=
  k (nd_pushT (top9_of (fun p hp => Nat.lt_succ_of_lt (Heap.lt_size (N p hp).1)) hn e) hn)
/-- a part of an expression whose two ways end alike: walked twice, what follows once -/
theorem eval_join {x : PySem.Expr} {Q : Value → Shared → Prop} (J : Value → Shared → Prop) (h1 : wpAny (model prog w) A (eval x env) J E s) (h2 : ∀ v s', J v s' → Q v s') : wpAny (model prog w) A (eval x env) Q E s :=
  wpAny_mono h1 h2 fun _ _ e => e
/-- the end of a turn put behind a letter: what is walked under it need not spell it -/
theorem lt_hide {α : Type} {M : Model} {T : Sem α} {body : List Stmt} {Q : Flow → Shared → Prop} (h : ∀ P : Flow → Shared → Prop, (∀ f s', Q f s' → P f s') → wpAny M A T (fun _ s₂ => wpAny M A (execs body env) P E s₂) E s) : wpAny M A T (fun _ s₂ => wpAny M A (execs body env) Q E s₂) E s := h Q fun _ _ h => h
end
end

/- part P1 -/
section
open PySem PySem.W PyProof.Rows
theorem or_sub_and (a b : Nat) : (a ||| b) = (a ^^^ b) + (a &&& b) := by
  have h : ∀ n a b : Nat, a < 2 ^ n → b < 2 ^ n → (a ||| b) = (a ^^^ b) + (a &&& b) := by
    intro n
    induction n with
    | zero => intro a b ha hb; simp at ha hb; subst ha; subst hb; rfl
    | succ n ih =>
      intro a b ha hb
      have h1 := ih (a / 2) (b / 2) (by omega) (by omega)
      have e1 : (a ||| b) / 2 = a / 2 ||| b / 2 := Nat.or_div_two
      have e2 : (a ^^^ b) / 2 = a / 2 ^^^ b / 2 := Nat.xor_div_two
      have e3 : (a &&& b) / 2 = a / 2 &&& b / 2 := Nat.and_div_two
      have f1 : (a ||| b) % 2 = (a % 2) ||| (b % 2) := by simpa using Nat.or_mod_two_pow (a := a) (b := b) (n := 1)
      have f2 : (a ^^^ b) % 2 = (a % 2) ^^^ (b % 2) := by simpa using Nat.xor_mod_two_pow (a := a) (b := b) (n := 1)
      have f3 : (a &&& b) % 2 = (a % 2) &&& (b % 2) := by simpa using Nat.and_mod_two_pow (a := a) (b := b) (n := 1)
      rcases Nat.mod_two_eq_zero_or_one a with ha2 | ha2 <;> rcases Nat.mod_two_eq_zero_or_one b with hb2 | hb2 <;> rw [ha2, hb2] at f1 f2 f3 <;> simp only [Nat.zero_or, Nat.or_zero, Nat.zero_xor, Nat.xor_zero, Nat.xor_self, Nat.and_zero, Nat.zero_and, Nat.or_self, Nat.and_self] at f1 f2 f3 <;> omega
  have hl : ∀ a : Nat, a < 2 ^ a := fun a => Nat.lt_two_pow_self
  exact h (max a b) a b (Nat.lt_of_lt_of_le (hl a) (Nat.pow_le_pow_right (by omega) (by omega))) (Nat.lt_of_lt_of_le (hl b) (Nat.pow_le_pow_right (by omega) (by omega)))
theorem band_nat (a b : Nat) : Builtin.bitAnd (a : Int) (b : Int) = ((a &&& b : Nat) : Int) := by
  simp [Builtin.bitAnd]
theorem bx_nat (a b : Nat) : Builtin.bitXor (a : Int) (b : Int) = ((a ^^^ b : Nat) : Int) := by
  have h1 := or_sub_and a b
  have h2 : a + b = (a ||| b) + (a &&& b) := by
    have h : ∀ n a b : Nat, a < 2 ^ n → b < 2 ^ n → a + b = (a ||| b) + (a &&& b) := by
      intro n
      induction n with
      | zero => intro a b ha hb; simp at ha hb; subst ha; subst hb; rfl
      | succ n ih =>
        intro a b ha hb
        have h1 := ih (a / 2) (b / 2) (by omega) (by omega)
        have e1 : (a ||| b) / 2 = a / 2 ||| b / 2 := Nat.or_div_two
        have e3 : (a &&& b) / 2 = a / 2 &&& b / 2 := Nat.and_div_two
        have f1 : (a ||| b) % 2 = (a % 2) ||| (b % 2) := by simpa using Nat.or_mod_two_pow (a := a) (b := b) (n := 1)
        have f3 : (a &&& b) % 2 = (a % 2) &&& (b % 2) := by simpa using Nat.and_mod_two_pow (a := a) (b := b) (n := 1)
        rcases Nat.mod_two_eq_zero_or_one a with ha2 | ha2 <;> rcases Nat.mod_two_eq_zero_or_one b with hb2 | hb2 <;> rw [ha2, hb2] at f1 f3 <;> simp only [Nat.zero_or, Nat.or_zero, Nat.and_zero, Nat.zero_and, Nat.or_self, Nat.and_self] at f1 f3 <;> omega
    have hl : ∀ a : Nat, a < 2 ^ a := fun a => Nat.lt_two_pow_self
    exact h (max a b) a b (Nat.lt_of_lt_of_le (hl a) (Nat.pow_le_pow_right (by omega) (by omega))) (Nat.lt_of_lt_of_le (hl b) (Nat.pow_le_pow_right (by omega) (by omega)))
  rw [bitXor_and, band_nat]
  omega
/-- one turn of the law's division -/
def rStep (r b : Int) : Int := Builtin.bitXor ((r * 2).fmod 4294967296) (Builtin.bitXor (r.fdiv 2147483648) b * 79764919)
def rStepN (r b : Nat) : Nat := (r * 2 % 4294967296) ^^^ ((r / 2147483648 ^^^ b) * 79764919)
theorem rStep_nat (r b : Nat) : rStep r b = ((rStepN r b : Nat) : Int) := by
  unfold rStep rStepN
  have e1 : ((r : Int) * 2).fmod 4294967296 = ((r * 2 % 4294967296 : Nat) : Int) := by
    rw [Int.fmod_eq_emod_of_nonneg _ (by omega)]; omega
  have e2 : (r : Int).fdiv 2147483648 = ((r / 2147483648 : Nat) : Int) := by
    rw [Int.fdiv_eq_ediv_of_nonneg _ (by omega)]; omega
  rw [e1, e2, bx_nat]
  have e3 : ((r / 2147483648 ^^^ b : Nat) : Int) * 79764919 = (((r / 2147483648 ^^^ b) * 79764919 : Nat) : Int) := by omega
  rw [e3, bx_nat]
theorem rStepN_lt {r b : Nat} (hr : r < 4294967296) (hb : b ≤ 1) : rStepN r b < 4294967296 := by
  unfold rStepN
  have h1 : r / 2147483648 < 2 ^ 1 := by omega
  have h2 : b < 2 ^ 1 := by omega
  have h3 := Nat.xor_lt_two_pow h1 h2
  refine Nat.xor_lt_two_pow (n := 32) (by omega) (by omega)
theorem rStep_range {r b : Int} (hr : 0 ≤ r ∧ r < 4294967296) (hb : 0 ≤ b ∧ b ≤ 1) : 0 ≤ rStep r b ∧ rStep r b < 4294967296 := by
  obtain ⟨n, rfl⟩ := Int.eq_ofNat_of_zero_le hr.1
  obtain ⟨k, rfl⟩ := Int.eq_ofNat_of_zero_le hb.1
  rw [rStep_nat]
  have := rStepN_lt (r := n) (b := k) (by omega) (by omega)
  omega
end

/- part P2 -/
section
open PySem PySem.W PyProof.Rows PySem.Builtin PySem.Builtin.Str
theorem fm_range (L : Array Nat) (a : Nat) : ∀ m, a + m ≤ L.size → ((List.range m).map fun k => a + k).filterMap (L[·]?) = (L.toList.drop a).take m
  | 0, _ => by simp
  | m + 1, h => by
    rw [List.range_succ, List.map_append, List.filterMap_append, fm_range L a m (by omega), List.take_add_one]
    congr 1
    have hx : L[a + m]? = some L[a + m] := Array.getElem?_eq_getElem (by omega)
    have hy : (L.toList.drop a)[m]? = some L[a + m] := by rw [List.getElem?_drop, Array.getElem?_toList, hx]
    rw [hy]
    show List.filterMap (fun i => L[i]?) [a + m] = _
    rw [List.filterMap_cons, hx]; rfl
theorem slice_core {x : Str} {l u : Option Int} {a m : Nat} (h : a + m ≤ x.length) (he : strSliceIndices l u 1 x.length = (List.range m).map fun k => a + k) : (Txt.slice x l u).cps.toList = (x.cps.toList.drop a).take m := by
  have h' : a + m ≤ x.cps.size := h
  unfold Txt.slice
  rw [he]
  split
  · rename_i q
    simp at q
    have hm : m = x.cps.size := q
    have ha : a = 0 := by omega
    subst ha
    rw [hm, List.drop_zero, List.take_of_length_le (by simp)]
  · show (List.filterMap _ _).toArray.toList = _
    rw [← fm_range x.cps a m h']
theorem sr_one {a m : Nat} : sliceRange (a : Int) ((a + m : Nat) : Int) 1 = (List.range m).map fun k => a + k := by
  unfold sliceRange
  rw [if_pos (by decide)]
  by_cases hm : m = 0
  · subst hm; simp
  · rw [if_pos (by omega)]
    have e : ((((a + m : Nat) : Int) - (a : Int) + 1 - 1) / 1).toNat = m := by omega
    show List.map _ (List.range ((((a + m : Nat) : Int) - (a : Int) + 1 - 1) / 1).toNat) = _
    rw [e]
    refine List.map_congr_left fun k _ => ?_
    omega
theorem slice_take (x : Str) (k : Nat) : (Txt.slice x none (some (k : Int))).cps.toList = x.cps.toList.take k := by
  have e := slice_core (x := x) (l := none) (u := some (k : Int)) (a := 0) (m := min k x.length) (by omega) ?_
  · rw [e, List.drop_zero]
    have : x.length = x.cps.toList.length := by simp [Str.length]
    rw [this, Nat.min_comm, ← List.take_take, List.take_of_length_le (l := List.take k x.cps.toList) (by simp; omega)]
  · unfold strSliceIndices
    simp only [if_pos (show (1 : Int) > 0 by decide)]
    rw [if_neg (by omega)]
    have e2 : max 0 (min (k : Int) (x.length : Int)) = ((0 + min k x.length : Nat) : Int) := by omega
    rw [e2]
    exact sr_one (a := 0)
theorem slice_drop (x : Str) (k : Nat) : (Txt.slice x (some (k : Int)) none).cps.toList = x.cps.toList.drop k := by
  have e := slice_core (x := x) (l := some (k : Int)) (u := none) (a := min k x.length) (m := x.length - min k x.length) (by omega) ?_
  · rw [e]
    have hx : x.length = x.cps.toList.length := by simp [Str.length]
    by_cases h : k ≤ x.length
    · rw [Nat.min_eq_left h, List.take_of_length_le (by rw [List.length_drop]; omega)]
    · rw [Nat.min_eq_right (by omega), List.drop_eq_nil_of_le (by omega), List.drop_eq_nil_of_le (by omega)]; simp
  · unfold strSliceIndices
    simp only [if_pos (show (1 : Int) > 0 by decide)]
    rw [if_neg (by omega)]
    have e2 : max 0 (min (k : Int) (x.length : Int)) = ((min k x.length : Nat) : Int) := by omega
    have e3 : (x.length : Int) = ((min k x.length + (x.length - min k x.length) : Nat) : Int) := by omega
    rw [e2]
    conv => lhs; arg 2; rw [e3]
    exact sr_one
theorem slice_mid (x : Str) {i j : Nat} (h : i ≤ j) (hj : j ≤ x.length) : (Txt.slice x (some (i : Int)) (some (j : Int))).cps.toList = (x.cps.toList.drop i).take (j - i) := by
  refine slice_core (x := x) (a := i) (m := j - i) (by omega) ?_
  unfold strSliceIndices
  simp only [if_pos (show (1 : Int) > 0 by decide)]
  rw [if_neg (by omega), if_neg (by omega)]
  have e2 : max 0 (min (i : Int) (x.length : Int)) = ((i : Nat) : Int) := by omega
  have e3 : max 0 (min (j : Int) (x.length : Int)) = ((i + (j - i) : Nat) : Int) := by omega
  rw [e2, e3]
  exact sr_one
theorem Str.ext_list {a b : Str} (h : a.cps.toList = b.cps.toList) : a = b := by
  obtain ⟨⟨x⟩⟩ := a; obtain ⟨⟨y⟩⟩ := b
  simp at h; subst h; rfl
theorem cps_app (a b : Str) : (a ++ b).cps.toList = a.cps.toList ++ b.cps.toList := by
  show (a.cps ++ b.cps).toList = _
  simp
theorem len_list (a : Str) : a.length = a.cps.toList.length := by simp [Str.length]
theorem slen_app (a b : Str) : (a ++ b).length = a.length + b.length := by
  rw [len_list, len_list, len_list, cps_app, List.length_append]
/-- what the tape takes at the n-th write -/
def pc (n : Nat) (left : Str) : Str := Txt.slice left none (some (1 + (n : Int).fmod 3))
theorem pc_take (n : Nat) (left : Str) : (pc n left).cps.toList = left.cps.toList.take (1 + n % 3) := by
  unfold pc
  have : (1 : Int) + (n : Int).fmod 3 = ((1 + n % 3 : Nat) : Int) := by rw [Int.fmod_eq_emod_of_nonneg _ (by omega)]; omega
  rw [this, slice_take]
theorem pc_len (n : Nat) (left : Str) : (pc n left).length = min (1 + n % 3) left.length := by
  rw [len_list, pc_take, List.length_take, ← len_list]
theorem pc_rest (n : Nat) (left : Str) : pc n left ++ Txt.slice left (some ((pc n left).length : Int)) none = left := by
  apply Str.ext_list
  rw [cps_app, pc_take, slice_drop, pc_len]
  by_cases h : 1 + n % 3 ≤ left.length
  · rw [Nat.min_eq_left h, List.take_append_drop]
  · rw [Nat.min_eq_right (by omega), List.take_of_length_le (by rw [← len_list]; omega), List.drop_of_length_le (by rw [← len_list]; omega), List.append_nil]
theorem rest_len (n : Nat) (left : Str) : (Txt.slice left (some ((pc n left).length : Int)) none).length = left.length - (pc n left).length := by
  rw [len_list, slice_drop, List.length_drop, ← len_list]
/-- one turn: handed, answers, left -/
def stepH (c : List Str × List Nat × Str) : List Str × List Nat × Str :=
  if c.2.2.length = 0 then c else (c.1 ++ [c.2.2], c.2.1 ++ [(pc c.2.1.length c.2.2).length], Txt.slice c.2.2 (some ((pc c.2.1.length c.2.2).length : Int)) none)
def iterH (c : List Str × List Nat × Str) : Nat → List Str × List Nat × Str
  | 0 => c
  | n + 1 => stepH (iterH c n)
theorem iterH_left (c : List Str × List Nat × Str) : ∀ n, (iterH c n).2.2.length ≤ c.2.2.length - n
  | 0 => by simp [iterH]
  | n + 1 => by
    have ih := iterH_left c n
    show (stepH (iterH c n)).2.2.length ≤ _
    unfold stepH
    split
    · omega
    · rename_i q
      show (Txt.slice _ _ _).length ≤ _
      rw [rest_len, pc_len]
      omega
theorem iterH_done (c : List Str × List Nat × Str) : (iterH c c.2.2.length).2.2.length = 0 := by
  have := iterH_left c c.2.2.length
  omega
theorem iterH_lens (c : List Str × List Nat × Str) (h : c.1.length = c.2.1.length) : ∀ n, (iterH c n).1.length = (iterH c n).2.1.length ∧ (iterH c n).2.1.length ≤ c.2.1.length + n
  | 0 => ⟨h, Nat.le_refl _⟩
  | n + 1 => by
    have ih := iterH_lens c h n
    show (stepH (iterH c n)).1.length = (stepH (iterH c n)).2.1.length ∧ _
    unfold stepH
    show _ ∧ (stepH (iterH c n)).2.1.length ≤ _
    unfold stepH
    split
    · exact ⟨ih.1, by omega⟩
    · simp; omega
/-- a line as it is to be written -/
def catS : List Str → Str
  | [] => ⟨#[]⟩
  | x :: r => x ++ catS r
theorem catS_snoc (l : List Str) (x : Str) : catS (l ++ [x]) = catS l ++ x := by
  induction l with
  | nil => apply Str.ext_list; simp [catS, cps_app]
  | cons a r ih => apply Str.ext_list; simp [catS, cps_app, ih]
theorem join_cat (l : List Str) : Str.join ⟨#[]⟩ l = catS l := by
  induction l with
  | nil => rfl
  | cons a r ih =>
    cases r with
    | nil => apply Str.ext_list; simp [catS, cps_app, Str.join]
    | cons b t =>
      show a ++ ⟨#[]⟩ ++ Str.join ⟨#[]⟩ (b :: t) = a ++ catS (b :: t)
      rw [ih]
      apply Str.ext_list
      simp [cps_app]
end

/- part MList -/
section
open PySem PySem.W PyProof.Rows PySem.Calls
section
variable {prog : Program} {w : World} {A : Around} {E : Value → Shared → Prop} {s : Shared} {h₀ : Heap} {L D : Addr} {m : Str → Option Value} {news news' : List (Addr × Obj)} {its : Array Value} {vs : List Value} {n : Nat} {t u : Tok} {v x : Value}
/-- len of a list of the ledger -/
theorem led_len {Q : Value → Shared → Prop} (N : News h₀ L s.heap news) (hm : (D, W.listOf its n) ∈ news) (hsz : its.size ≤ 100000)
    (h : ∀ t tk, Q (.int its.size t) { s with toks := tk }) : wpAny (model prog w) A (call (.builtin "len") [.ref D]) Q E s :=
  call_len_list (PySem.IsL.isList (n := n) (N _ hm).1) (by omega) (h _ _)
/-- the last item of a list of the ledger -/
theorem led_last {value slice : PySem.Expr} {Q : Value → Shared → Prop} (N : News h₀ L s.heap news) (hm : (D, W.listOf (vs ++ [v]).toArray n) ∈ news) (h : Q v s)
    (hs : subscripted slice false (.ref D) (.int (-1) u) = operate [.ref D, .int (-1) u] (getItem (.ref D) (.int (-1) u)) := by with_unfolding_all rfl) :
    wpAny (model prog w) A (subscriptTail value slice (.ref D) (.int (-1) u)) Q E s := by
  have hl := PySem.IsL.isList (n := n) (N _ hm).1
  refine tail_any hl.typeIs slot_list_getitem.lookup (wpAny_getItem_list_neg hl (by decide) ?_ (by decide) ?_ h) hs
  · simp; omega
  · simp
    rw [show ((-1 : Int) + (((vs.length : Nat) : Int) + 1)).toNat = vs.length from by omega]
    simp
/-- the last item stored anew -/
theorem led_setLast {Q : Unit → Shared → Prop} (F : Fr h₀ L s.heap m) (N : News h₀ L s.heap news) (U : Upd D (W.listOf (vs ++ [v]).toArray n) (W.listOf (vs ++ [x]).toArray n) news news')
    (h : ∀ h', Fr h₀ L h' m → News h₀ L h' news' → Q () { s with heap := h' }) : wpAny (model prog w) A (setItem (.ref D) (.int (-1) t) x) Q E s := by
  obtain ⟨pre, post, rfl, rfl, a, b⟩ := U.split
  have z := N (D, W.listOf (vs ++ [v]).toArray n) (List.mem_append.mpr (.inr (.head _)))
  refine ki_setBack z.1 (by decide) (by simp; omega) (by decide) (h _ (F.change (Heap.SameBut.update ..) z.2.1 z.2.2) (ki_turn _ N a b ?_ ?_))
  · apply Array.toList_inj.mp
    simp
    rw [show ((-1 : Int) + (((vs.length : Nat) : Int) + 1)).toNat = vs.length from by omega]
    simp
  · simp
end
end

/- part MFn -/
section
open PySem PySem.W PyProof.Rows PySem.Calls
open PySem.Builtin PySem.Builtin.ObjectAttr
theorem fn_sa : findIn [] (.type "function") "__setattr__" = some (some (.builtin "object.__setattr__")) := by decide +kernel
theorem fn_ga : findIn [] (.type "function") "__getattribute__" = some (some (.builtin "object.__getattribute__")) := by decide +kernel
theorem fn_gattr : findIn [] (.type "function") "__getattr__" = some none := by decide +kernel
theorem fn_write : findIn [] (.type "function") "write" = some none := by decide +kernel
theorem nilIn (h : Heap) : Frag.In [] h := fun _ _ e => by cases e
theorem fn_mro : mroOf (.type "function") = pure [.type "function", .type "object"] := by kernel_rfl
theorem fn_own (self : Value) : refuseLoop self "__setattr__" [.type "function", .type "object"] = pure () := by kernel_rfl
theorem fn_hasDict : typeHasDict (.type "function") = true := by decide +kernel
theorem fn_dictMade (a d : Addr) : dictMade (.type "function") a d = pure (some d) := by kernel_rfl
theorem fn_stream (a : Addr) : ownStreamTells (.ref a) (.type "function") = pure () := by kernel_rfl
theorem fn_entry_ga : entryFor table "object.__getattribute__" = some Builtin.«object.__getattribute__» := entryFor_of_tree (by kernel_rfl)
theorem fn_kind_ga : builtinKind "object.__getattribute__" = some .slot := by decide +kernel
theorem fn_split_ga : splitId "object.__getattribute__" = some ("object", "__getattribute__") := by decide +kernel
section
variable {prog : Program} {w : World} {A : Around} {E : Value → Shared → Prop} {R : Result → Shared → Prop} {s : Shared} {h₀ : Heap} {L f : Addr} {m : Str → Option Value} {news : List (Addr × Obj)} {fd : FuncData} {g : Obj → List (Addr × Obj)} {v : Value}
theorem fn_type {M : Model} {h : Heap} {od : Option Addr} {sl : Array (Option Value)} (ho : h.get? f = some ⟨.type "function", od, .func fd, sl⟩) : Looks M h (typeOf (.ref f)) (.type "function") := (Looks.ld ho).andThen .now
theorem fn_sub {M : Model} {h : Heap} {od : Option Addr} {sl : Array (Option Value)} (ho : h.get? f = some ⟨.type "function", od, .func fd, sl⟩) : Looks M h (isInstance (.ref f) (.type "object")) true :=
  (fn_type ho).andThen (Looks.of_pure (by kernel_rfl))
theorem fn_setAttr {Q : Unit → Shared → Prop} (F : Fr h₀ L s.heap m) (N : News h₀ L s.heap news) (U : UpdF f ⟨.type "function", none, .func fd, #[]⟩ news g)
    (h : ∀ d h' tk hs t, Fr h₀ L h' m → News h₀ L h' ((d, dictOf [⟨hs, .str (Str.ofString "write") t, v⟩] 1) :: g ⟨.type "function", some d, .func fd, #[]⟩) → (∀ p ∈ news, p.1 < d) → Q () { s with heap := h', toks := tk }) :
    wpAny (model prog w) A (setAttr (.ref f) "write" v) Q E s := by
  obtain ⟨own, rest, rfl, hg, h1, h2⟩ := U.split
  have hm := N (f, ⟨.type "function", none, .func fd, #[]⟩) (List.mem_append_right _ (.head _))
  have ho := hm.1
  obtain ⟨hh, gn, dr, t, os⟩ := s
  have ho : hh.get? f = some ⟨.type "function", none, .func fd, #[]⟩ := ho
  have L0 : Looks (model prog w) hh (typeOf (.ref f)) (.type "function") := fn_type ho
  have L1 : Looks (model prog w) hh (mroOf (.type "function")) [.type "function", .type "object"] := Looks.of_pure fn_mro
  have L2 : Looks (model prog w) hh (typeLookup (.type "function") "write") none := looks_findIn (nilIn _) fn_write
  have L3 : Looks (model prog w) hh (storeTaker? none) none := Looks.now
  refine wpAny_bind (wpAny_mkText (wpAny_bind (wpAny_bind (wpAny_bind (L0 _ _ _ _ (fun _ _ e => e) (looks_findIn (nilIn _) fn_sa _ _ _ _ (fun _ _ e => e) (wpAny_holding ?_)))))))
  rw [PySem.F.store_object.slot.bind]
  refine wpAny_bind (wpAny_pure (wpAny_bind (wpAny_call ?_)))
  have SF := PySem.F.store_object
  refine codeAny_call_builtin SF.slot.plain SF.entry (@check_slot (model prog w) _ _ _ "object.__setattr__" "object" "__setattr__" (.ref f) [.str "write" t, v] [] _ SF.kind SF.split (fn_sub ho) (SF.args (.ref f) (.str "write" t) v) ?_)
  show wpAny _ _ («object.__setattr__» ⟨[.ref f, .str (Str.ofString "write") t, v], []⟩) _ _ _
  rw [osa_eq, refuse_eq]
  refine wpAny_bind (wpAny_bind (L0 _ _ _ _ (fun _ _ e => e) (wpAny_bind (L1 _ _ _ _ (fun _ _ e => e) ?_))))
  rw [fn_own]
  refine wpAny_pure (wpAny_bind (L0 _ _ _ _ (fun _ _ e => e) (wpAny_bind (L2 _ _ _ _ (fun _ _ e => e) (wpAny_bind (L3 _ _ _ _ (fun _ _ e => e) ?_))))))
  show wpAny _ _ (storeInOwnDict (.ref f) (.type "function") (.str "write" t) "write" v false) _ _ _
  unfold storeInOwnDict
  rw [fn_stream]
  refine wpAny_bind (wpAny_pure ?_)
  refine wpAny_bind ?_
  show wpAny _ _ (instanceDict f true) _ _ _
  unfold instanceDict
  refine wpAny_bind (wpAny_loadPart ho ?_)
  dsimp only
  rw [fn_hasDict]
  refine wpAny_bind (wpAny_alloc ?_)
  refine wpAny_bind (wpAny_update (Heap.get?_push_of_some _ ho) ?_)
  rw [fn_dictMade]
  refine wpAny_pure ?_
  have F1 : Fr h₀ L (hh.push (dictOf [] 0)) m := F.push (dictOf [] 0)
  have N1 : News h₀ L (hh.push (dictOf [] 0)) ((hh.objs.size, dictOf [] 0) :: (own ++ (f, ⟨.type "function", none, .func fd, #[]⟩) :: rest)) := News.push F N (dictOf [] 0)
  have hlt : ∀ p ∈ own ++ (f, (⟨.type "function", none, .func fd, #[]⟩ : Obj)) :: rest, p.1 < hh.objs.size := fun p hp => Heap.lt_size (N p hp).1
  obtain ⟨F2, N2⟩ := news_upd (pre := (hh.objs.size, dictOf [] 0) :: own) (f := fun o => { o with dict := some hh.objs.size }) F1 N1 (fun p hp => by
    rcases List.mem_cons.mp hp with rfl | hp
    · exact Ne.symm (Nat.ne_of_lt (Heap.lt_size ho))
    · exact h1 p hp) h2 rfl rfl
  have hlt2 : ∀ p ∈ own ++ (f, (⟨.type "function", some hh.objs.size, .func fd, #[]⟩ : Obj)) :: rest, p.1 ≠ hh.objs.size := fun p hp => by
    rcases List.mem_append.mp hp with hp | hp
    · exact Nat.ne_of_lt (hlt p (List.mem_append_left _ hp))
    · rcases List.mem_cons.mp hp with rfl | hp
      · exact Nat.ne_of_lt (Heap.lt_size ho)
      · exact Nat.ne_of_lt (hlt p (List.mem_append_right _ (.tail _ hp)))
  obtain ⟨F3, N3⟩ := news_upd (pre := []) (post := own ++ (f, (⟨.type "function", some hh.objs.size, .func fd, #[]⟩ : Obj)) :: rest) (f := Obj.putName (Str.ofString "write") (PyData.keyHash w.params (Str.ofString "write")) (.str (Str.ofString "write") (t + 1)) v) F2 N2 (fun p hp => nomatch hp) hlt2 (putName_dict _ _ _ _ [] 0) rfl
  have D := (N2 (hh.objs.size, dictOf [] 0) (.head _)).1
  have D' := (N3 _ (.head _)).1
  show wpAny _ _ (storeInDict hh.objs.size (.str (Str.ofString "write") t) (Str.ofString "write") v) _ _ _
  unfold storeInDict
  refine wpAny_bind (wpAny_pure (wpAny_bind ?_))
  unfold nsSet
  refine wpAny_bind (wpAny_bind (wpAny_askSetting (wpAny_pure (wpAny_bind (wpAny_mkText (wpAny_bind (wpAny_loadPart D ?_)))))))
  dsimp only
  rw [show aRefKeyMayBeTheName (Str.ofString "write") ([] : List DictEntry).toArray = false from by decide +kernel]
  refine wpAny_updatePart D ?_
  refine wpAny_bind (wpAny_lookBehind D' (pastItsLine_dict (by show (1 : Nat) ≤ sizeLine + 1; decide)) ?_)
  refine wpAny_pure ?_
  show wpAny _ _ (pure (some _)) _ _ _
  refine wpAny_pure (wpAny_pure ?_)
  exact h hh.objs.size _ _ (PyData.keyHash w.params (Str.ofString "write")) (t + 1) F3 ((hg _).symm ▸ N3) hlt
/-- a function's own attribute, asked for a call -/
theorem fn_getMethod {d : Addr} {hs : Int} {t₀ : Tok} {n : Nat} {pl : Sem Bool} {a : Addr} {Q : Value × List Value → Shared → Prop} (N : News h₀ L s.heap news) (hm : (f, (⟨.type "function", some d, .func fd, #[]⟩ : Obj)) ∈ news) (hd : (d, dictOf [⟨hs, .str (Str.ofString "write") t₀, .ref a⟩] n) ∈ news)
    (h : ∀ tk, Q (.ref a, []) { s with toks := tk }) : wpAny (model prog w) A (getMethod (.ref f) "write" pl) Q E s := by
  have ho := (N _ hm).1
  have hD := (N _ hd).1
  obtain ⟨hh, gn, dr, t, os⟩ := s
  have ho : hh.get? f = some ⟨.type "function", some d, .func fd, #[]⟩ := ho
  have hD : hh.get? d = some (dictOf [⟨hs, .str (Str.ofString "write") _, .ref a⟩] n) := hD
  have L0 : Looks (model prog w) hh (typeOf (.ref f)) (.type "function") := fn_type ho
  have LG : Looks (model prog w) hh (typeLookup (.type "function") "__getattribute__") (some (.builtin "object.__getattribute__")) := looks_findIn (nilIn _) fn_ga
  have LH : Looks (model prog w) hh (typeLookup (.type "function") "__getattr__") none := looks_findIn (nilIn _) fn_gattr
  have LW : Looks (model prog w) hh (typeLookup (.type "function") "write") none := looks_findIn (nilIn _) fn_write
  unfold getMethod specialOf
  refine wpAny_bind (wpAny_bind (L0 _ _ _ _ (fun _ _ e => e) (LG _ _ _ _ (fun _ _ e => e) ?_)))
  dsimp only
  rw [if_neg (by decide +kernel)]
  refine wpAny_bind (wpAny_bind (L0 _ _ _ _ (fun _ _ e => e) (LH _ _ _ _ (fun _ _ e => e) ?_)))
  refine wpAny_bind (wpAny_bind (L0 _ _ _ _ (fun _ _ e => e) (LW _ _ _ _ (fun _ _ e => e) ?_)))
  refine wpAny_bind ?_
  unfold getAttr getAttrBy
  refine wpAny_bind (wpAny_mkText (wpAny_holding (wpAny_bind (L0 _ _ _ _ (fun _ _ e => e) (wpAny_bind (LG _ _ _ _ (fun _ _ e => e) ?_))))))
  dsimp only
  rw [show onTheHeap (.type "function") = false from rfl, Bool.false_and]
  show wpAny _ _ (getAttrByItsOwn (.ref f) (.str (Str.ofString "write") t) (.type "function") (.builtin "object.__getattribute__") true false) _ _ _
  unfold getAttrByItsOwn
  refine wpAny_bind (wpAny_pure (wpAny_bind (wpAny_attempt (wpAny_holding ?_))))
  show wpAny _ _ (boundAndCalled (.builtin "object.__getattribute__") (.ref f) (.str (Str.ofString "write") t)) _ _ _
  unfold boundAndCalled
  rw [PySem.F.slot_object_getattribute.bind]
  refine wpAny_bind (wpAny_pure (wpAny_call ?_))
  refine codeAny_call_builtin PySem.F.slot_object_getattribute.plain fn_entry_ga (@check_slot (model prog w) _ _ _ "object.__getattribute__" "object" "__getattribute__" (.ref f) [.str (Str.ofString "write") t] [] _ fn_kind_ga fn_split_ga (fn_sub ho) (PySem.F.args_object_getattribute_2 _ _) ?_)
  have hlk : lookIn (Str.ofString "write") (dictOf [⟨hs, .str (Str.ofString "write") t₀, .ref a⟩] n) = some (some (.ref a)) := by
    rw [lookIn_dict]; simp [getL, Value.isStr]
  have LO : Looks (model prog w) hh (inOwnDict (Str.ofString "write") (.ref f)) (some (.ref a)) := by
    intro A' Q' E' s' k q
    refine wpAny_bind (wpAny_bind (wpAny_loadPart (k _ _ ho) ?_))
    show wpAny _ _ (instanceDict f false) _ _ _
    unfold instanceDict
    refine wpAny_bind (wpAny_loadPart (k _ _ ho) ?_)
    refine wpAny_pure (a := some d) ?_
    refine wpAny_bind (wpAny_loadPart (k _ _ hD) ?_)
    rw [nsLook_of hlk]; exact wpAny_pure q
  have LF : Looks (model prog w) hh (find (.ref f) (.type "function") (Str.ofString "write")) (.value (.ref a)) := by
    intro A' Q' E' s' k q
    unfold find
    refine wpAny_bind (LW _ _ _ _ k (wpAny_bind (wpAny_pure (wpAny_bind (wpAny_pure ?_)))))
    show wpAny _ _ (ownThenClass (.ref f) (Str.ofString "write") none none) _ _ _
    unfold ownThenClass
    refine wpAny_bind (LO _ _ _ _ k ?_)
    exact wpAny_bind (wpAny_rule (wpAny_pure q))
  show wpAny _ _ («object.__getattribute__» ⟨[.ref f, .str (Str.ofString "write") t], []⟩) _ _ _
  unfold «object.__getattribute__»
  refine wpAny_bind (wpAny_of_eq (a := (.ref f, [.str (Str.ofString "write") t])) (by kernel_rfl) ?_)
  dsimp only
  refine wpAny_bind (wpAny_pure (wpAny_bind (L0 _ _ _ _ (fun _ _ e => e) (wpAny_bind (LF _ _ _ _ (fun _ _ e => e) ?_)))))
  refine wpAny_pure ?_
  show wpAny _ _ (handedOut (.ref a)) _ _ _
  exact wpAny_pure (wpAny_pure (h _))
end
end

/- part MLoop -/
section
open PySem PySem.W PyProof.Rows PySem.Calls
section
variable {prog : Program} {w : World} {A : Around} {E : Value → Shared → Prop} {s : Shared} {env : Env} {h₀ : Heap} {x : Str} {body : List Stmt} {Q : Flow → Shared → Prop}
/-- a turn's end: the ledger is that of some state that the word holds of; the iterator still stands -/
def LpEnd {σ : Type} (h₀ : Heap) (L : Addr) (Led : σ → List (Addr × Obj)) (ps : σ → List (Str × Value)) (x : Str) (stored : List Str) (m₀ : Str → Option Value) (P : σ → Prop) (q : Addr × Obj) (s₁ s₂ : Shared) : Prop :=
  ∃ h' tk m' news' c, s₂ = { s₁ with heap := h', toks := tk } ∧ Fr h₀ L h' m' ∧ News h₀ L h' news' ∧ (∀ p ∈ Led c, p ∈ news') ∧ q ∈ news' ∧ (∀ p ∈ Led c, p.1 ≠ q.1) ∧
    (∀ p ∈ ps c, m' p.1 = some p.2) ∧ (∀ z, z ≠ x → (∀ p ∈ ps c, z ≠ p.1) → stored.contains z = false → m' z = m₀ z) ∧ P c
def LpPost {σ : Type} (h₀ : Heap) (L : Addr) (Led : σ → List (Addr × Obj)) (ps : σ → List (Str × Value)) (x : Str) (stored : List Str) (m₀ : Str → Option Value) (P : σ → Prop) (q : Addr × Obj) (s₁ : Shared) (Q : Flow → Shared → Prop) (f : Flow) (s₂ : Shared) : Prop :=
  match f with
  | .ret v => Q (.ret v) s₂
  | .brk => Q .next s₂
  | _ => LpEnd h₀ L Led ps x stored m₀ P q s₁ s₂
theorem LpEnd.mk {σ : Type} {L : Addr} {Led : σ → List (Addr × Obj)} {ps : σ → List (Str × Value)} {stored : List Str} {m₀ m' : Str → Option Value} {P : σ → Prop} {q : Addr × Obj} {s₁ : Shared} {h' : Heap} {tk : Nat} {news' : List (Addr × Obj)} (c : σ)
    (F : Fr h₀ L h' m') (N : News h₀ L h' news') (hn : ∀ p ∈ Led c, p ∈ news') (hq : q ∈ news') (ho : ∀ p ∈ Led c, p.1 ≠ q.1) (hk : ∀ p ∈ ps c, m' p.1 = some p.2)
    (hr : ∀ z, z ≠ x → (∀ p ∈ ps c, z ≠ p.1) → stored.contains z = false → m' z = m₀ z) (hp : P c) : LpEnd h₀ L Led ps x stored m₀ P q s₁ { s₁ with heap := h', toks := tk } :=
  ⟨h', tk, m', news', c, rfl, F, N, hn, hq, ho, hk, hr, hp⟩
theorem lp_core {σ : Type} {I : Addr} {fp : List Addr} {n : Nat} {V : Nat → Value → Prop} {St : Nat → Heap → Prop} {m₀ : Str → Option Value} (Led : σ → List (Addr × Obj)) (ps : σ → List (Str × Value)) (stored : List Str) (P : Nat → σ → Prop) (c₀ : σ)
    (W : Walks prog w A I fp [I] n V St) (hIf : I ∈ fp) (hfp : ∀ b ∈ fp, b = I ∨ ∃ q, h₀.get? b = some q) (hI0 : h₀.get? I = none) (hob : ∀ i h, St i h → ∃ o, h.get? I = some o) (hLf : env.locals ∉ fp)
    (hst : St 0 s.heap) (F : Fr h₀ env.locals s.heap m₀) (N : News h₀ env.locals s.heap (Led c₀)) (hne : ∀ p ∈ Led c₀, p.1 ≠ I) (hk : ∀ p ∈ ps c₀, m₀ p.1 = some p.2) (hp : P 0 c₀)
    (turn : ∀ (c : σ) i v (u : Str → Option Value) h tk io, i < n → V i v → P i c → (∀ p ∈ Led c, p.1 ≠ I) → Fr h₀ env.locals h (fun y => if y = x then some v else kstB (fun z => if stored.contains z then u z else m₀ z) (ps c) y) → News h₀ env.locals h ((I, io) :: Led c) →
      wpAny (model prog w) A (execs body env) (LpPost h₀ env.locals Led ps x stored m₀ (P (i + 1)) (I, io) { s with heap := h, toks := tk } Q) E { s with heap := h, toks := tk })
    (done : ∀ (c : σ) (u : Str → Option Value) h tk, P n c → Fr h₀ env.locals h (fun y => if y = x then u y else kstB (fun z => if stored.contains z then u z else m₀ z) (ps c) y) → News h₀ env.locals h (Led c) → Q .next { s with heap := h, toks := tk }) :
    LoopAtV prog w A h₀ env x body Q E (.ref I) s := by
  let J : Nat → (Str → Option Value) → List (Addr × Obj) → Prop := fun i m nx => ∃ c : σ, nx = Led c ∧ (∀ p ∈ ps c, m p.1 = some p.2) ∧ (∀ z, z ≠ x → (∀ p ∈ ps c, z ≠ p.1) → stored.contains z = false → m z = m₀ z) ∧ P i c
  refine ⟨I, fp, [I], n, V, St, m₀, Led c₀, J, rfl, W, hLf, fun b hb => by rw [List.mem_singleton.mp hb]; exact hI0, fun p hp hI => hne p hp (List.mem_singleton.mp hI), hst, F, N, ⟨c₀, rfl, hk, fun _ _ _ _ => rfl, hp⟩, ?_, ?_⟩
  · rintro i v m₁ news₁ s₁ own ⟨hh', tk', rfl⟩ hin hV ⟨c, rfl, h1, h2, hP⟩ hoff hown howh howf hst' F₁ N₁
    obtain ⟨io, hio⟩ := hob _ _ hst'
    have hio' : (I, io) ∈ own := howf I hIf hI0 io hio
    have hall := own_one hown hfp hio N₁
    have hneI : ∀ p ∈ Led c, p.1 ≠ I := fun p hp e => hoff p hp (List.mem_singleton.mpr e)
    refine wpAny_mono (turn c i v m₁ hh' tk' io hin hV hP hneI (kst_fr h1 h2 F₁) (news_one hio' N₁)) (fun f s₂ p => ?_) fun _ _ e => e
    have fin : LpEnd h₀ env.locals Led ps x stored m₀ (P (i + 1)) (I, io) { s with heap := hh', toks := tk' } s₂ → LoopStepU h₀ env.locals [I] own (J (i + 1)) { s with heap := hh', toks := tk' } .next s₂ := by
      rintro ⟨h', tk, m', news', c', e, F', N', hn, hq, ho, hk', hr', hP'⟩
      refine ⟨rfl, h', tk, m', Led c', e, F', fun p hp => ?_, fun p hp hq => ho p hp (List.mem_singleton.mp hq), c', rfl, hk', hr', hP'⟩
      rcases List.mem_append.mp hp with hp | hp
      · rw [hall p hp]; exact N' _ hq
      · exact N' _ (hn p hp)
    cases f with
    | ret v => exact .ret p
    | brk => exact .brk p
    | next => exact .next (fin p)
    | cont => exact .cont (fin p)
  · rintro h' tk m' news' F' N' _ ⟨c, rfl, h1, h2, hP⟩
    exact done c m' h' tk hP (kst_frOut h1 h2 F') N'
/-- over a list that stands in the base -/
theorem lp_list {σ : Type} {l : Addr} {vs : List Value} {m₀ : Str → Option Value} (Led : σ → List (Addr × Obj)) (ps : σ → List (Str × Value)) (stored : List Str) (P : Nat → σ → Prop) (c₀ : σ)
    (hh : A.handled = none) (hl : h₀.IsList l vs.toArray) (F : Fr h₀ env.locals s.heap m₀) (N : News h₀ env.locals s.heap (Led c₀)) (hk : ∀ p ∈ ps c₀, m₀ p.1 = some p.2) (hp : P 0 c₀)
    (turn : ∀ (c : σ) i v (u : Str → Option Value) h tk I io, vs[i]? = some v → P i c → (∀ p ∈ Led c, p.1 ≠ I) → Fr h₀ env.locals h (fun y => if y = x then some v else kstB (fun z => if stored.contains z then u z else m₀ z) (ps c) y) → News h₀ env.locals h ((I, io) :: Led c) →
      wpAny (model prog w) A (execs body env) (LpPost h₀ env.locals Led ps x stored m₀ (P (i + 1)) (I, io) { s with heap := h, toks := tk } Q) E { s with heap := h, toks := tk })
    (done : ∀ (c : σ) (u : Str → Option Value) h tk, P vs.length c → Fr h₀ env.locals h (fun y => if y = x then u y else kstB (fun z => if stored.contains z then u z else m₀ z) (ps c) y) → News h₀ env.locals h (Led c) → Q .next { s with heap := h, toks := tk }) :
    wpAny (model prog w) A (pyIter (.ref l)) (fun it s₂ => LoopAtV prog w A h₀ env x body Q E it s₂) E s := by
  have hls : s.heap.IsList l vs.toArray := hl.at fun o e => F.keep l o e
  obtain ⟨ol, hol, _⟩ := id hl
  have hlt : l < h₀.objs.size := Heap.lt_size hol
  have hne : l ≠ s.heap.objs.size := Nat.ne_of_lt (Nat.lt_trans (Nat.lt_of_lt_of_le hlt F.above) F.ns.lt)
  refine wpAny_pyIter_list hls ?_
  have W := Walks.list (prog := prog) (w := w) hh s.heap.objs.size l hne vs.toArray
  rw [List.size_toArray] at W
  refine lp_core Led ps stored P c₀ W (by simp) ?_ (next_is_new F) ?_ ?_ ⟨⟨_, Heap.get?_push_size _ rfl, rfl, rfl⟩, hls.at fun o e => Heap.get?_push_of_some _ e⟩ (F.push _) (fun p hp => ⟨Heap.get?_push_of_some _ (N p hp).1, (N p hp).2⟩) ?_ hk hp ?_ done
  · intro b hb
    rcases List.mem_cons.mp hb with e | hb
    · exact .inl e
    · rw [List.mem_singleton.mp hb]; exact .inr ⟨_, hol⟩
  · rintro i h ⟨⟨o, ho, _⟩, _⟩; exact ⟨o, ho⟩
  · intro hm
    rcases List.mem_cons.mp hm with e | hm
    · exact absurd F.ns.lt (e ▸ Nat.lt_irrefl _)
    · exact absurd (Nat.lt_of_lt_of_le hlt F.above) ((List.mem_singleton.mp hm) ▸ Nat.lt_irrefl _)
  · intro p hp e
    exact absurd (Heap.lt_size (N p hp).1) (e ▸ Nat.lt_irrefl _)
  · intro c i v u h tk io _ hV hP hI F₁ N₁
    exact turn c i v u h tk _ io (by simpa using hV) hP hI F₁ N₁
/-- over a range from nought -/
theorem lp_range {σ : Type} {r : Addr} {b₀ : Int} {t₀ u₀ v₀ : Tok} {n : Nat} {m₀ : Str → Option Value} (Led : σ → List (Addr × Obj)) (ps : σ → List (Str × Value)) (stored : List Str) (P : Nat → σ → Prop) (c₀ : σ)
    (hh : A.handled = none) (hr : IsRange s.heap r 0 b₀ 1 t₀ u₀ v₀) (hsmall : Builtin.Range.small 0 b₀ 1 = true) (hn : Builtin.Range.rangeSize 0 b₀ 1 = (n : Int)) (F : Fr h₀ env.locals s.heap m₀) (N : News h₀ env.locals s.heap (Led c₀)) (hk : ∀ p ∈ ps c₀, m₀ p.1 = some p.2) (hp : P 0 c₀)
    (turn : ∀ (c : σ) (i : Nat) t (u : Str → Option Value) h tk I io, i < n → P i c → (∀ p ∈ Led c, p.1 ≠ I) → Fr h₀ env.locals h (fun y => if y = x then some (.int (i : Int) t) else kstB (fun z => if stored.contains z then u z else m₀ z) (ps c) y) → News h₀ env.locals h ((I, io) :: Led c) →
      wpAny (model prog w) A (execs body env) (LpPost h₀ env.locals Led ps x stored m₀ (P (i + 1)) (I, io) { s with heap := h, toks := tk } Q) E { s with heap := h, toks := tk })
    (done : ∀ (c : σ) (u : Str → Option Value) h tk, P n c → Fr h₀ env.locals h (fun y => if y = x then u y else kstB (fun z => if stored.contains z then u z else m₀ z) (ps c) y) → News h₀ env.locals h (Led c) → Q .next { s with heap := h, toks := tk }) :
    wpAny (model prog w) A (pyIter (.ref r)) (fun it s₂ => LoopAtV prog w A h₀ env x body Q E it s₂) E s := by
  refine wpAny_pyIter_range hr hsmall ?_
  have W : Walks prog w A s.heap.objs.size [s.heap.objs.size] [s.heap.objs.size] n (fun i v => i < n ∧ ∃ t, v = .int (0 + i * 1) t)
      (fun i h => IsRangeIter h s.heap.objs.size (0 + (i : Nat) * 1) ((n : Int) - (i : Nat)) 1) := (Walks.range hh _ 0 1 n).bound
  refine lp_core Led ps stored P c₀ W (by simp) (fun b hb => .inl (List.mem_singleton.mp hb)) (next_is_new F) ?_ ?_ (by show IsRangeIter _ _ _ _ _; rw [hn]; simpa using Heap.get?_push_size _ rfl) (F.push _) (fun p hp => ⟨Heap.get?_push_of_some _ (N p hp).1, (N p hp).2⟩) ?_ hk hp ?_ done
  · intro i h hs; exact ⟨_, hs⟩
  · intro hm
    exact absurd F.ns.lt ((List.mem_singleton.mp hm) ▸ Nat.lt_irrefl _)
  · intro p hp e
    exact absurd (Heap.lt_size (N p hp).1) (e ▸ Nat.lt_irrefl _)
  · rintro c i v u h tk io _ ⟨hi, t, rfl⟩ hP hI F₁ N₁
    have e1 : (0 : Int) + (i : Int) * 1 = (i : Int) := by omega
    rw [e1] at F₁
    exact turn c i t u h tk _ io hi hP hI F₁ N₁
end
end

/- part MTurn -/
section
open PySem PySem.W PyProof.Rows PySem.Calls
section
variable {prog : Program} {w : World} {A : Around} {E : Value → Shared → Prop} {s : Shared} {env : Env} {h₀ : Heap} {target : PySem.Expr} {body : List Stmt} {Q : Flow → Shared → Prop}
/-- a turn's end, several things being the iterator's -/
def LtEnd {σ : Type} (h₀ : Heap) (L : Addr) (Led : σ → List (Addr × Obj)) (ps : σ → List (Str × Value)) (stored : List Str) (m₀ : Str → Option Value) (P : σ → Prop) (its : List (Addr × Obj)) (s₁ s₂ : Shared) : Prop :=
  ∃ h' tk m' news' c, s₂ = { s₁ with heap := h', toks := tk } ∧ Fr h₀ L h' m' ∧ News h₀ L h' news' ∧ (∀ p ∈ Led c, p ∈ news') ∧ (∀ p ∈ its, p ∈ news') ∧ (∀ p ∈ Led c, ∀ q ∈ its, p.1 ≠ q.1) ∧
    (∀ p ∈ ps c, m' p.1 = some p.2) ∧ (∀ z, (∀ p ∈ ps c, z ≠ p.1) → stored.contains z = false → m' z = m₀ z) ∧ P c
def LtPost {σ : Type} (h₀ : Heap) (L : Addr) (Led : σ → List (Addr × Obj)) (ps : σ → List (Str × Value)) (stored : List Str) (m₀ : Str → Option Value) (P : σ → Prop) (its : List (Addr × Obj)) (s₁ : Shared) (Q : Flow → Shared → Prop) (f : Flow) (s₂ : Shared) : Prop :=
  match f with
  | .ret v => Q (.ret v) s₂
  | .brk => Q .next s₂
  | _ => LtEnd h₀ L Led ps stored m₀ P its s₁ s₂
theorem LtEnd.mk {σ : Type} {L : Addr} {Led : σ → List (Addr × Obj)} {ps : σ → List (Str × Value)} {stored : List Str} {m₀ m' : Str → Option Value} {P : σ → Prop} {its : List (Addr × Obj)} {s₁ : Shared} {h' : Heap} {tk : Nat} {news' : List (Addr × Obj)} (c : σ)
    (F : Fr h₀ L h' m') (N : News h₀ L h' news') (hn : ∀ p ∈ Led c, p ∈ news') (hq : ∀ p ∈ its, p ∈ news') (ho : ∀ p ∈ Led c, ∀ q ∈ its, p.1 ≠ q.1) (hk : ∀ p ∈ ps c, m' p.1 = some p.2)
    (hr : ∀ z, (∀ p ∈ ps c, z ≠ p.1) → stored.contains z = false → m' z = m₀ z) (hp : P c) : LtEnd h₀ L Led ps stored m₀ P its s₁ { s₁ with heap := h', toks := tk } :=
  ⟨h', tk, m', news', c, rfl, F, N, hn, hq, ho, hk, hr, hp⟩
theorem lt_core {σ : Type} {I : Addr} {fp wr : List Addr} {n : Nat} {Pv Md : Nat → Value → Heap → Prop} {St : Nat → Heap → Prop} {ws : List (Addr × String)} {m₀ : Str → Option Value} {hp : Heap} {tk0 : Nat}
    (Led : σ → List (Addr × Obj)) (ps : σ → List (Str × Value)) (stored : List Str) (P : Nat → σ → Prop) (c₀ : σ)
    (W : KTurns prog w A target I fp wr n Pv Md St)
    (hobj : ∀ i h, St i h → ∃ its, Objs ws its ∧ ∀ p ∈ its, h.get? p.1 = some p.2)
    (hws : ∀ b ∈ ws.map (·.1), b ∈ fp ∧ h₀.get? b = none) (hwr : ∀ b ∈ wr, b ∈ ws.map (·.1)) (hwr' : ∀ b ∈ ws.map (·.1), b ∈ wr)
    (hfp : ∀ b ∈ fp, b ∈ ws.map (·.1) ∨ (∃ q, h₀.get? b = some q) ∨ ∃ o, ∀ c, (b, o) ∈ Led c) (hL : env.locals ∉ fp) (hnw : ∀ p ∈ Led c₀, p.1 ∉ wr) (hst : St 0 hp)
    (F : Fr h₀ env.locals hp m₀) (N : News h₀ env.locals hp (Led c₀)) (hk : ∀ p ∈ ps c₀, m₀ p.1 = some p.2) (hP0 : P 0 c₀)
    (turn : ∀ (c : σ) i v (u : Str → Option Value) h tk its, i < n → Pv i v h → P i c → Objs ws its → (∀ p ∈ Led c, ∀ q ∈ its, p.1 ≠ q.1) → Fr h₀ env.locals h (fun y => kstB (fun z => if stored.contains z then u z else m₀ z) (ps c) y) → News h₀ env.locals h (its ++ Led c) →
      wpAny (model prog w) A (assign target env v) (fun _ s₂ => wpAny (model prog w) A (execs body env) (LtPost h₀ env.locals Led ps stored m₀ (P (i + 1)) its { s with heap := h, toks := tk } Q) E s₂) E { s with heap := h, toks := tk })
    (done : ∀ (c : σ) (u : Str → Option Value) h tk, P n c → Fr h₀ env.locals h (fun y => kstB (fun z => if stored.contains z then u z else m₀ z) (ps c) y) → News h₀ env.locals h (Led c) → Q .next { s with heap := h, toks := tk }) :
    TurnsAt prog w A h₀ env target body Q E (.ref I) { s with heap := hp, toks := tk0 } := by
  let J : Nat → (Str → Option Value) → List (Addr × Obj) → Prop := fun i m nx => ∃ c : σ, nx = Led c ∧ (∀ p ∈ ps c, m p.1 = some p.2) ∧ (∀ z, (∀ p ∈ ps c, z ≠ p.1) → stored.contains z = false → m z = m₀ z) ∧ P i c
  refine ⟨I, fp, wr, n, Pv, Md, St, m₀, Led c₀, J, rfl, W, hL, fun b hb => (hws b (hwr b hb)).2, hnw, hst, F, N, ⟨c₀, rfl, hk, fun _ _ _ => rfl, hP0⟩, ?_, ?_⟩
  · rintro i v m₁ news₁ h₁ tk₁ own hin hPi ⟨c, rfl, g1, g2, hPc⟩ hoff hown hget hall hst₁ F₁ N₁
    obtain ⟨its, hits, hval⟩ := hobj (i + 1) h₁ hst₁
    have hmap := hits.map
    have N₂ : News h₀ env.locals h₁ (its ++ Led c) := fun p hp => by
      rcases List.mem_append.mp hp with hp | hp
      · have h1 : p.1 ∈ ws.map (·.1) := by rw [← hmap]; exact List.mem_map.mpr ⟨p, hp, rfl⟩
        exact N₁ _ (List.mem_append_left _ (hall p.1 (hws _ h1).1 (hws _ h1).2 p.2 (hval p hp)))
      · exact N₁ _ (List.mem_append_right _ hp)
    have hoff2 : ∀ p ∈ Led c, ∀ q ∈ its, p.1 ≠ q.1 := fun p hp q hq e => by
      have h1 : q.1 ∈ ws.map (·.1) := by rw [← hmap]; exact List.mem_map.mpr ⟨q, hq, rfl⟩
      exact hoff p hp (by rw [e]; exact hwr' _ h1)
    have fin : ∀ s₃, LtEnd h₀ env.locals Led ps stored m₀ (P (i + 1)) its { s with heap := h₁, toks := tk₁ } s₃ →
        LoopStepU h₀ env.locals wr own (J (i + 1)) { s with heap := h₁, toks := tk₁ } .next s₃ := by
      rintro s₃ ⟨h', tk, m', news', c', e, F', N', hn, hq, ho, hk', hr', hP'⟩
      refine ⟨rfl, h', tk, m', Led c', e, F', ?_, ?_, c', rfl, hk', hr', hP'⟩
      · rintro ⟨pa, po⟩ hp
        rcases List.mem_append.mp hp with hp | hp
        · have h2 : h₁.get? pa = some po := hget _ hp
          rcases hfp pa (hown _ hp) with h3 | ⟨q, h3⟩ | ⟨o, h3⟩
          · have h4 : pa ∈ its.map (·.1) := by rw [hmap]; exact h3
            obtain ⟨⟨qa, qo⟩, hq2, hqe⟩ := List.mem_map.mp h4
            have hqe' : qa = pa := hqe
            subst hqe'
            have h5 : h₁.get? qa = some qo := hval _ hq2
            have h6 : qo = po := Option.some.inj (h5.symm.trans h2)
            subst h6
            exact N' _ (hq _ hq2)
          · have := (N₁ _ (List.mem_append_left _ hp)).2.2
            rw [h3] at this; cases this
          · have h4 : h₁.get? pa = some o := (N₁ _ (List.mem_append_right _ (h3 c))).1
            have h6 : o = po := Option.some.inj (h4.symm.trans h2)
            subst h6
            exact N' _ (hn _ (h3 c'))
        · exact N' _ (hn _ hp)
      · intro p hp hI
        have h4 : p.1 ∈ its.map (·.1) := by rw [hmap]; exact hwr _ hI
        obtain ⟨q, hq2, hqe⟩ := List.mem_map.mp h4
        exact ho p hp q hq2 hqe.symm
    refine wpAny_mono (turn c i v m₁ h₁ tk₁ its hin hPi hPc hits hoff2 (ksw_fr g1 g2 F₁) N₂) (fun _ s₂ h₂ => wpAny_mono h₂ (fun f s₃ p => ?_) fun _ _ e => e) fun _ _ e => e
    cases f with
    | ret v => exact p
    | brk => exact p
    | next => exact fin _ p
    | cont => exact fin _ p
  · rintro h' tk m' news' F' N' _ ⟨c, rfl, g1, g2, hPc⟩
    exact done c m' h' tk hPc (ksw_fr g1 g2 F') N'
theorem objs1 {a : Addr × String} : ∀ {its : List (Addr × Obj)}, Objs [a] its → ∃ o1, its = [(a.1, o1)] ∧ o1.cls = .type a.2
  | [], h => False.elim h
  | [(b, o)], h => by
    obtain ⟨⟨e, c⟩, _⟩ := h
    have e' : b = a.1 := e
    subst e'
    exact ⟨o, rfl, c⟩
  | _ :: _ :: _, h => False.elim h.2
theorem objs2 {a b : Addr × String} : ∀ {its : List (Addr × Obj)}, Objs [a, b] its → ∃ o1 o2, its = [(a.1, o1), (b.1, o2)] ∧ o1.cls = .type a.2 ∧ o2.cls = .type b.2
  | [], h => False.elim h
  | (c, o) :: r, h => by
    obtain ⟨⟨e, k⟩, h2⟩ := h
    have e' : c = a.1 := e
    subst e'
    obtain ⟨o2, rfl, k2⟩ := objs1 h2
    exact ⟨o, o2, rfl, k, k2⟩
/-- for .., .. in enumerate(a list of the ledger) -/
theorem lt_enumL {σ : Type} {elts : List PySem.Expr} {k : Nat} {pos : Pos} {l : Addr} {lo : Obj} {vs : List Value} {n : Nat} {m₀ : Str → Option Value} (Led : σ → List (Addr × Obj)) (ps : σ → List (Str × Value)) (stored : List Str) (P : Nat → σ → Prop) (c₀ : σ)
    (hh : A.handled = none) (F : Fr h₀ env.locals s.heap m₀) (N : News h₀ env.locals s.heap (Led c₀)) (hm : ∀ c, (l, lo) ∈ Led c) (hc : lo.cls = .type "list") (hd : lo.data = .seq vs.toArray n) (hk : ∀ p ∈ ps c₀, m₀ p.1 = some p.2) (hP0 : P 0 c₀)
    (turn : ∀ (c : σ) (i : Nat) x t T (u : Str → Option Value) h tk I o1 o2, vs[i]? = some x → IsTup h T #[.int (i : Int) t, x] → P i c → o1.cls = .type "enumerate" → o2.cls = .type "list_iterator" → (∀ p ∈ Led c, p.1 ≠ I) → (∀ p ∈ Led c, p.1 ≠ I + 1) → Fr h₀ env.locals h (fun y => kstB (fun z => if stored.contains z then u z else m₀ z) (ps c) y) → News h₀ env.locals h ((I + 1, o1) :: (I, o2) :: Led c) →
      wpAny (model prog w) A (assign (.Tuple elts k pos) env (.ref T)) (fun _ s₂ => wpAny (model prog w) A (execs body env) (LtPost h₀ env.locals Led ps stored m₀ (P (i + 1)) [(I + 1, o1), (I, o2)] { s with heap := h, toks := tk } Q) E s₂) E { s with heap := h, toks := tk })
    (done : ∀ (c : σ) (u : Str → Option Value) h tk, P vs.length c → Fr h₀ env.locals h (fun y => kstB (fun z => if stored.contains z then u z else m₀ z) (ps c) y) → News h₀ env.locals h (Led c) → Q .next { s with heap := h, toks := tk }) :
    wpAny (model prog w) A (call (.type "enumerate") [.ref l]) (fun xv s₁ => wpAny (model prog w) A (pyIter xv) (fun it s₂ => TurnsAt prog w A h₀ env (.Tuple elts k pos) body Q E it s₂) E s₁) E s := by
  have hax := N _ (hm c₀)
  have hl : s.heap.IsList l vs.toArray := ⟨lo, hax.1, hc, n, hd⟩
  have hlt : l < s.heap.objs.size := Heap.lt_size hax.1
  have hLs : env.locals < s.heap.objs.size := F.ns.lt
  refine call_enumerate_list hl fun h' hE hI hsz hk' => ?_
  refine wpAny_pyIter_enum hE ?_
  refine lt_core (tk0 := s.toks) (ws := [(s.heap.objs.size + 1, "enumerate"), (s.heap.objs.size, "list_iterator")]) Led ps stored P c₀ (KTurns.ofWalksU (WalksT.enumerate hh (s.heap.objs.size + 1) s.heap.objs.size l (Nat.succ_ne_self _) (ktu_ne 1 hlt) (Nat.ne_of_lt hlt) vs.toArray).toU) ?_ ?_ ?_ ?_ ?_ ?_ ?_ ?_ (F.keeps hk') (N.grown hk') hk hP0 ?_ ?_
  · rintro i h ⟨⟨old, he⟩, ⟨oi, hoi, hic, _⟩, _⟩
    have he' : ∃ oe : Obj, h.get? (s.heap.objs.size + 1) = some oe ∧ oe.cls = .type "enumerate" := ⟨_, he, rfl⟩
    obtain ⟨oe, h1, h2⟩ := he'
    refine ⟨[(s.heap.objs.size + 1, oe), (s.heap.objs.size, oi)], ⟨⟨rfl, h2⟩, ⟨rfl, hic⟩, trivial⟩, fun p hp => ?_⟩
    rcases List.mem_cons.mp hp with rfl | hp
    · exact h1
    · rw [List.mem_singleton.mp hp]; exact hoi
  · intro b hb
    have hb' : b = s.heap.objs.size + 1 ∨ b = s.heap.objs.size := by simpa using hb
    rcases hb' with rfl | rfl
    · exact ⟨by simp, ktu_new F (Nat.le_add_right _ _)⟩
    · exact ⟨by simp, ktu_new F (Nat.le_refl _)⟩
  · intro b hb
    simpa using hb
  · intro b hb
    simpa using hb
  · intro b hb
    have hb' : b = s.heap.objs.size + 1 ∨ b = s.heap.objs.size ∨ b = l := by simpa using hb
    rcases hb' with rfl | rfl | rfl
    · exact .inl (by simp)
    · exact .inl (by simp)
    · exact .inr (.inr ⟨lo, hm⟩)
  · intro hI'
    have hb' : env.locals = s.heap.objs.size + 1 ∨ env.locals = s.heap.objs.size ∨ env.locals = l := by simpa using hI'
    rcases hb' with e | e | e
    · exact ktu_ne 1 hLs e
    · exact Nat.ne_of_lt hLs e
    · exact hax.2.1 e.symm
  · intro p hp hI'
    have hb' : p.1 = s.heap.objs.size + 1 ∨ p.1 = s.heap.objs.size := by simpa using hI'
    have hlp := Heap.lt_size (N p hp).1
    rcases hb' with e | e
    · exact ktu_ne 1 hlp e
    · exact Nat.ne_of_lt hlp e
  · exact ⟨⟨.none, hE⟩, hI, hl.at fun o e => hk' l o e⟩
  · rintro c i v u h tk its hin ⟨T, vals, rfl, ⟨t, x, hx, rfl⟩, hT⟩ hPc hO hoff F₁ N₁
    obtain ⟨o1, o2, rfl, c1, c2⟩ := objs2 hO
    exact turn c i x t T u h tk _ o1 o2 (by simpa using hx) hT hPc c1 c2 (fun p hp => hoff p hp _ (.tail _ (.head _))) (fun p hp => hoff p hp _ (.head _)) F₁ N₁
  · intro c u h tk hPc
    exact done c u h tk (by simpa using hPc)
/-- for .., .. in enumerate(a text) -/
theorem lt_enumS {σ : Type} {elts : List PySem.Expr} {k : Nat} {pos : Pos} {x : Str} {tx : Tok} {m₀ : Str → Option Value} (Led : σ → List (Addr × Obj)) (ps : σ → List (Str × Value)) (stored : List Str) (P : Nat → σ → Prop) (c₀ : σ)
    (hh : A.handled = none) (F : Fr h₀ env.locals s.heap m₀) (N : News h₀ env.locals s.heap (Led c₀)) (hk : ∀ p ∈ ps c₀, m₀ p.1 = some p.2) (hP0 : P 0 c₀)
    (turn : ∀ (c : σ) (i : Nat) ch t tv T (u : Str → Option Value) h tk I o1 o2, x.cps[i]? = some ch → IsTup h T #[.int (i : Int) t, .str ⟨#[ch]⟩ tv] → P i c → (∀ p ∈ Led c, p.1 ≠ I) → (∀ p ∈ Led c, p.1 ≠ I + 1) → Fr h₀ env.locals h (fun y => kstB (fun z => if stored.contains z then u z else m₀ z) (ps c) y) → News h₀ env.locals h ((I + 1, o1) :: (I, o2) :: Led c) →
      wpAny (model prog w) A (assign (.Tuple elts k pos) env (.ref T)) (fun _ s₂ => wpAny (model prog w) A (execs body env) (LtPost h₀ env.locals Led ps stored m₀ (P (i + 1)) [(I + 1, o1), (I, o2)] { s with heap := h, toks := tk } Q) E s₂) E { s with heap := h, toks := tk })
    (done : ∀ (c : σ) (u : Str → Option Value) h tk, P x.length c → Fr h₀ env.locals h (fun y => kstB (fun z => if stored.contains z then u z else m₀ z) (ps c) y) → News h₀ env.locals h (Led c) → Q .next { s with heap := h, toks := tk }) :
    wpAny (model prog w) A (call (.type "enumerate") [.str x tx]) (fun xv s₁ => wpAny (model prog w) A (pyIter xv) (fun it s₂ => TurnsAt prog w A h₀ env (.Tuple elts k pos) body Q E it s₂) E s₁) E s := by
  have hLs : env.locals < s.heap.objs.size := F.ns.lt
  refine call_enumerate_str fun h' hE hI hsz hk' => ?_
  refine wpAny_pyIter_enum hE ?_
  have key : ∀ nm : String, Draws prog w A.in1 s.heap.objs.size [s.heap.objs.size] x.cps.size (fun i v => ∃ c u, x.cps[i]? = some c ∧ v = .str ⟨#[c]⟩ u) (fun i h => h.IsStrIter s.heap.objs.size nm x tx i) → h'.IsStrIter s.heap.objs.size nm x tx 0 →
      TurnsAt prog w A h₀ env (.Tuple elts k pos) body Q E (.ref (s.heap.objs.size + 1)) { s with heap := h', toks := s.toks } := by
    intro nm D hI
    refine lt_core (tk0 := s.toks) (ws := [(s.heap.objs.size + 1, "enumerate"), (s.heap.objs.size, nm)]) Led ps stored P c₀ (KTurns.ofWalksU (WalksT.enumerateD D (s.heap.objs.size + 1) (Nat.succ_ne_self _) (fun hm => Nat.succ_ne_self _ (List.mem_singleton.mp hm)) (by simp)).toU) ?_ ?_ ?_ ?_ ?_ ?_ ?_ ?_ (F.keeps hk') (N.grown hk') hk hP0 ?_ ?_
    · rintro i h ⟨⟨old, he⟩, ⟨oi, hoi, hic, _⟩⟩
      have he' : ∃ oe : Obj, h.get? (s.heap.objs.size + 1) = some oe ∧ oe.cls = .type "enumerate" := ⟨_, he, rfl⟩
      obtain ⟨oe, h1, h2⟩ := he'
      refine ⟨[(s.heap.objs.size + 1, oe), (s.heap.objs.size, oi)], ⟨⟨rfl, h2⟩, ⟨rfl, hic⟩, trivial⟩, fun p hp => ?_⟩
      rcases List.mem_cons.mp hp with rfl | hp
      · exact h1
      · rw [List.mem_singleton.mp hp]; exact hoi
    · intro b hb
      have hb' : b = s.heap.objs.size + 1 ∨ b = s.heap.objs.size := by simpa using hb
      rcases hb' with rfl | rfl
      · exact ⟨by simp, ktu_new F (Nat.le_add_right _ _)⟩
      · exact ⟨by simp, ktu_new F (Nat.le_refl _)⟩
    · intro b hb
      simpa using hb
    · intro b hb
      simpa using hb
    · intro b hb
      have hb' : b = s.heap.objs.size + 1 ∨ b = s.heap.objs.size := by simpa using hb
      rcases hb' with rfl | rfl
      · exact .inl (by simp)
      · exact .inl (by simp)
    · intro hI'
      have hb' : env.locals = s.heap.objs.size + 1 ∨ env.locals = s.heap.objs.size := by simpa using hI'
      rcases hb' with e | e
      · exact ktu_ne 1 hLs e
      · exact Nat.ne_of_lt hLs e
    · intro p hp hI'
      have hb' : p.1 = s.heap.objs.size + 1 ∨ p.1 = s.heap.objs.size := by simpa using hI'
      have hlp := Heap.lt_size (N p hp).1
      rcases hb' with e | e
      · exact ktu_ne 1 hlp e
      · exact Nat.ne_of_lt hlp e
    · exact ⟨⟨.none, hE⟩, hI⟩
    · rintro c i v u h tk its hin ⟨T, vals, rfl, ⟨t, y, ⟨ch, tv, hx, rfl⟩, rfl⟩, hT⟩ hPc hO hoff F₁ N₁
      obtain ⟨o1, o2, rfl, c1, c2⟩ := objs2 hO
      exact turn c i ch t tv T u h tk _ o1 o2 hx hT hPc (fun p hp => hoff p hp _ (.tail _ (.head _))) (fun p hp => hoff p hp _ (.head _)) F₁ N₁
    · intro c u h tk hPc
      exact done c u h tk hPc
  cases ha : x.cps.all (· < 128)
  · exact key "str_iterator" (Draws.strWide (A := A.in1) hh s.heap.objs.size x tx) (by simpa [strIterType, ha] using hI)
  · exact key "str_ascii_iterator" (Draws.strAscii (A := A.in1) hh s.heap.objs.size x tx) (by simpa [strIterType, ha] using hI)
/-- for .., .. in a list of the ledger -/
theorem lt_listL {σ : Type} {l : Addr} {lo : Obj} {vs : List Value} {n : Nat} {m₀ : Str → Option Value} (Led : σ → List (Addr × Obj)) (ps : σ → List (Str × Value)) (stored : List Str) (P : Nat → σ → Prop) (c₀ : σ)
    (hh : A.handled = none) (F : Fr h₀ env.locals s.heap m₀) (N : News h₀ env.locals s.heap (Led c₀)) (hm : ∀ c, (l, lo) ∈ Led c) (hc : lo.cls = .type "list") (hd : lo.data = .seq vs.toArray n) (hk : ∀ p ∈ ps c₀, m₀ p.1 = some p.2) (hP0 : P 0 c₀)
    (turn : ∀ (c : σ) i x (u : Str → Option Value) h tk I o1, vs[i]? = some x → P i c → (∀ p ∈ Led c, p.1 ≠ I) → Fr h₀ env.locals h (fun y => kstB (fun z => if stored.contains z then u z else m₀ z) (ps c) y) → News h₀ env.locals h ((I, o1) :: Led c) →
      wpAny (model prog w) A (assign target env x) (fun _ s₂ => wpAny (model prog w) A (execs body env) (LtPost h₀ env.locals Led ps stored m₀ (P (i + 1)) [(I, o1)] { s with heap := h, toks := tk } Q) E s₂) E { s with heap := h, toks := tk })
    (done : ∀ (c : σ) (u : Str → Option Value) h tk, P vs.length c → Fr h₀ env.locals h (fun y => kstB (fun z => if stored.contains z then u z else m₀ z) (ps c) y) → News h₀ env.locals h (Led c) → Q .next { s with heap := h, toks := tk }) :
    wpAny (model prog w) A (pyIter (.ref l)) (fun it s₂ => TurnsAt prog w A h₀ env target body Q E it s₂) E s := by
  have hax := N _ (hm c₀)
  have hl : s.heap.IsList l vs.toArray := ⟨lo, hax.1, hc, n, hd⟩
  have hlt : l < s.heap.objs.size := Heap.lt_size hax.1
  have hne : l ≠ s.heap.objs.size := Nat.ne_of_lt hlt
  refine wpAny_pyIter_list hl ?_
  refine lt_core (tk0 := s.toks) (ws := [(s.heap.objs.size, "list_iterator")]) Led ps stored P c₀ (KTurns.ofWalks (Walks.list hh s.heap.objs.size l hne vs.toArray) fun i v s Q E st q => letGo_listiter st.1 q) ?_ ?_ ?_ ?_ ?_ ?_ ?_ ?_ (F.push _) (fun p hp => ⟨Heap.get?_push_of_some _ (N p hp).1, (N p hp).2⟩) hk hP0 ?_ ?_
  · intro i h st
    obtain ⟨it, hit, hic, _⟩ := st.1
    exact ⟨[(s.heap.objs.size, it)], ⟨⟨rfl, hic⟩, trivial⟩, fun p hp => by rw [List.mem_singleton.mp hp]; exact hit⟩
  · intro b hb
    have hb' : b = s.heap.objs.size := by simpa using hb
    rw [hb']
    exact ⟨List.mem_cons_self .., next_is_new F⟩
  · intro b hb
    simpa using hb
  · intro b hb
    simpa using hb
  · intro b hb
    have hb' : b = s.heap.objs.size ∨ b = l := by simpa using hb
    rcases hb' with e | e
    · exact .inl (by simp [e])
    · exact .inr (.inr ⟨lo, by rw [e]; exact hm⟩)
  · intro hI
    rcases List.mem_cons.mp hI with e | hI
    · exact absurd F.ns.lt (e ▸ Nat.lt_irrefl _)
    · exact hax.2.1 (List.mem_singleton.mp hI).symm
  · intro p hp hI
    exact absurd (Heap.lt_size (N p hp).1) ((List.mem_singleton.mp hI) ▸ Nat.lt_irrefl _)
  · exact ⟨⟨_, Heap.get?_push_size _ rfl, rfl, rfl⟩, hl.at fun o e => Heap.get?_push_of_some _ e⟩
  · rintro c i v u h tk its hin hx hPc hO hoff F₁ N₁
    obtain ⟨o1, rfl, c1⟩ := objs1 hO
    exact turn c i v u h tk _ o1 (by simpa using hx) hPc (fun p hp => hoff p hp _ (.head _)) F₁ N₁
  · intro c u h tk hPc
    exact done c u h tk (by simpa using hPc)
end
end

/- part MComp2 -/
section
open PySem PySem.W PyProof.Rows PySem.Calls
section
variable {prog : Program} {w : World} {A : Around} {E : Value → Shared → Prop} {R : Result → Shared → Prop} {s : Shared}
theorem turn2_0 (elt t1 t2 iter1 iter2 : PySem.Expr) (scope : Scope) (pos : Pos) (it acc : Value) (env : Env) :
    compTurn (.ListComp elt [⟨t1, iter1, [], 0⟩, ⟨t2, iter2, [], 0⟩] scope pos) 0 it acc env = (standAt iter1.pos >>= fun _ => pyNext it >>= fun r => match r with
      | none => pure (.done .next)
      | some v => letOwnedTupleGo t1 it v >>= fun _ => assign t1 env v >>= fun _ => eval iter2 env >>= fun x => standAt iter2.pos >>= fun _ => foldedSetIterable iter2 env x >>= fun x => holding [x] (pyIter x) >>= fun i2 =>
          runOwn (.compStart (.ListComp elt [⟨t1, iter1, [], 0⟩, ⟨t2, iter2, [], 0⟩] scope pos) 1 i2 acc env) env >>= fun _ => again (.compLoop (.ListComp elt [⟨t1, iter1, [], 0⟩, ⟨t2, iter2, [], 0⟩] scope pos) 0 it acc env)) := by rfl
theorem turn2_1 (elt t1 t2 iter1 iter2 : PySem.Expr) (scope : Scope) (pos : Pos) (it acc : Value) (env : Env) :
    compTurn (.ListComp elt [⟨t1, iter1, [], 0⟩, ⟨t2, iter2, [], 0⟩] scope pos) 1 it acc env = (standAt iter2.pos >>= fun _ => pyNext it >>= fun r => match r with
      | none => pure (.done .next)
      | some v => letOwnedTupleGo t2 it v >>= fun _ => assign t2 env v >>= fun _ =>
        (eval elt env >>= fun x => call (.builtin "list.append") [acc, x] >>= fun _ => pure ()) >>= fun _ =>
          again (.compLoop (.ListComp elt [⟨t1, iter1, [], 0⟩, ⟨t2, iter2, [], 0⟩] scope pos) 1 it acc env)) := by rfl
theorem start2_1 {elt t1 t2 iter1 iter2 : PySem.Expr} {scope : Scope} {pos : Pos} {it acc : Value} {env : Env}
    (h0 : codeAny (model prog w) A (.compLoop (.ListComp elt [⟨t1, iter1, [], 0⟩, ⟨t2, iter2, [], 0⟩] scope pos) 1 it acc env) R s)
    (h : wpAny (model prog w) A (pyIter it) (fun it' s' => codeAny (model prog w) A (.compLoop (.ListComp elt [⟨t1, iter1, [], 0⟩, ⟨t2, iter2, [], 0⟩] scope pos) 1 it' acc env) R s')
      (notedBy (model prog w) A env fun x s' => R (.error x) s') s) :
    codeAny (model prog w) A (.compStart (.ListComp elt [⟨t1, iter1, [], 0⟩, ⟨t2, iter2, [], 0⟩] scope pos) 1 it acc env) R s := by
  refine codeAny_of_tree ?_
  show wpAny _ _ ((compStart (.ListComp elt [⟨t1, iter1, [], 0⟩, ⟨t2, iter2, [], 0⟩] scope pos) 1 it acc env).onRaise (fun x => do noteFrame x env; standAt theWindowsPlace)) _ _ s
  refine wpAny_notedAt ?_
  unfold compStart
  show wpAny _ _ (ask >>= _) _ _ s
  refine wpAny_bind (wpAny_askSetting (wpAny_ite ?_))
  split
  · first
      | exact wpAny_bind (wpAny_pure (wpAny_pure (And.intro rfl h0)))
      | exact wpAny_pure (And.intro rfl h0)
  · first
      | exact wpAny_bind (wpAny_rule (wpAny_bind (wpAny_standAt (wpAny_bind (wpAny_mono h (fun it' s' h' => wpAny_pure (And.intro rfl h')) fun _ _ x => x)))))
      | (refine wpAny_bind (wpAny_rule ?_); show wpAny _ _ (standAt iter2.pos >>= _) _ _ s; exact wpAny_bind (wpAny_standAt (wpAny_bind (wpAny_mono h (fun it' s' h' => wpAny_pure (And.intro rfl h')) fun _ _ x => x))))
theorem loop2_1 {elt t1 t2 iter1 iter2 : PySem.Expr} {scope : Scope} {pos : Pos} {it acc : Value} {env : Env} (I : Nat → Shared → Prop)
    (turn : ∀ n s, I n s → wpAny (model prog w) A (pyNext it) (fun r s₁ => match r with
      | none => R (.ok .next) s₁
      | some v => wpAny (model prog w) A (assign t2 env v) (fun _ s₂ => wpAny (model prog w) A (eval elt env) (fun x s₃ =>
          wpAny (model prog w) A (call (.builtin "list.append") [acc, x]) (fun _ s₄ => ∃ m, m < n ∧ I m s₄) (notedBy (model prog w) A env fun e s' => R (.error e) s') s₃)
          (notedBy (model prog w) A env fun e s' => R (.error e) s') s₂) (notedBy (model prog w) A env fun e s' => R (.error e) s') s₁) (notedBy (model prog w) A env fun e s' => R (.error e) s') s)
    (n : Nat) (h : I n s) (ht : ∀ v, letOwnedTupleGo t2 it v = pure () := by intro _; rfl) :
    codeAny (model prog w) A (.compLoop (.ListComp elt [⟨t1, iter1, [], 0⟩, ⟨t2, iter2, [], 0⟩] scope pos) 1 it acc env) R s := by
  refine codeAny_loop rfl I (fun n s hI => ?_) n h
  show wpAny _ _ ((compTurn (.ListComp elt [⟨t1, iter1, [], 0⟩, ⟨t2, iter2, [], 0⟩] scope pos) 1 it acc env).onRaise (fun x => do noteFrame x env; theTreesLotGoes x)) _ _ s
  refine wpAny_noted ?_
  rw [turn2_1]
  refine wpAny_bind (wpAny_standAt (wpAny_bind (wpAny_mono (turn n s hI) (fun r s₁ h₁ => ?_) fun _ _ h' => h')))
  cases r with
  | none => exact wpAny_pure h₁
  | some v =>
    refine wpAny_bind (wpAny_of_eq (ht v) ?_)
    exact wpAny_bind (wpAny_mono h₁ (fun _ s₂ h₂ => wpAny_bind (wpAny_bind (wpAny_mono h₂ (fun x s₃ h₃ => wpAny_bind (wpAny_mono h₃
      (fun _ s₄ h₄ => wpAny_pure (wpAny_pure ⟨rfl, h₄⟩)) fun _ _ h' => h')) fun _ _ h' => h'))) fun _ _ h' => h')
theorem loop2_0 {elt t1 t2 iter1 iter2 : PySem.Expr} {scope : Scope} {pos : Pos} {it acc : Value} {env : Env} (I : Nat → Shared → Prop)
    (turn : ∀ n s, I n s → wpAny (model prog w) A (pyNext it) (fun r s₁ => match r with
      | none => R (.ok .next) s₁
      | some v => wpAny (model prog w) A (assign t1 env v) (fun _ s₂ => wpAny (model prog w) A (eval iter2 env) (fun x s₃ =>
          wpAny (model prog w) A (pyIter x) (fun i2 s₄ => codeAny (model prog w) (A.mark none) (.compStart (.ListComp elt [⟨t1, iter1, [], 0⟩, ⟨t2, iter2, [], 0⟩] scope pos) 1 i2 acc env)
            (fun r s₅ => match r with | .ok _ => ∃ m, m < n ∧ I m s₅ | .error e => cameBackBy (model prog w) A env (notedBy (model prog w) A env fun e s' => R (.error e) s') e s₅) s₄) (notedBy (model prog w) A env fun e s' => R (.error e) s') s₃)
          (notedBy (model prog w) A env fun e s' => R (.error e) s') s₂) (notedBy (model prog w) A env fun e s' => R (.error e) s') s₁) (notedBy (model prog w) A env fun e s' => R (.error e) s') s)
    (n : Nat) (h : I n s) (ht : ∀ v, letOwnedTupleGo t1 it v = pure () := by intro _; rfl) (hs : ∀ x, foldedSetIterable iter2 env x = pure x := by intro _; rfl) :
    codeAny (model prog w) A (.compLoop (.ListComp elt [⟨t1, iter1, [], 0⟩, ⟨t2, iter2, [], 0⟩] scope pos) 0 it acc env) R s := by
  refine codeAny_loop rfl I (fun n s hI => ?_) n h
  show wpAny _ _ ((compTurn (.ListComp elt [⟨t1, iter1, [], 0⟩, ⟨t2, iter2, [], 0⟩] scope pos) 0 it acc env).onRaise (fun x => do noteFrame x env; theTreesLotGoes x)) _ _ s
  refine wpAny_noted ?_
  rw [turn2_0]
  refine wpAny_bind (wpAny_standAt (wpAny_bind (wpAny_mono (turn n s hI) (fun r s₁ h₁ => ?_) fun _ _ h' => h')))
  cases r with
  | none => exact wpAny_pure h₁
  | some v =>
    refine wpAny_bind (wpAny_of_eq (ht v) ?_)
    refine wpAny_bind (wpAny_mono h₁ (fun _ s₂ h₂ => wpAny_bind (wpAny_mono h₂ (fun x s₃ h₃ => wpAny_bind (wpAny_standAt (wpAny_bind (wpAny_of_eq (hs x) (wpAny_bind (wpAny_holding (wpAny_mono h₃ (fun i2 s₄ h₄ => wpAny_bind (wpAny_runOwn (codeAny_mono h₄ fun r s₅ h₅ => ?_)))
       fun _ _ h' => h'))))))) fun _ _ h' => h')) fun _ _ h' => h')
    cases r with
    | ok f => exact wpAny_pure ⟨rfl, h₅⟩
    | error e => exact h₅
end
end

/- part MComp3 -/
section
open PySem PySem.W PyProof.Rows PySem.Calls
structure CS (h₀ : Heap) (L : Addr) (m : Str → Option Value) (news : List (Addr × Obj)) (C D : Addr) (h : Heap) (ys : List Value) (m₂ : Str → Option Value) : Prop where
  F : Fr h₀ L h m
  N : News h₀ L h news
  c : h.Ns C m₂
  d : h.PlainList D ys.toArray
structure COff (h₀ : Heap) (L : Addr) (news : List (Addr × Obj)) (X : Addr) : Prop where
  l : L ≠ X
  z : h₀.get? X = none
  n : ∀ p ∈ news, p.1 ≠ X
section
variable {h₀ h h' : Heap} {L C D X : Addr} {m m₂ m₃ : Str → Option Value} {news : List (Addr × Obj)} {ys : List Value} {y : Value}
theorem CS.but (x : CS h₀ L m news C D h ys m₂) (o : COff h₀ L news X) (hC : C ≠ X) (hD : D ≠ X) (hk : ∀ b o, b ≠ X → h.get? b = some o → h'.get? b = some o) : CS h₀ L m news C D h' ys m₂ :=
  ⟨⟨x.F.ns.at' fun q e => hk L q o.l e, fun b q e => hk b q (by rintro rfl; rw [o.z] at e; cases e) (x.F.keep b q e), x.F.above⟩, fun p hp => ⟨hk _ _ (o.n p hp) (x.N p hp).1, (x.N p hp).2⟩, x.c.at' (fun q e => hk C q hC e), x.d.at fun q e => hk D q hD e⟩
theorem CS.keeps (x : CS h₀ L m news C D h ys m₂) (hk : ∀ b o, h.get? b = some o → h'.get? b = some o) : CS h₀ L m news C D h' ys m₂ :=
  ⟨x.F.keeps hk, fun p hp => ⟨hk _ _ (x.N p hp).1, (x.N p hp).2⟩, x.c.keeps hk, x.d.at fun q e => hk D q e⟩
theorem CS.store (x : CS h₀ L m news C D h ys m₂) (o : COff h₀ L news C) (hD : D ≠ C) (hs : Heap.SameBut C h h') (hn : h'.Ns C m₃) : CS h₀ L m news C D h' ys m₃ :=
  ⟨⟨x.F.ns.at' fun q e => hs.extBut L q o.l e, fun b q e => hs.extBut b q (by rintro rfl; rw [o.z] at e; cases e) (x.F.keep b q e), x.F.above⟩, fun p hp => ⟨hs.extBut _ _ (o.n p hp) (x.N p hp).1, (x.N p hp).2⟩, hn, x.d.at fun q e => hs.extBut D q hD e⟩
theorem CS.app (x : CS h₀ L m news C D h ys m₂) (o : COff h₀ L news D) (hC : C ≠ D) (hs : Heap.SameBut D h h') (hd : h'.PlainList D (ys.toArray.push y)) : CS h₀ L m news C D h' (ys ++ [y]) m₂ :=
  ⟨⟨x.F.ns.at' fun q e => hs.extBut L q o.l e, fun b q e => hs.extBut b q (by rintro rfl; rw [o.z] at e; cases e) (x.F.keep b q e), x.F.above⟩, fun p hp => ⟨hs.extBut _ _ (o.n p hp) (x.N p hp).1, (x.N p hp).2⟩, x.c.at' (fun q e => hs.extBut C q hC e), by rw [List.push_toArray] at hd; exact hd⟩
end
section
variable {prog : Program} {w : World} {A : Around} {E : Value → Shared → Prop} {s : Shared} {h₀ : Heap} {L : Addr} {m : Str → Option Value} {env : Env} {news : List (Addr × Obj)}
  {elt iter1 iter2 : PySem.Expr} {x1 x2 : Str} {p1 p2 : Pos} {scope : Scope} {pos : Pos} {x : Str} {f : Nat → List Int}
theorem comp2_in {R : Result → Shared → Prop} {C D I1 I2 : Addr} {c : Nat} {u : Tok} {pre : List Int} {ys : List Value} {m₂ : Str → Option Value}
    (hh : A.handled = none) (hkind : scope.kind = .function) (hx2 : scope.names.lookup x2 = some .local) (h12 : x1 ≠ x2) (hf8 : (f c).length = 8) (hpre : pre.length ≤ 100000)
    (helt : ∀ oC m₂ h tk (j : Nat) t E', j < 8 → LCg.NsObj oC m₂ → m₂ x1 = some (.str ⟨#[c]⟩ u) → m₂ x2 = some (.int (j : Int) t) → Fr h₀ L h m → News h₀ L h ((C, oC) :: news) →
      wpAny (model prog w) A (eval elt (compEnvC scope [] C env)) (fun y s' => ∃ t' h' tk', y = .int ((f c).getD j 0) t' ∧ s' = { s with heap := h', toks := tk' } ∧ ∀ b o, h.get? b = some o → h'.get? b = some o) E' { s with heap := h, toks := tk })
    (oC : COff h₀ L news C) (oD : COff h₀ L news D) (oI : COff h₀ L news I2) (hCD : C ≠ D) (hC2 : C ≠ I2) (hD2 : D ≠ I2) (h1C : I1 ≠ C) (h1D : I1 ≠ D) (h12' : I1 ≠ I2)
    (hI : IsRangeIter s.heap I2 0 8 1) (cs : CS h₀ L m news C D s.heap ys m₂) (hm1 : m₂ x1 = some (.str ⟨#[c]⟩ u)) (hi : IntsAre ys pre)
    (hR : ∀ h' tk ys' m', CS h₀ L m news C D h' ys' m' → (∀ o, s.heap.get? I1 = some o → h'.get? I1 = some o) → IntsAre ys' (pre ++ f c) → R (.ok .next) { s with heap := h', toks := tk }) :
    codeAny (model prog w) A (.compLoop (.ListComp elt [⟨.Name x1 p1, iter1, [], 0⟩, ⟨.Name x2 p2, iter2, [], 0⟩] scope pos) 1 (.ref I2) (.ref D) (compEnvC scope [] C env)) R s := by
  have W := Walks.range (prog := prog) (w := w) hh I2 0 1 8
  refine loop2_1 (fun k s' => ∃ h' tk j ys' m', s' = { s with heap := h', toks := tk } ∧ j ≤ 8 ∧ k = 9 - j ∧ IsRangeIter h' I2 (0 + (j : Nat) * 1) (((8 : Nat) : Int) - (j : Nat)) 1 ∧ CS h₀ L m news C D h' ys' m' ∧ m' x1 = some (.str ⟨#[c]⟩ u) ∧ (∀ o, s.heap.get? I1 = some o → h'.get? I1 = some o) ∧ IntsAre ys' (pre ++ (f c).take j)) ?_ 9
    ⟨s.heap, s.toks, 0, ys, m₂, rfl, by omega, rfl, by simpa using hI, cs, hm1, fun _ e => e, by simpa using hi⟩
  rintro k s' ⟨h', tk, j, ys', m', rfl, hj, rfl, hst, cs', hm', h1, hi'⟩
  by_cases hlt : j < 8
  · refine W.item j _ _ _ hlt hst fun v h₁ tk₁ hv hst₁ hk₁ => ?_
    obtain ⟨t, rfl⟩ := hv
    have cs₁ := cs'.but oI hC2 hD2 (fun b o hb e => hk₁ b o (by simpa using hb) e)
    have k1 : ∀ o, s.heap.get? I1 = some o → h₁.get? I1 = some o := fun o e => hk₁ _ _ (by simpa using h12') (h1 o e)
    refine wpAny_assign_Name (wpAny_storeName_local (lookup_relabel_local hx2) cs₁.c (fun h₂ hn₂ hs₂ => ?_) (by simp [compEnvC, relabel, hkind]))
    have cs₂ := cs₁.store oC (Ne.symm hCD) hs₂ hn₂
    have k2 : ∀ o, s.heap.get? I1 = some o → h₂.get? I1 = some o := fun o e => hs₂.extBut _ _ h1C (k1 o e)
    have st2 : IsRangeIter h₂ I2 (0 + ((j + 1 : Nat) : Int) * 1) (((8 : Nat) : Int) - ((j + 1 : Nat) : Int)) 1 := W.frame (j + 1) _ _ hst₁ fun b hb o e => hs₂.extBut b o (by rw [List.mem_singleton.mp hb]; exact Ne.symm hC2) e
    obtain ⟨oc, ec, nc⟩ := LCg.ns_obj hn₂
    refine wpAny_mono (helt oc _ h₂ _ j t _ hlt nc (by show (if x1 = x2 then _ else m' x1) = _; rw [if_neg h12]; exact hm') (by show (if x2 = x2 then _ else _) = _; rw [if_pos rfl]; simp) cs₂.F (fun p hp => ?_)) (fun y s₃ q => ?_) fun _ _ e => e
    · rcases List.mem_cons.mp hp with rfl | hp
      · exact ⟨ec, Ne.symm oC.l, oC.z⟩
      · exact cs₂.N p hp
    · obtain ⟨t', h₃, tk₃, rfl, rfl, hk₃⟩ := q
      have cs₃ := cs₂.keeps hk₃
      have hl := hi'.length
      rw [List.length_append, List.length_take] at hl
      refine wpAny_list_append_plain (hsz := by rw [List.size_toArray, sizeLine_eq]; omega) cs₃.d fun h₄ hl₄ hs₄ => ?_
      refine ⟨9 - (j + 1), by omega, h₄, tk₃, j + 1, ys' ++ [_], _, rfl, hlt, rfl, ?_, cs₃.app oD hCD hs₄ hl₄, ?_, fun o e => hs₄.extBut _ _ h1D (hk₃ _ _ (k2 o e)), ?_⟩
      · exact W.frame (j + 1) _ _ st2 fun b hb o e => hs₄.extBut b o (by rw [List.mem_singleton.mp hb]; exact Ne.symm hD2) (hk₃ b o e)
      · show (if x1 = x2 then _ else m' x1) = _
        rw [if_neg h12]; exact hm'
      · rw [take_snoc _ 0 (by omega), ← List.append_assoc]
        exact ksk_snoc hi'
  · have h8 : j = 8 := by omega
    subst h8
    refine W.done _ _ _ hst fun h₁ tk₁ hk₁ => ?_
    exact hR h₁ tk₁ ys' m' (cs'.but oI hC2 hD2 (fun b o hb e => hk₁ b o (by simpa using hb) e)) (fun o e => hk₁ _ _ (by simpa using h12') (h1 o e)) (by rw [List.take_of_length_le (by omega)] at hi'; exact hi')
theorem comp2_str {Q : Value → Shared → Prop} (_F : Fr h₀ L s.heap m) (_N : News h₀ L s.heap news)
    (hh : A.handled = none) (hclos : closureFor scope env = pure []) (hcell : ∀ y ∈ scope.names, y.2 ≠ .cell) (hkind : scope.kind = .function)
    (hnames : ∀ y ∈ scope.names, y.2 = .local → scope.names.lookup y.1 = some .local) (hx1 : scope.names.lookup x1 = some .local) (hx2 : scope.names.lookup x2 = some .local) (h12 : x1 ≠ x2) (hf8 : ∀ c, (f c).length = 8) (hsz : x.length ≤ 1000)
    (hev : wpAny (model prog w) A (eval iter1 env) (fun xv s₁ => ∃ t h' tk, xv = .str x t ∧ s₁ = { s with heap := h', toks := tk } ∧ Fr h₀ L h' m ∧ News h₀ L h' news) E s)
    (hrange : ∀ C oC m₂ h tk E', LCg.NsObj oC m₂ → Fr h₀ L h m → News h₀ L h ((C, oC) :: news) → wpAny (model prog w) A (eval iter2 (compEnvC scope [] C env))
      (fun v s' => ∃ r t u w' h' tk', v = .ref r ∧ s' = { s with heap := h', toks := tk' } ∧ IsRange h' r 0 8 1 t u w' ∧ ∀ b o, h.get? b = some o → h'.get? b = some o) E' { s with heap := h, toks := tk })
    (helt : ∀ C oC m₂ h tk (c j : Nat) u t E', c ∈ x.cps → j < 8 → LCg.NsObj oC m₂ → m₂ x1 = some (.str ⟨#[c]⟩ u) → m₂ x2 = some (.int (j : Int) t) → Fr h₀ L h m → News h₀ L h ((C, oC) :: news) →
      wpAny (model prog w) A (eval elt (compEnvC scope [] C env)) (fun y s' => ∃ t' h' tk', y = .int ((f c).getD j 0) t' ∧ s' = { s with heap := h', toks := tk' } ∧ ∀ b o, h.get? b = some o → h'.get? b = some o) E' { s with heap := h, toks := tk })
    (hQ : ∀ D ys n h' tk, Fr h₀ L h' m → News h₀ L h' ((D, W.listOf ys.toArray n) :: news) → (∀ p ∈ news, p.1 ≠ D) → IntsAre ys (x.cps.toList.flatMap f) → Q (.ref D) { s with heap := h', toks := tk })
    (hs : ∀ x, foldedSetIterable iter1 env x = pure x := by intro _; rfl) (hs2 : ∀ C x, foldedSetIterable iter2 (compEnvC scope [] C env) x = pure x := by intro _ _; rfl) :
    wpAny (model prog w) A (eval (.ListComp elt [⟨.Name x1 p1, iter1, [], 0⟩, ⟨.Name x2 p2, iter2, [], 0⟩] scope pos) env) Q E s := by
  rw [eval_ListComp]
  refine wpAny_comprehension_free (use := none) rfl hs hclos hkind hnames (wpAny_mono hev (fun xv s₁ h₁ => ?_) fun _ _ e => e)
  obtain ⟨t, hp, tk0, rfl, rfl, F, N⟩ := h₁
  refine wpAny_pyIter_str fun oI St WW hst0 => ?_
  have W := WW A hh
  dsimp only at W hst0 ⊢
  generalize hI1 : hp.objs.size = I1 at *
  generalize hH1 : hp.push oI = H1 at *
  have hz1 : H1.objs.size = I1 + 1 := by rw [← hH1, Heap.size_push, hI1]
  have F1 : Fr h₀ L H1 m := hH1 ▸ F.push _
  have N1 : News h₀ L H1 news := fun p hp => ⟨hH1 ▸ Heap.get?_push_of_some _ (N p hp).1, (N p hp).2⟩
  refine wpAny_newObj_type (wpAny_newFunctionEnv hcell (by intro y hy; simp at hy) (fun h₁ hns₁ hsb₁ => ?_) hkind)
  dsimp only at hns₁ hsb₁ ⊢
  generalize hD : H1.objs.size = D at *
  generalize hH2 : H1.push { cls := .type "list", dict := none, data := .seq ([] : List Value).toArray } = H2 at hns₁ hsb₁ ⊢
  have hz2 : H2.objs.size = D + 1 := by rw [← hH2, Heap.size_push, hD]
  generalize hC : H2.objs.size = C at *
  have hL1 : L < I1 := by have := F.ns.lt; rw [hI1] at this; exact this
  have fresh : ∀ a, I1 ≤ a → h₀.get? a = none := fun a ha => by
    cases e : h₀.get? a with
    | none => rfl
    | some o' => have := Heap.lt_size (F.keep a o' e); rw [hI1] at this; exact absurd this (Nat.not_lt.mpr ha)
  have offN : ∀ a, I1 ≤ a → ∀ p ∈ news, p.1 ≠ a := fun a ha p hp e => by
    have := Heap.lt_size (N p hp).1; rw [hI1, e] at this; exact absurd this (Nat.not_lt.mpr ha)
  have lI1 : L < I1 := hL1
  have eD : D = I1 + 1 := hz1
  have eC : C = I1 + 1 + 1 := by rw [hz2, eD]
  have off : ∀ a, I1 ≤ a → COff h₀ L news a := fun a ha => ⟨fun e => absurd (Nat.lt_of_lt_of_le lI1 ha) (e ▸ Nat.lt_irrefl _), fresh a ha, offN a ha⟩
  have hCD : C ≠ D := by rw [eC, eD]; exact Nat.succ_ne_self _
  have h1D : I1 ≠ D := by rw [eD]; exact Ne.symm (Nat.succ_ne_self _)
  have h1C : I1 ≠ C := by rw [eC]; exact Nat.ne_of_lt (by omega)
  have old : ∀ b o, H1.get? b = some o → h₁.get? b = some o := fun b o e => by
    have hb := Heap.lt_size e
    rw [hD] at hb
    exact hsb₁.extBut b o (by rw [eC, ← eD]; exact Nat.ne_of_lt (Nat.lt_succ_of_lt hb)) (Heap.get?_push_of_some _ (hH2 ▸ Heap.get?_push_of_some _ e))
  have hacc : h₁.PlainList D #[] := ⟨_, hsb₁.extBut _ _ (Ne.symm hCD) (Heap.get?_push_of_some _ (hH2 ▸ hD ▸ Heap.get?_push_size _ rfl))⟩
  have hst1 : St 0 h₁ := W.frame _ _ _ hst0 fun b _ o e => old b o e
  have cs0 : CS h₀ L m news C D h₁ [] _ := ⟨F1.keeps old, fun p hp => ⟨old _ _ (N1 p hp).1, (N1 p hp).2⟩, hns₁, hacc⟩
  have loop : ∀ s₃ : Shared, s₃ = { s with heap := h₁, toks := tk0 } →
      codeAny (model prog w) A (.compLoop (.ListComp elt [⟨.Name x1 p1, iter1, [], 0⟩, ⟨.Name x2 p2, iter2, [], 0⟩] scope pos) 0 (.ref I1) (.ref D) (compEnvC scope [] C env)) (compPost (model prog w) A E none Q (.ref D) C) s₃ := by
    rintro s₃ rfl
    refine loop2_0 (fun k s' => ∃ h' tk i ys' m', s' = { s with heap := h', toks := tk } ∧ i ≤ x.cps.size ∧ k = x.cps.size + 1 - i ∧ St i h' ∧ CS h₀ L m news C D h' ys' m' ∧ IntsAre ys' ((x.cps.toList.take i).flatMap f)) ?_ (x.cps.size + 1)
      ⟨h₁, tk0, 0, [], _, rfl, Nat.zero_le _, rfl, hst1, cs0, .nil⟩ (fun v => rfl) (hs2 C)
    rintro k s' ⟨h', tk, i, ys', m', rfl, hi, rfl, hst, cs', hI⟩
    by_cases hlt : i < x.cps.size
    · refine W.item i _ _ _ hlt hst fun v h₂ tk₂ hv hst₂ hk₂ => ?_
      obtain ⟨c, u, hc, rfl⟩ := hv
      have cs₂ := cs'.but (off I1 (Nat.le_refl _)) (Ne.symm h1C) (Ne.symm h1D) (fun b o hb e => hk₂ b o (by simpa using hb) e)
      refine wpAny_assign_Name (wpAny_storeName_local (lookup_relabel_local hx1) cs₂.c (fun h₃ hn₃ hs₃ => ?_) (by simp [compEnvC, relabel, hkind]))
      have cs₃ := cs₂.store (off C (by omega)) (Ne.symm hCD) hs₃ hn₃
      have hst₃ : St (i + 1) h₃ := W.frame _ _ _ hst₂ fun b hb o e => hs₃.extBut b o (by rw [List.mem_singleton.mp hb]; exact h1C) e
      obtain ⟨oc, ec, nc⟩ := LCg.ns_obj hn₃
      refine wpAny_mono (hrange C oc _ h₃ _ _ nc cs₃.F (fun p hp => ?_)) (fun v s₄ q => ?_) fun _ _ e => e
      · rcases List.mem_cons.mp hp with rfl | hp
        · exact ⟨ec, Ne.symm (off C (by omega)).l, (off C (by omega)).z⟩
        · exact cs₃.N p hp
      · obtain ⟨r, t1, u1, w1, h₄, tk₄, rfl, rfl, hR, hk₄⟩ := q
        have cs₄ := cs₃.keeps hk₄
        have hst₄ : St (i + 1) h₄ := W.frame _ _ _ hst₃ fun b _ o e => hk₄ b o e
        refine wpAny_pyIter_range hR (by decide +kernel) ?_
        dsimp only
        generalize hI2 : h₄.objs.size = I2
        have hI0 : IsRangeIter (h₄.push { cls := .type "range_iterator", data := .fields #[rawInt 0, rawInt (Builtin.Range.rangeSize 0 8 1), rawInt 1] }) I2 0 8 1 := by
          subst hI2
          exact Heap.get?_push_size _ rfl
        generalize hH5 : h₄.push { cls := .type "range_iterator", data := .fields #[rawInt 0, rawInt (Builtin.Range.rangeSize 0 8 1), rawInt 1] } = H5 at *
        have hk₅ : ∀ b o, h₄.get? b = some o → H5.get? b = some o := fun b o e => hH5 ▸ Heap.get?_push_of_some _ e
        have cs₅ := cs₄.keeps hk₅
        have hst₅ : St (i + 1) H5 := W.frame _ _ _ hst₄ fun b _ o e => hk₅ b o e
        have bC : C < I2 := by
          obtain ⟨o, e, _⟩ := LCg.ns_obj cs₄.c
          exact hI2 ▸ Heap.lt_size e
        have bD : D < I2 := by
          obtain ⟨o, e⟩ := cs₄.d
          exact hI2 ▸ Heap.lt_size e
        have b1 : I1 < I2 := by rw [eD] at bD; exact Nat.lt_of_succ_lt bD
        rw [Around.mark_none]
        have hcm : c ∈ x.cps := Array.mem_of_getElem? hc
        have hlI := hI.length
        have hfl : ∀ l : List Nat, (l.flatMap f).length = 8 * l.length := by
          intro l
          induction l with
          | nil => rfl
          | cons a l ih => rw [List.flatMap_cons, List.length_append, hf8, ih, List.length_cons]; omega
        have inner : codeAny (model prog w) A (.compLoop (.ListComp elt [⟨.Name x1 p1, iter1, [], 0⟩, ⟨.Name x2 p2, iter2, [], 0⟩] scope pos) 1 (.ref I2) (.ref D) (compEnvC scope [] C env))
            (fun r s₅ => match r with | .ok _ => ∃ m_1, m_1 < x.cps.size + 1 - i ∧ ∃ h' tk i ys' m', s₅ = { s with heap := h', toks := tk } ∧ i ≤ x.cps.size ∧ m_1 = x.cps.size + 1 - i ∧ St i h' ∧ CS h₀ L m news C D h' ys' m' ∧ IntsAre ys' ((x.cps.toList.take i).flatMap f) | .error e => cameBackBy (model prog w) A (compEnvC scope [] C env) (notedBy (model prog w) A (compEnvC scope [] C env) fun e s' => compPost (model prog w) A E none Q (.ref D) C (.error e) s') e s₅)
            { s with heap := H5, toks := tk₄ } := by
          refine comp2_in (I1 := I1) (c := c) (u := u) (f := f) (pre := (x.cps.toList.take i).flatMap f) hh hkind hx2 h12 (hf8 c) (by rw [hfl, List.length_take]; have : x.cps.size ≤ 1000 := hsz; omega) (fun oc m₂ h tk j t E' hj a b d e g => helt C oc m₂ h tk c j u t E' hcm hj a b d e g)
            (off C (by omega)) (off D (by omega)) (off I2 (Nat.le_of_lt b1)) hCD (Nat.ne_of_lt bC) (Nat.ne_of_lt bD) h1C h1D (Nat.ne_of_lt b1) hI0 cs₅ (by show (if x1 = x1 then _ else _) = _; rw [if_pos rfl]) hI ?_
          intro h₆ tk₆ ys₆ m₆ cs₆ k6 hi₆
          refine ⟨x.cps.size + 1 - (i + 1), by omega, h₆, tk₆, i + 1, ys₆, m₆, rfl, hlt, rfl, ?_, cs₆, ?_⟩
          · exact W.frame _ _ _ hst₅ fun b hb o e => by rw [List.mem_singleton.mp hb] at e ⊢; exact k6 o e
          · have ht : x.cps.toList.take (i + 1) = x.cps.toList.take i ++ [c] := by
              rw [List.take_add_one, Array.getElem?_toList, hc]; rfl
            rw [ht, List.flatMap_append, List.flatMap_singleton]
            exact hi₆
        exact start2_1 inner ((Walks.range (prog := prog) (w := w) hh I2 0 1 8).self 0 _ _ _ (by simpa using hI0) inner)
    · have hin : i = x.cps.size := by omega
      subst hin
      refine W.done _ _ _ hst fun h₂ tk₂ hk₂ => ?_
      have cs₂ := cs'.but (off I1 (Nat.le_refl _)) (Ne.symm h1C) (Ne.symm h1D) (fun b o hb e => hk₂ b o (by simpa using hb) e)
      refine ⟨m', cs₂.c, fun h₃ hs₃ => ?_⟩
      obtain ⟨n, ed⟩ := cs₂.d
      have oC := off C (by omega)
      have oD := off D (by omega)
      refine hQ D ys' n h₃ tk₂ ⟨cs₂.F.ns.at' fun q e => hs₃.extBut L q oC.l e, fun b q e => hs₃.extBut b q (by rintro rfl; rw [oC.z] at e; cases e) (cs₂.F.keep b q e), cs₂.F.above⟩ (fun p hp => ?_) oD.n (by rw [List.take_of_length_le (by simp)] at hI; exact hI)
      rcases List.mem_cons.mp hp with rfl | hp
      · exact ⟨hs₃.extBut _ _ (Ne.symm hCD) ed, Ne.symm oD.l, oD.z⟩
      · exact ⟨hs₃.extBut _ _ (oC.n p hp) (cs₂.N p hp).1, (cs₂.N p hp).2⟩
  exact codeAny_compStart_list (loop _ rfl) (W.self 0 _ _ _ hst1 (loop _ rfl))
end
end
local macro_rules | `(tactic| k_room) => `(tactic| ((try simp only [depth_under_make, depth_under_kw, depth_in1, depth_deeper, depth_caller, recursionLimit]); omega))
local macro_rules | `(tactic| k_lt $h) => `(tactic| ((try (rename Top9 _ _ _ => h9; clear h9)); (rename ND _ _ => hN9); replace $h := top9_of $h hN9 rfl; replace hN9 := nd_pushT $h hN9))
local macro_rules | `(tactic| k_lt2 $h) => `(tactic| ((rename Top9 _ _ _ => hT9); (rename ND _ _ => hN9); replace hN9 := nd_push2 hT9 hN9 $h; clear hT9 $h))
local macro_rules | `(tactic| k_upd) => `(tactic| first | exact UpdK.head | (refine' UpdK.tail ?b; (case b => k_upd)) | (refine' UpdK.use ?n ?e ?k; (case n => with_reducible assumption); (case e => exact rfl); (case k => k_upd)) | fail "no word that the addresses are apart")
local macro_rules | `(tactic| k_updF) => `(tactic| first | exact UpdFK.head | (refine' UpdFK.tail ?b; (case b => k_updF)) | (refine' UpdFK.use ?n ?e ?k; (case n => with_reducible assumption); (case e => exact rfl); (case k => k_updF)) | fail "no word that the addresses are apart")
local macro_rules | `(tactic| k_ne) => `(tactic| ((try dsimp only); first | (with_reducible assumption) | exact Ne.symm (by with_reducible assumption) | (refine nd_ne (by with_reducible assumption) ?_; (repeat (first | (refine PairIn.h1 ?_; k_memK) | (refine PairIn.h2 ?_; k_memK) | refine PairIn.tl ?_)); done) | fail "no word that the two are apart"))

/- part G1 -/
section
open PySem PySem.W PyProof.Rows PySem.Calls
def gStep (c : Int) : Int := if Builtin.bitAnd c 1 = 0 then c.fdiv 2 else Builtin.bitXor (c.fdiv 2) 3988292384
def gRun (c : Int) : Nat → Int
  | 0 => c
  | n + 1 => gStep (gRun c n)
theorem gen_crc_spec {n : Nat} {w : World} {A : Around} {s : Shared}
    {mean : ExcName → Option Value} {mg mb : Str → Option Value} {R : Result → Shared → Prop}
    {c : Int} {t : Tok} (S : Std n w mean mg mb A s) (hn : n ≤ 9)
    (k : ∀ t' h' tk, (∀ b o, s.heap.get? b = some o → h'.get? b = some o) → R (.ok (.ret (.int (gRun c 8) t'))) { s with heap := h', toks := tk }) :
    codeAny (model PySem.Challenge.rw_mr0023_01.row.prog w) A (.call (.ref 21) ⟨[.int c t], []⟩) R s := by
  obtain ⟨A₀, base, outer, h₀, L, m, env, d, u, gs, rfl, hd, hu, B, F, X, T, hf, hke⟩ := S
  revert X; k_fill; intro X
  refine call_keep B F X T rfl hf hke (by k_is) (by k_is) (by k_room) (BindsTo.of_eq (binds := [(Str.ofString "crc", .int c t)]) rfl) (locs rfl) ?_
  clear B F X T
  intro L' h' F' N' B' X' T'
  try dsimp only
  k_fold
  k_with_none
  k_with "exec For Name Call cons nil" => kpr_for
  k_with "pyIter ref" => refine Stp.go ?_
  k_steps
  refine Stp.in ?_
  refine kst_range (n := 8) (σ := Int × Tok) (fun _ => []) (fun c => [(Str.ofString "crc", .int c.1 c.2)]) (fun _ => True) [] (fun pre c' => c'.1 = gRun c pre.length) (c, t) rfl (by assumption) (by decide) (by rfl) (by assumption) (by assumption) trivial (by kst_all) rfl ?_ ?_
  · intro c' pre k t u h tk own hk hlt hoff _ hp F1 N1
    k_steps
    · refine kst_end (_, _) (by assumption) (by assumption) (fun p hp => nomatch hp) (fun p hp => hp) rfl trivial (by kst_all) (by intro z h1 h2 h3; simp_all [kstB]) ?_
      rename Builtin.bitAnd _ _ ≠ 0 => hb
      show Builtin.bitXor _ _ = gRun c (pre ++ [k]).length
      rw [List.length_append]
      show _ = gStep (gRun c pre.length)
      rw [← hp, gStep, if_neg hb]; rfl
    · refine kst_end (_, _) (by assumption) (by assumption) (fun p hp => nomatch hp) (fun p hp => hp) rfl trivial (by kst_all) (by intro z h1 h2 h3; simp_all [kstB]) ?_
      rename Builtin.bitAnd _ _ = 0 => hb
      show _ = gRun c (pre ++ [k]).length
      rw [List.length_append]
      show _ = gStep (gRun c pre.length)
      rw [← hp, gStep, if_pos hb]; rfl
  · intro c' u h tk _ hp F1 N1
    k_steps
    rw [rangeKs_length] at hp
    show R (.ok (.ret (.int c'.1 c'.2))) _
    rw [hp]
    exact k _ _ _ F1.keep
end

/- part G2 -/
section
open PySem PySem.W PyProof.Rows PySem.Calls
theorem law_rest_spec {n : Nat} {w : World} {A : Around} {s : Shared}
    {mean : ExcName → Option Value} {mg mb : Str → Option Value} {R : Result → Shared → Prop}
    {l : Addr} {vs : List Value} {ns : List Int} {r : Int} {t : Tok} (S : Std n w mean mg mb A s) (hn : n ≤ 9)
    (hl : s.heap.IsList l vs.toArray) (hi : IntsAre vs ns) (hb : ∀ b ∈ ns, 0 ≤ b ∧ b ≤ 1) (hr : 0 ≤ r ∧ r < 4294967296)
    (k : ∀ t' h' tk, (∀ b o, s.heap.get? b = some o → h'.get? b = some o) → R (.ok (.ret (.int (ns.foldl rStep r) t'))) { s with heap := h', toks := tk }) :
    codeAny (model PySem.Challenge.rw_mr0023_01.row.prog w) A (.call (.ref 117) ⟨[.ref l, .int r t], []⟩) R s := by
  obtain ⟨A₀, base, outer, h₀, L, m, env, d, u, gs, rfl, hd, hu, B, F, X, T, hf, hke⟩ := S
  revert X; k_fill; intro X
  refine call_keep B F X T rfl hf hke (by k_is) (by k_is) (by k_room) (BindsTo.of_eq (binds := [(Str.ofString "bits", .ref l), (Str.ofString "rest", .int r t)]) rfl) (locs rfl) ?_
  clear B F X T
  intro L' h' F' N' B' X' T'
  try dsimp only
  k_fold
  k_with_none
  k_with "pyIter ref" => refine Stp.go ?_
  k_steps
  refine Stp.in ?_
  refine kst_list (σ := Int × Tok) (fun _ => []) (fun c => [(Str.ofString "rest", .int c.1 c.2)]) (fun _ => True) [Str.ofString "lead"] (fun pre c' => c'.1 = pre.foldl rStep r ∧ 0 ≤ c'.1 ∧ c'.1 < 4294967296) (r, t) rfl (by assumption) (by assumption) (by assumption) (by assumption) trivial (by kst_all) ⟨rfl, hr⟩ ?_ ?_
  · intro c' pre post b t u h tk own hk hlt hoff _ hp F1 N1
    obtain ⟨hp1, hp2⟩ := hp
    have hb' := hb b hlt
    k_steps
    refine kst_end (_, _) (by assumption) (by assumption) (fun p hp => nomatch hp) (fun p hp => hp) rfl trivial (by kst_all) (by intro z h1 h2 h3; simp_all [kstB]) ?_
    refine ⟨?_, ?_⟩
    · rw [List.foldl_append, ← hp1]; rfl
    · exact rStep_range hp2 hb'
  · intro c' u h tk _ hp F1 N1
    k_steps
    show R (.ok (.ret (.int c'.1 c'.2))) _
    rw [hp.1]
    exact k _ _ _ F1.keep
end

/- part G3 -/
section
open PySem PySem.W PyProof.Rows PySem.Calls
/-- what _comment_line gives back -/
def commentS (x : Str) : Str := if (Txt.rstrip x).length = 0 then Str.ofString "#" else Str.ofString "# " ++ Txt.rstrip x
theorem comment_line_spec {n : Nat} {w : World} {A : Around} {s : Shared}
    {mean : ExcName → Option Value} {mg mb : Str → Option Value} {R : Result → Shared → Prop}
    {x : Str} {t : Tok} (S : Std n w mean mg mb A s) (hn : n ≤ 9)
    (hx : x.length ≤ 1000)
    (k : ∀ t' h' tk, (∀ b o, s.heap.get? b = some o → h'.get? b = some o) → R (.ok (.ret (.str (commentS x) t'))) { s with heap := h', toks := tk }) :
    codeAny (model PySem.Challenge.rw_mr0023_01.row.prog w) A (.call (.ref 77) ⟨[.str x t], []⟩) R s := by
  obtain ⟨A₀, base, outer, h₀, L, m, env, d, u, gs, rfl, hd, hu, B, F, X, T, hf, hke⟩ := S
  revert X; k_fill; intro X
  refine call_keep B F X T rfl hf hke (by k_is) (by k_is) (by k_room) (BindsTo.of_eq (binds := [(Str.ofString "line", .str x t)]) rfl) (locs rfl) ?_
  clear B F X T
  intro L' h' F' N' B' X' T'
  try dsimp only
  k_fold
  k_with_none
  k_with "pyIter ref" => refine Stp.go ?_
  k_steps
  · rename ((Txt.rstrip x).length : Int) ≠ 0 => hz
    show R (.ok (.ret (.str (Str.ofString "# " ++ Txt.rstrip x) _))) _
    rw [show Str.ofString "# " ++ Txt.rstrip x = commentS x from by rw [commentS, if_neg (by omega)]]
    rename Fr _ _ _ _ => F1
    exact k _ _ _ F1.keep
  · rename ((Txt.rstrip x).length : Int) = 0 => hz
    show R (.ok (.ret (.str (Str.ofString "#") _))) _
    rw [show Str.ofString "#" = commentS x from by rw [commentS, if_pos (by omega)]]
    rename Fr _ _ _ _ => F1
    exact k _ _ _ F1.keep
end

/- part G5 -/
section
open PySem PySem.W PyProof.Rows PySem.Calls
/-- signs of one octet, none a line end -/
def Oct (y : Str) : Prop := ∀ c ∈ y.cps, c < 256 ∧ c ≠ 10
theorem mem_one {q : Addr × Obj} {l : List (Addr × Obj)} (h : q ∈ l) : ∀ p ∈ [q], p ∈ l := fun p hp => by rw [List.mem_singleton] at hp; subst hp; exact h
theorem Oct.append {a b : Str} (ha : Oct a) (hb : Oct b) : Oct (a ++ b) := by
  intro c hc
  rw [show (a ++ b).cps = a.cps ++ b.cps from rfl] at hc
  rcases Array.mem_append.mp hc with h | h
  · exact ha c h
  · exact hb c h
theorem Oct.one {n : Nat} (h : n < 256 ∧ n ≠ 10) : Oct ⟨#[n]⟩ := by
  intro c hc
  simp at hc
  subst hc; exact h
theorem Oct.empty : Oct (Str.ofString "") := by unfold Oct; decide +kernel
theorem oct_menu {k : Int} (h0 : 0 ≤ k) (h1 : k < 5) : Oct (Txt.item (Str.ofString " #\ta ") k) := by
  have : k = 0 ∨ k = 1 ∨ k = 2 ∨ k = 3 ∨ k = 4 := by omega
  rcases this with rfl | rfl | rfl | rfl | rfl <;> (unfold Oct; decide +kernel)
theorem len_app (a b : Str) : (a ++ b).length = a.length + b.length := by
  show (a.cps ++ b.cps).size = _
  rw [Array.size_append]; rfl
theorem fmod8 (x : Int) : 0 ≤ x.fmod 8 ∧ x.fmod 8 < 8 := ⟨Int.fmod_nonneg_of_pos _ (by decide), Int.fmod_lt_of_pos _ (by decide)⟩
theorem fmod255 (x : Int) : 0 ≤ x.fmod 255 ∧ x.fmod 255 < 255 := ⟨Int.fmod_nonneg_of_pos _ (by decide), Int.fmod_lt_of_pos _ (by decide)⟩
theorem law_lines_spec {n : Nat} {w : World} {A : Around} {s : Shared}
    {mean : ExcName → Option Value} {mg mb : Str → Option Value} {R : Result → Shared → Prop}
    {l : Addr} {vs : List Value} {ns : List Int} (S : Std n w mean mg mb A s) (hn : n ≤ 9)
    (hl : s.heap.IsList l vs.toArray) (hi : IntsAre vs ns) (hlen : ns.length ≤ 16)
    (k : ∀ a us ys e h' tk, (∀ b o, s.heap.get? b = some o → h'.get? b = some o) → s.heap.get? a = none → h'.get? a = some (W.listOf us.toArray e) → StrsAre us ys → ys.length ≤ 5 → 1 ≤ ys.length →
      (∀ y ∈ ys, y.length ≤ 20 ∧ Oct y) → R (.ok (.ret (.ref a))) { s with heap := h', toks := tk }) :
    codeAny (model PySem.Challenge.rw_mr0023_01.row.prog w) A (.call (.ref 84) ⟨[.ref l], []⟩) R s := by
  obtain ⟨A₀, base, outer, h₀, L, m, env, d, u, gs, rfl, hd, hu, B, F, X, T, hf, hke⟩ := S
  revert X; k_fill; intro X
  refine call_keep B F X T rfl hf hke (by k_is) (by k_is) (by k_room) (BindsTo.of_eq (binds := [(Str.ofString "numbers", .ref l)]) rfl) (locs rfl) ?_
  clear B F X T
  intro L' h' F' N' B' X' T'
  try dsimp only
  k_fold
  k_with_none
  k_with "pyIter ref" => refine Stp.go ?_
  k_steps
  rename_i tk0 l' h1 l1 h2 F0 N0
  refine Stp.in ?_
  k_with_none
  refine kst_list (σ := List Value × List Str × Str × Tok × Nat) (fun c => [(l', W.listOf (c.1 ++ [Value.str c.2.2.1 c.2.2.2.1]).toArray c.2.2.2.2)]) (fun _ => []) (fun c => StrsAre c.1 c.2.1) [Str.ofString "kind", Str.ofString "rest", Str.ofString "octet"]
    (fun pre c => c.2.1.length ≤ 4 ∧ (∀ y ∈ c.2.1, y.length ≤ 4 + pre.length ∧ Oct y) ∧ c.2.2.1.length ≤ 4 + pre.length ∧ Oct c.2.2.1) ([.str (Str.ofString "a b ") tk0], [Str.ofString "a b "], Str.ofString "", tk0 + 1, 0) rfl (by assumption) (by assumption) (by assumption) N0 (.cons _ _ .nil) (by kst_all) ⟨by simp, by intro y hy; rw [List.mem_singleton] at hy; subst hy; exact ⟨by decide +kernel, by unfold Oct; decide +kernel⟩, by show (Str.ofString "").length ≤ _; decide +kernel, by show Oct (Str.ofString ""); unfold Oct; decide +kernel⟩ ?_ ?_
  · rintro ⟨pv, ps, last, ltk, ep⟩ pre post x t u h tk own hk hlt hoff hS hp F1 N1
    k_fold
    dsimp only at hS hp N1
    simp only [List.cons_append, List.nil_append] at N1
    obtain ⟨hp1, hp2, hp3, hp4⟩ := hp
    have hpl : pre.length < 16 := by rw [hk] at hlen; simp at hlen; omega
    have hSl : pv.length = ps.length := hS.length
    k_with "call builtin:len" => (refine led_len (by k_asm) (by k_memK) (by simp; omega) ?_; intro t9 tk9)
    k_with "call builtin:list.append" => (refine append_K (by k_asm) (by k_asm) (by k_upd) ?_ (by simp [sizeLine]; omega); intro h9 F9 N9)
    k_with "subscriptTail" => (refine led_last (by k_asm) (by k_memK) ?_)
    k_with "setItem ref int" => (refine led_setLast (by k_asm) (by k_asm) (by k_upd) ?_; intro h9 F9 N9)
    k_with "setItem" => (refine led_setLast (by k_asm) (by k_asm) (by k_upd) ?_; intro h9 F9 N9)
    w_strict k_steps
    · rename News _ _ _ _ => N9
      simp only [List.push_toArray] at N9
      refine kst_end (pv ++ [Value.str last ltk], ps ++ [last], Str.ofString "", _, ep + 1) (by assumption) N9 (mem_one (.tail _ (.head _))) (fun p hp => .tail _ (.tail _ hp)) rfl (hS.append' (.cons _ _ .nil)) (by kst_all) (by intro z h1 h2 h3; clear hS hp1 hp2 hp3 hp4; simp_all [kstB]) ?_
      · rename ((_ : Nat) : Int) < 5 => h5
        simp at h5
        refine ⟨by simp; omega, ?_, by show (Str.ofString "").length ≤ _; rw [show (Str.ofString "").length = 0 from by decide +kernel]; omega, Oct.empty⟩
        intro y hy
        rw [List.length_append]
        rcases List.mem_append.mp hy with h | h
        · exact ⟨by have := (hp2 y h).1; omega, (hp2 y h).2⟩
        · rw [List.mem_singleton] at h; subst h; exact ⟨by omega, hp4⟩
    · rename News _ _ _ _ => N9
      have hx8 := fmod8 x
      have hx255 := fmod255 (x.fdiv 8)
      refine kst_end (pv, ps, last ++ _, _, ep) (by assumption) N9 (mem_one (.tail _ (.head _))) (fun p hp => .tail _ (.tail _ hp)) rfl hS (by kst_all) (by intro z h1 h2 h3; clear hS hp1 hp2 hp3 hp4; simp_all [kstB]) ?_
      · refine ⟨hp1, fun y hy => ⟨by rw [List.length_append]; have := (hp2 y hy).1; omega, (hp2 y hy).2⟩, ?_, Oct.append hp4 (oct_menu (by omega) (by omega))⟩
        show (last ++ _).length ≤ _
        rw [len_app, List.length_append, List.length_singleton]
        have : (Txt.item (Str.ofString " #\ta ") (x.fmod 8)).length = 1 := by assumption
        omega
    · rename News _ _ _ _ => N9
      have hx8 := fmod8 x
      have hx255 := fmod255 (x.fdiv 8)
      refine kst_end (pv, ps, last ++ _, _, ep) (by assumption) N9 (mem_one (.tail _ (.head _))) (fun p hp => .tail _ (.tail _ hp)) rfl hS (by kst_all) (by intro z h1 h2 h3; clear hS hp1 hp2 hp3 hp4; simp_all [kstB]) ?_
      · refine ⟨hp1, fun y hy => ⟨by rw [List.length_append]; have := (hp2 y hy).1; omega, (hp2 y hy).2⟩, ?_, Oct.append hp4 (oct_menu (by omega) (by omega))⟩
        show (last ++ _).length ≤ _
        rw [len_app, List.length_append, List.length_singleton]
        have : (Txt.item (Str.ofString " #\ta ") (x.fmod 8)).length = 1 := by assumption
        omega
    · rename News _ _ _ _ => N9
      have hx8 := fmod8 x
      have hx255 := fmod255 (x.fdiv 8)
      refine kst_end (pv, ps, last ++ _, _, ep) (by assumption) N9 (mem_one (.tail _ (.head _))) (fun p hp => .tail _ (.tail _ hp)) rfl hS (by kst_all) (by intro z h1 h2 h3; clear hS hp1 hp2 hp3 hp4; simp_all [kstB]) ?_
      · refine ⟨hp1, fun y hy => ⟨by rw [List.length_append]; have := (hp2 y hy).1; omega, (hp2 y hy).2⟩, ?_, Oct.append hp4 (Oct.one (by omega))⟩
        show (last ++ _).length ≤ _
        rw [len_app, List.length_append, List.length_singleton]
        have : Str.length ⟨#[((x.fdiv 8).fmod 255 + 1).toNat]⟩ = 1 := rfl
        omega
    · rename News _ _ _ _ => N9
      have hx8 := fmod8 x
      have hx255 := fmod255 (x.fdiv 8)
      refine kst_end (pv, ps, last ++ _, _, ep) (by assumption) N9 (mem_one (.tail _ (.head _))) (fun p hp => .tail _ (.tail _ hp)) rfl hS (by kst_all) (by intro z h1 h2 h3; clear hS hp1 hp2 hp3 hp4; simp_all [kstB]) ?_
      · refine ⟨hp1, fun y hy => ⟨by rw [List.length_append]; have := (hp2 y hy).1; omega, (hp2 y hy).2⟩, ?_, Oct.append hp4 (Oct.one (by omega))⟩
        show (last ++ _).length ≤ _
        rw [len_app, List.length_append, List.length_singleton]
        have : Str.length ⟨#[((x.fdiv 8).fmod 255).toNat]⟩ = 1 := rfl
        omega
  · rintro ⟨pv, ps, last, ltk, ep⟩ u h tk hS hp F1 N1
    k_steps
    show R (.ok (.ret (.ref l'))) _
    obtain ⟨hp1, hp2, hp3, hp4⟩ := hp
    have z := N1 _ (List.mem_singleton.mpr rfl)
    refine k l' _ _ _ _ _ F1.keep z.2.2 z.1 (hS.append' (.cons _ _ .nil)) (by rw [List.length_append]; exact Nat.add_le_add_right hp1 1) (by rw [List.length_append]; exact Nat.le_add_left _ _) ?_
    intro y hy
    rcases List.mem_append.mp hy with h | h
    · have := hp2 y h
      exact ⟨by omega, this.2⟩
    · rw [List.mem_singleton] at h; subst h
      exact ⟨by dsimp only at hp3; omega, hp4⟩
end

/- part P3 -/
section
open PySem PySem.W PyProof.Rows PySem.Calls
/-- the lists of _law_laid, between two lines -/
structure LS where
  kv : List Value
  ks : List Str
  ke : Nat
  mv : List Value
  me : Nat
  hv : List Value
  hs : List Str
  he : Nat
  av : List Value
  as : List Nat
  ae : Nat
  off : Nat
  ot : Tok
  tups : List (Addr × Obj)
def lineOf (y : Str) : Str := commentS y ++ Str.ofString "\n"
/-- handed and answers of the lines -/
def allH : List Str → List Str × List Nat
  | ys => ys.foldl (fun c y => ((iterH (c.1, c.2, lineOf y) (lineOf y).length).1, (iterH (c.1, c.2, lineOf y) (lineOf y).length).2.1)) ([], [])
def textOf (ys : List Str) : Str := catS (ys.map lineOf)
/-- where each line begins and how long it is -/
def membersOf (ys : List Str) : List (Nat × Nat) := (List.range ys.length).map fun i => ((textOf (ys.take i)).length, (lineOf (ys.getD i ⟨#[]⟩)).length)
/-- a list's items are these pairs, in the ledger's part -/
inductive TupsAre (tups : List (Addr × Obj)) : List Value → List (Nat × Nat) → Prop
  | nil : TupsAre tups [] []
  | cons {a : Addr} {i j : Nat} {t u : Tok} {e : Nat} {vs : List Value} {ps : List (Nat × Nat)} : (a, ({ cls := .type "tuple", data := .seq #[.int (i : Int) t, .int (j : Int) u] e } : Obj)) ∈ tups → TupsAre tups vs ps → TupsAre tups (.ref a :: vs) ((i, j) :: ps)
structure LOk (ys : List Str) (i : Nat) (c : LS) : Prop where
  k : StrsAre c.kv c.ks
  h : StrsAre c.hv c.hs
  a : IntsAre c.av (c.as.map (fun (n : Nat) => (n : Int)))
  n : c.ks.length = c.as.length
  n2 : c.hs.length = c.as.length
  all : (c.hs, c.as) = allH (ys.take i)
  cat : catS c.ks = textOf (ys.take i)
  off : c.off = (textOf (ys.take i)).length
  b : c.as.length ≤ 40 * i
  t : TupsAre c.tups c.mv (membersOf (ys.take i))
theorem rs_nat (n : Nat) : Builtin.Range.rangeSize 0 (n : Int) 1 = (n : Int) := by rw [rangeSize_nat]; omega
theorem small_nat {n : Nat} (h : n ≤ 1000000) : Builtin.Range.small 0 (n : Int) 1 = true := by
  unfold Builtin.Range.small Builtin.Range.rangeFitsLong
  rw [rs_nat]
  simp
  omega
section
variable {prog : Program} {w : World} {A : Around} {E : Value → Shared → Prop} {s : Shared} {h₀ : Heap} {L D : Addr} {news : List (Addr × Obj)} {its : Array Value} {n : Nat} {u : Tok} {v : Value}
theorem led_lastP {value slice : PySem.Expr} {Q : Value → Shared → Prop} (N : News h₀ L s.heap news) (hm : (D, W.listOf (its.push v) n) ∈ news) (h : Q v s)
    (hs : subscripted slice false (.ref D) (.int (-1) u) = operate [.ref D, .int (-1) u] (getItem (.ref D) (.int (-1) u)) := by with_unfolding_all rfl) :
    wpAny (model prog w) A (subscriptTail value slice (.ref D) (.int (-1) u)) Q E s := by
  refine led_last (vs := its.toList) (v := v) (n := n) N ?_ h hs
  rw [show (its.toList ++ [v]).toArray = its.push v from by apply Array.toList_inj.mp; simp]
  exact hm
end
theorem commentS_len (y : Str) : (commentS y).length ≤ y.length + 2 := by
  have h := fact_rstrip y
  unfold commentS
  split
  · show (Str.ofString "#").length ≤ _; rw [show (Str.ofString "#").length = 1 from by decide +kernel]; omega
  · rw [slen_app, show (Str.ofString "# ").length = 2 from by decide +kernel]; omega
theorem TupsAre.length {tups : List (Addr × Obj)} {vs : List Value} {ps : List (Nat × Nat)} (h : TupsAre tups vs ps) : vs.length = ps.length := by
  induction h with
  | nil => rfl
  | cons _ _ ih => simp [ih]
theorem membersOf_len (ys : List Str) : (membersOf ys).length = ys.length := by simp [membersOf]
theorem LOk.zero (ys : List Str) (ot : Tok) : LOk ys 0 ⟨[], [], 0, [], 0, [], [], 0, [], [], 0, 0, ot, []⟩ :=
  ⟨.nil, .nil, .nil, rfl, rfl, rfl, rfl, rfl, Nat.le_refl _, .nil⟩
theorem strsAt {vs : List Value} {ys : List Str} (h : StrsAre vs ys) : ∀ {i : Nat} {v : Value}, vs[i]? = some v → ∃ y t, v = .str y t ∧ ys[i]? = some y := by
  induction h with
  | nil => intro i v e; simp at e
  | cons x t h ih =>
    intro i v e
    cases i with
    | zero => simp at e; exact ⟨_, _, e.symm, rfl⟩
    | succ i =>
      obtain ⟨y, t', h1, h2⟩ := ih (by simpa using e)
      exact ⟨y, t', h1, by simpa using h2⟩
/-- the ledger of _law_laid -/
abbrev ledL (xB dB d9 fL cL fT cT lD lA lH lM lK p2 p1 p0 : Addr) (oX o9 oL oCL oT oCT oD o2 o1 o0 : Obj) (e1 : DictEntry) (hh : Int) (kk : Value) (c : LS) : List (Addr × Obj) :=
  (xB, oX) :: (dB, dictOf [e1, ⟨hh, kk, .int (c.off : Int) c.ot⟩] 2) :: (d9, o9) :: (fL, oL) :: (cL, oCL) :: (fT, oT) :: (cT, oCT) :: (lD, oD) :: (lA, W.listOf c.av.toArray c.ae) :: (lH, W.listOf c.hv.toArray c.he) :: (lM, W.listOf c.mv.toArray c.me) :: (lK, W.listOf c.kv.toArray c.ke) :: (p2, o2) :: (p1, o1) :: (p0, o0) :: c.tups
section
variable {prog : Program} {w : World} {A : Around} {E : Value → Shared → Prop} {s : Shared} {env : Env} {h₀ : Heap} {x : Str} {body : List Stmt} {Q : Flow → Shared → Prop}
theorem lp_list_L {xB dB d9 fL cL fT cT lD lA lH lM lK p2 p1 p0 : Addr} {oX o9 oL oCL oT oCT oD o2 o1 o0 : Obj} {e1 : DictEntry} {hh : Int} {kk : Value} {l : Addr} {vs : List Value} {m₀ : Str → Option Value} (stored : List Str) (P : Nat → LS → Prop) (c₀ : LS)
    (hd : A.handled = none) (hl : h₀.IsList l vs.toArray) (F : Fr h₀ env.locals s.heap m₀) (N : News h₀ env.locals s.heap (ledL xB dB d9 fL cL fT cT lD lA lH lM lK p2 p1 p0 oX o9 oL oCL oT oCT oD o2 o1 o0 e1 hh kk c₀)) (hk : ∀ p ∈ ([] : List (Str × Value)), m₀ p.1 = some p.2) (hp : P 0 c₀)
    (turn : ∀ (c : LS) i v (u : Str → Option Value) h tk I io, vs[i]? = some v → P i c → (∀ p ∈ ledL xB dB d9 fL cL fT cT lD lA lH lM lK p2 p1 p0 oX o9 oL oCL oT oCT oD o2 o1 o0 e1 hh kk c, p.1 ≠ I) → Fr h₀ env.locals h (fun y => if y = x then some v else kstB (fun z => if stored.contains z then u z else m₀ z) [] y) → News h₀ env.locals h ((I, io) :: ledL xB dB d9 fL cL fT cT lD lA lH lM lK p2 p1 p0 oX o9 oL oCL oT oCT oD o2 o1 o0 e1 hh kk c) →
      wpAny (model prog w) A (execs body env) (LpPost h₀ env.locals (ledL xB dB d9 fL cL fT cT lD lA lH lM lK p2 p1 p0 oX o9 oL oCL oT oCT oD o2 o1 o0 e1 hh kk) (fun _ => []) x stored m₀ (P (i + 1)) (I, io) { s with heap := h, toks := tk } Q) E { s with heap := h, toks := tk })
    (done : ∀ (c : LS) (u : Str → Option Value) h tk, P vs.length c → Fr h₀ env.locals h (fun y => if y = x then u y else kstB (fun z => if stored.contains z then u z else m₀ z) [] y) → News h₀ env.locals h (ledL xB dB d9 fL cL fT cT lD lA lH lM lK p2 p1 p0 oX o9 oL oCL oT oCT oD o2 o1 o0 e1 hh kk c) → Q .next { s with heap := h, toks := tk }) :
    wpAny (model prog w) A (pyIter (.ref l)) (fun it s₂ => LoopAtV prog w A h₀ env x body Q E it s₂) E s :=
  lp_list _ _ stored P c₀ hd hl F N hk hp turn done
end
/-- the state within a line -/
structure LI where
  ls : LS
  oo : Nat
  oot : Tok
  left : Str
  lt : Tok
abbrev ledI (D xO dO I : Addr) (oD2 oXO io : Obj) (eO : DictEntry) (hO : Int) (kO : Value) (xB dB d9 fL cL fT cT lD lA lH lM lK p2 p1 p0 : Addr) (oX o9 oL oCL oT oCT oD o2 o1 o0 : Obj) (e1 : DictEntry) (hh : Int) (kk : Value) (c : LI) : List (Addr × Obj) :=
  (D, oD2) :: (xO, oXO) :: (dO, dictOf [eO, ⟨hO, kO, .int (c.oo : Int) c.oot⟩] 2) :: (I, io) :: ledL xB dB d9 fL cL fT cT lD lA lH lM lK p2 p1 p0 oX o9 oL oCL oT oCT oD o2 o1 o0 e1 hh kk c.ls
section
variable {prog : Program} {w : World} {A : Around} {E : Value → Shared → Prop} {s : Shared} {env : Env} {h₀ : Heap} {x : Str} {body : List Stmt} {Q : Flow → Shared → Prop}
theorem lp_range_I {D xO dO I' : Addr} {oD2 oXO io' : Obj} {eO : DictEntry} {hO : Int} {kO : Value} {xB dB d9 fL cL fT cT lD lA lH lM lK p2 p1 p0 : Addr} {oX o9 oL oCL oT oCT oD o2 o1 o0 : Obj} {e1 : DictEntry} {hh : Int} {kk : Value} {r : Addr} {b₀ : Int} {t₀ u₀ v₀ : Tok} {n : Nat} {m₀ : Str → Option Value} (stored : List Str) (P : Nat → LI → Prop) (c₀ : LI)
    (hd : A.handled = none) (hr : IsRange s.heap r 0 b₀ 1 t₀ u₀ v₀) (hsmall : Builtin.Range.small 0 b₀ 1 = true) (hn : Builtin.Range.rangeSize 0 b₀ 1 = (n : Int)) (F : Fr h₀ env.locals s.heap m₀) (N : News h₀ env.locals s.heap (ledI D xO dO I' oD2 oXO io' eO hO kO xB dB d9 fL cL fT cT lD lA lH lM lK p2 p1 p0 oX o9 oL oCL oT oCT oD o2 o1 o0 e1 hh kk c₀)) (hk : ∀ p ∈ [(Str.ofString "left", Value.str c₀.left c₀.lt)], m₀ p.1 = some p.2) (hp : P 0 c₀)
    (turn : ∀ (c : LI) (i : Nat) t (u : Str → Option Value) h tk I io, i < n → P i c → (∀ p ∈ ledI D xO dO I' oD2 oXO io' eO hO kO xB dB d9 fL cL fT cT lD lA lH lM lK p2 p1 p0 oX o9 oL oCL oT oCT oD o2 o1 o0 e1 hh kk c, p.1 ≠ I) → Fr h₀ env.locals h (fun y => if y = x then some (.int (i : Int) t) else kstB (fun z => if stored.contains z then u z else m₀ z) [(Str.ofString "left", Value.str c.left c.lt)] y) → News h₀ env.locals h ((I, io) :: ledI D xO dO I' oD2 oXO io' eO hO kO xB dB d9 fL cL fT cT lD lA lH lM lK p2 p1 p0 oX o9 oL oCL oT oCT oD o2 o1 o0 e1 hh kk c) →
      wpAny (model prog w) A (execs body env) (LpPost h₀ env.locals (ledI D xO dO I' oD2 oXO io' eO hO kO xB dB d9 fL cL fT cT lD lA lH lM lK p2 p1 p0 oX o9 oL oCL oT oCT oD o2 o1 o0 e1 hh kk) (fun c => [(Str.ofString "left", Value.str c.left c.lt)]) x stored m₀ (P (i + 1)) (I, io) { s with heap := h, toks := tk } Q) E { s with heap := h, toks := tk })
    (done : ∀ (c : LI) (u : Str → Option Value) h tk, P n c → Fr h₀ env.locals h (fun y => if y = x then u y else kstB (fun z => if stored.contains z then u z else m₀ z) [(Str.ofString "left", Value.str c.left c.lt)] y) → News h₀ env.locals h (ledI D xO dO I' oD2 oXO io' eO hO kO xB dB d9 fL cL fT cT lD lA lH lM lK p2 p1 p0 oX o9 oL oCL oT oCT oD o2 o1 o0 e1 hh kk c) → Q .next { s with heap := h, toks := tk }) :
    wpAny (model prog w) A (pyIter (.ref r)) (fun it s₂ => LoopAtV prog w A h₀ env x body Q E it s₂) E s :=
  lp_range _ _ stored P c₀ hd hr hsmall hn F N hk hp turn done
end
structure IOk (hs₀ : List Str) (as₀ : List Nat) (left₀ : Str) (cat₀ : Str) (off₀ : Nat) (mv₀ : List Value) (me₀ : Nat) (tups₀ : List (Addr × Obj)) (j : Nat) (c : LI) : Prop where
  k : StrsAre c.ls.kv c.ls.ks
  h : StrsAre c.ls.hv c.ls.hs
  a : IntsAre c.ls.av (c.ls.as.map (fun (n : Nat) => (n : Int)))
  n : c.ls.ks.length = c.ls.as.length
  n2 : c.ls.hs.length = c.ls.as.length
  it : (c.ls.hs, c.ls.as, c.left) = iterH (hs₀, as₀, left₀) j
  cat : catS c.ls.ks ++ c.left = cat₀ ++ left₀
  oo : c.oo + c.left.length = left₀.length
  off : c.ls.off = off₀ + c.oo
  mv : c.ls.mv = mv₀
  me : c.ls.me = me₀
  tu : c.ls.tups = tups₀
  b : c.ls.as.length ≤ as₀.length + j
theorem kstB_off {u m₀ : Str → Option Value} {z k : Str} {v : Value} (h : z ≠ k) : kstB (fun z => if ([] : List Str).contains z then u z else m₀ z) [(k, v)] z = m₀ z := by
  show (if z = k then _ else _) = _
  rw [if_neg h]; rfl
theorem ne_map {l l' : List (Addr × Obj)} {I : Addr} (h : ∀ p ∈ l, p.1 ≠ I) (e : l'.map (·.1) = l.map (·.1)) : ∀ p ∈ l', p.1 ≠ I := fun p hp => by
  have : p.1 ∈ l'.map (·.1) := List.mem_map_of_mem hp
  rw [e] at this
  obtain ⟨q, hq, e2⟩ := List.mem_map.mp this
  rw [← e2]; exact h q hq
theorem bne_len {x : Str} (h : (x != Str.ofString "") = true) : x.length ≠ 0 := fun e => by
  have : x = Str.ofString "" := by
    apply Str.ext_list
    have : x.cps.toList = [] := List.eq_nil_of_length_eq_zero (by rw [← len_list]; exact e)
    rw [this]; rfl
  rw [this] at h; simp at h
theorem beq_len {x : Str} (h : (x != Str.ofString "") = false) : x.length = 0 := by
  have : x = Str.ofString "" := by simpa using h
  rw [this]; decide +kernel
theorem ints_snocN {vs : List Value} {ns : List Nat} {n : Nat} {t : Tok} (h : IntsAre vs (ns.map (fun (n : Nat) => (n : Int)))) : IntsAre (vs ++ [.int (n : Int) t]) ((ns ++ [n]).map (fun (n : Nat) => (n : Int))) := by
  rw [List.map_append]
  exact IntsAre.append h (.cons _ _ .nil)
theorem IOk.step {hs₀ : List Str} {as₀ : List Nat} {left₀ cat₀ : Str} {off₀ : Nat} {mv₀ : List Value} {me₀ : Nat} {tups₀ : List (Addr × Obj)} {j : Nat} {kv' : List Value} {ks' : List Str} {ke' : Nat} {mv' : List Value} {me' : Nat} {hv' : List Value} {hs' : List Str} {he' : Nat} {av' : List Value} {as' : List Nat} {ae' off' : Nat} {ot' : Tok} {tups' : List (Addr × Obj)} {oo : Nat} {oot : Tok} {left : Str} {lt t1 t2 t3 t4 t5 t6 : Tok}
    (H : IOk hs₀ as₀ left₀ cat₀ off₀ mv₀ me₀ tups₀ j ⟨⟨kv', ks', ke', mv', me', hv', hs', he', av', as', ae', off', ot', tups'⟩, oo, oot, left, lt⟩) (hne : left.length ≠ 0) :
    IOk hs₀ as₀ left₀ cat₀ off₀ mv₀ me₀ tups₀ (j + 1) ⟨⟨kv' ++ [.str (pc ks'.length left) t1], ks' ++ [pc ks'.length left], ke' + 1, mv', me', hv' ++ [.str left t2], hs' ++ [left], he' + 1, av' ++ [.int ((pc ks'.length left).length : Int) t3], as' ++ [(pc ks'.length left).length], ae' + 1, off' + (pc ks'.length left).length, t4, tups'⟩, oo + (pc ks'.length left).length, t5, Txt.slice left (some ((pc ks'.length left).length : Int)) none, t6⟩ := by
  obtain ⟨r1, r2, r3, r4, r5, r6, r7, r8, r9, r10, r11, r12, r13⟩ := H
  dsimp only at r1 r2 r3 r4 r5 r6 r7 r8 r9 r10 r11 r12 r13
  refine ⟨r1.append' (.cons _ _ .nil), r2.append' (.cons _ _ .nil), ints_snocN r3, ?_, ?_, ?_, ?_, ?_, ?_, r10, r11, r12, ?_⟩ <;> dsimp only
  · simp [r4]
  · simp [r5]
  · show _ = stepH (iterH _ j)
    rw [← r6]
    unfold stepH
    rw [if_neg hne, r4]
  · rw [catS_snoc]
    apply Str.ext_list
    have e := congrArg (fun z => z.cps.toList) r7
    have e2 := congrArg (fun z => z.cps.toList) (pc_rest ks'.length left)
    simp only [cps_app] at e e2 ⊢
    rw [List.append_assoc, e2, e]
  · rw [rest_len, pc_len]; omega
  · omega
  · rw [List.length_append, List.length_singleton]; omega
theorem IOk.stay {hs₀ : List Str} {as₀ : List Nat} {left₀ cat₀ : Str} {off₀ : Nat} {mv₀ : List Value} {me₀ : Nat} {tups₀ : List (Addr × Obj)} {j : Nat} {c : LI} (H : IOk hs₀ as₀ left₀ cat₀ off₀ mv₀ me₀ tups₀ j c) (h0 : c.left.length = 0) : IOk hs₀ as₀ left₀ cat₀ off₀ mv₀ me₀ tups₀ (j + 1) c := by
  obtain ⟨r1, r2, r3, r4, r5, r6, r7, r8, r9, r10, r11, r12, r13⟩ := H
  refine ⟨r1, r2, r3, r4, r5, ?_, r7, r8, r9, r10, r11, r12, by omega⟩
  show _ = stepH (iterH _ j)
  rw [← r6]
  unfold stepH
  rw [if_pos h0]
theorem OwnOff.consM {tups : List (Addr × Obj)} {adr : List Addr} {D : Addr} {o : Obj} (h : OwnOff tups adr) (hD : ∀ b ∈ adr, D ≠ b) : OwnOff ((D, o) :: tups) adr := fun p hp b hb => by
  rcases List.mem_cons.mp hp with rfl | hp
  · exact hD b hb
  · exact h p hp b hb
theorem TupsAre.mono {tups tups' : List (Addr × Obj)} {vs : List Value} {ps : List (Nat × Nat)} (h : TupsAre tups vs ps) (hs : ∀ p ∈ tups, p ∈ tups') : TupsAre tups' vs ps := by
  induction h with
  | nil => exact .nil
  | cons hm _ ih => exact .cons (hs _ hm) ih
theorem TupsAre.snoc {tups : List (Addr × Obj)} {vs : List Value} {ps : List (Nat × Nat)} {a : Addr} {i j : Nat} {t u : Tok} {e : Nat} (h : TupsAre tups vs ps) (hm : (a, ({ cls := .type "tuple", data := .seq #[.int (i : Int) t, .int (j : Int) u] e } : Obj)) ∈ tups) : TupsAre tups (vs ++ [.ref a]) (ps ++ [(i, j)]) := by
  induction h with
  | nil => exact .cons hm .nil
  | cons hm' _ ih => exact .cons hm' ih
theorem take_succ_at {α : Type} {ys : List α} {i : Nat} {y : α} (h : ys[i]? = some y) : ys.take (i + 1) = ys.take i ++ [y] := by
  rw [List.take_add_one, h]; rfl
theorem allH_snoc (ys : List Str) (y : Str) : allH (ys ++ [y]) = ((iterH ((allH ys).1, (allH ys).2, lineOf y) (lineOf y).length).1, (iterH ((allH ys).1, (allH ys).2, lineOf y) (lineOf y).length).2.1) := by
  unfold allH
  rw [List.foldl_append]; rfl
theorem textOf_snoc (ys : List Str) (y : Str) : textOf (ys ++ [y]) = textOf ys ++ lineOf y := by
  unfold textOf
  rw [List.map_append, List.map_singleton, catS_snoc]
theorem membersOf_snoc (ys : List Str) (y : Str) : membersOf (ys ++ [y]) = membersOf ys ++ [((textOf ys).length, (lineOf y).length)] := by
  unfold membersOf
  rw [List.length_append, List.length_singleton, List.range_succ, List.map_append]
  congr 1
  · refine List.map_congr_left fun i hi => ?_
    have hi := List.mem_range.mp hi
    rw [List.take_append_of_le_length (by omega), List.getD_eq_getElem?_getD, List.getD_eq_getElem?_getD, List.getElem?_append_left hi]
  · simp
theorem app_nil (a b : Str) (h : b.length = 0) : a ++ b = a := by
  apply Str.ext_list
  rw [cps_app, List.eq_nil_of_length_eq_zero (l := b.cps.toList) (by rw [← len_list]; exact h), List.append_nil]
theorem LOk.next {ys : List Str} {i : Nat} {y cy left0 : Str} {kv : List Value} {ks : List Str} {ke : Nat} {mv : List Value} {me : Nat} {hv : List Value} {hs : List Str} {he : Nat} {av : List Value} {as : List Nat} {ae off : Nat} {ot : Tok} {tups : List (Addr × Obj)}
    {kv' : List Value} {ks' : List Str} {ke' : Nat} {hv' : List Value} {hs' : List Str} {he' : Nat} {av' : List Value} {as' : List Nat} {ae' off' : Nat} {ot' : Tok} {oo : Nat} {oot : Tok} {left : Str} {lt : Tok} {DT : Addr} {me2 me3 me' : Nat}
    (H : LOk ys i ⟨kv, ks, ke, mv, me, hv, hs, he, av, as, ae, off, ot, tups⟩) (hy : ys[i]? = some y) (hcy : commentS y = cy) (hleft : cy ++ Str.ofString "\n" = left0)
    (J : IOk hs as left0 (catS ks) off mv me2 tups left0.length ⟨⟨kv', ks', ke', mv, me3, hv', hs', he', av', as', ae', off', ot', tups⟩, oo, oot, left, lt⟩) (hz : left.length = 0) (hL : left0.length ≤ 31) :
    LOk ys (i + 1) ⟨kv', ks', ke', mv ++ [.ref DT], me' + 1, hv', hs', he', av', as', ae', off', ot', (DT, { cls := .type "tuple", data := .seq #[.int (off : Int) ot, .int (oo : Int) oot] }) :: tups⟩ := by
  have hl0 : left0 = lineOf y := by rw [← hleft, ← hcy]; rfl
  obtain ⟨q1, q2, q3, q4, q5, q6, q7, q8, q10, q9⟩ := H
  obtain ⟨r1, r2, r3, r4, r5, r6, r7, r8, r9, r10, r11, r12, r13⟩ := J
  dsimp only at q1 q2 q3 q4 q5 q6 q7 q8 q9 q10 r1 r2 r3 r4 r5 r6 r7 r8 r9 r10 r11 r12 r13
  have ht := take_succ_at hy
  have e6 := q6
  refine ⟨r1, r2, r3, r4, r5, ?_, ?_, ?_, ?_, ?_⟩ <;> dsimp only
  · rw [ht, allH_snoc, ← q6, ← hl0]
    dsimp only
    rw [← r6]
  · rw [ht, textOf_snoc, ← q7, ← hl0, ← r7, app_nil _ _ hz]
  · rw [ht, textOf_snoc, slen_app, ← q8, ← hl0]; omega
  · omega
  · rw [ht, membersOf_snoc]
    refine TupsAre.snoc (t := ot) (u := oot) (e := 0) (TupsAre.mono q9 fun p hp => .tail _ hp) ?_
    have e1 : oo = (lineOf y).length := by rw [← hl0]; omega
    rw [← q8, ← e1]
    exact .head _
theorem catS_len (l : List Str) : (catS l).length = (l.map (·.length)).sum := by
  induction l with
  | nil => rfl
  | cons a r ih => show (a ++ catS r).length = _; rw [slen_app, ih]; simp
theorem lineOf_len (y : Str) : (lineOf y).length ≤ y.length + 3 := by
  unfold lineOf
  rw [slen_app, show (Str.ofString "\n").length = 1 from by decide +kernel]
  have := commentS_len y
  omega
theorem textOf_len (ys : List Str) (h : ∀ y ∈ ys, y.length ≤ 20) : (textOf ys).length ≤ 23 * ys.length := by
  unfold textOf
  induction ys with
  | nil => decide
  | cons y r ih =>
    show (lineOf y ++ catS (r.map lineOf)).length ≤ _
    rw [slen_app]
    have h1 := ih fun z hz => h z (.tail _ hz)
    have h2 := lineOf_len y
    have h3 := h y (.head _)
    rw [List.length_cons]; omega
section
variable {prog : Program} {w : World} {A : Around} {E : Value → Shared → Prop} {s : Shared} {h₀ : Heap} {L D : Addr} {news : List (Addr × Obj)} {vs : List Value} {ws : List Str} {n : Nat} {t : Tok}
theorem led_join {Q : Value → Shared → Prop} (N : News h₀ L s.heap news) (hm : (D, W.listOf vs.toArray n) ∈ news) (hS : StrsAre vs ws) (hlen : (catS ws).length ≤ 100000)
    (h : ∀ t tk, Q (.str (catS ws) t) { s with toks := tk }) : wpAny (model prog w) A (call (.builtin "str.join") [.str (Str.ofString "") t, .ref D]) Q E s := by
  have e : Txt.join (Str.ofString "") ws = catS ws := by
    rw [show Str.ofString "" = (⟨#[]⟩ : Str) from by decide +kernel]
    exact (StrLaws.glued_eq_join _ _).trans (join_cat ws)
  refine join_list (PySem.IsL.isList (n := n) (N _ hm).1) (by simpa using hS) ?_ (fun t' k => e ▸ h t' k)
  rw [← catS_len, show (Str.ofString "").length = 0 from by decide +kernel]; omega
end
end

/- part P4 -/
section
open PySem PySem.W PyProof.Rows PySem.Calls PySem.Builtin PySem.Builtin.Str
def wsS : Str := Str.ofString "\t\x0b\x0c\x0d\x1c\x1d\x1e\x1f \u0085\u00a0"
theorem fold_filter {f : List Int → Int → List Int} {p : Int → Bool} (h : ∀ l k, f l k = if p k = true then l ++ [k] else l) : ∀ (ks : List Int) (l : List Int), ks.foldl f l = l ++ ks.filter p
  | [], l => by simp
  | k :: r, l => by
    rw [List.foldl_cons, h, fold_filter h r]
    by_cases hp : p k = true
    · rw [if_pos hp, List.filter_cons_of_pos hp, List.append_assoc]; rfl
    · rw [if_neg hp, List.filter_cons_of_neg hp]
theorem ws_space : ∀ c, c < 256 → c ≠ 10 → (decide (c ∈ wsS.cps.toList) = Unicode.isSpace c) := by decide +kernel
theorem mem_rangeKsM {k : Int} {n : Nat} : k ∈ rangeKs 0 n ↔ 0 ≤ k ∧ k < n :=
  ⟨fun h => by have := mem_rangeKs h; omega, fun h => by unfold rangeKs; exact List.mem_map.mpr ⟨k.toNat, List.mem_range.mpr (by omega), by omega⟩⟩
/-- the white ends of a line -/
theorem written_eq {x : Str} {sol : List Int} (hs : ∀ k : Int, k ∈ sol ↔ (0 ≤ k ∧ k < x.length) ∧ Unicode.isSpace (x.cps.getD k.toNat 0) = false) :
    (sol = [] → Str.ofString "#\n" = lineOf x) ∧ (∀ M ∈ sol, (∀ a ∈ sol, a ≤ M) → Str.ofString "# " ++ Txt.slice x none (some (M + 1)) ++ Str.ofString "\n" = lineOf x) := by
  obtain ⟨_, h1, h2, h3⟩ := hi_facts Unicode.isSpace x 0 (Nat.zero_le _)
  have hr : Txt.rstrip x = strSub x 0 (stripHi Unicode.isSpace true x 0) := PyProof.Rows.stripBy_eq _ _ _ _
  generalize stripHi Unicode.isSpace true x 0 = H at *
  have hl : (Txt.rstrip x).cps.toList = x.cps.toList.take H := by
    rw [hr, StrLaws.strSub_toList]; simp
  have hlen : (Txt.rstrip x).length = H := by
    rw [len_list, hl, List.length_take, ← len_list]; omega
  have hin : H ≠ 0 → ((H - 1 : Nat) : Int) ∈ sol := fun h => by
    refine (hs _).mpr ⟨by omega, ?_⟩
    rw [Int.toNat_natCast]
    exact h3.resolve_left h
  constructor
  · intro e
    have hz : H = 0 := by
      by_cases h : H = 0
      · exact h
      · have := hin h; rw [e] at this; cases this
    unfold lineOf commentS
    rw [if_pos (by omega)]
    decide +kernel
  · intro M hM hmax
    obtain ⟨⟨hM0, hM1⟩, hM2⟩ := (hs M).mp hM
    have hlt : M < H := by
      by_cases h : M < H
      · exact h
      · have := h2 M.toNat (by omega) (by omega)
        rw [hM2] at this; cases this
    have hge := hmax _ (hin (by omega))
    have hMH : M + 1 = ((H : Nat) : Int) := by omega
    unfold lineOf commentS
    rw [if_neg (by omega)]
    apply Str.ext_list
    rw [hMH]
    simp only [cps_app, slice_take, hl]
theorem charAt_in {x : Str} {k : Int} (h0 : 0 ≤ k) (h1 : k < x.length) : (Txt.charAt x k).getD 0 = x.cps.getD k.toNat 0 := by
  have e : seqIndex? k x.length = some k.toNat := by
    unfold seqIndex?
    have hn : ¬ k < 0 := by omega
    simp only [hn, if_false]
    rw [if_pos (by simp; omega)]
  unfold Txt.charAt
  rw [e]
  simp
/-- the comprehension's fold, as the walk gives it -/
theorem solid_mem {x : Str} (hx : Oct x) {f : List Int → Int → List Int} {sol : List Int}
    (hf : ∀ l k, f l k = if (occurrences wsS (Txt.item x k) 0 wsS.length 1).isEmpty = true then l ++ [k] else l) (h : List.foldl f [] (rangeKs 0 x.length) = sol) :
    ∀ k : Int, k ∈ sol ↔ (0 ≤ k ∧ k < x.length) ∧ Unicode.isSpace (x.cps.getD k.toNat 0) = false := by
  intro k
  rw [← h, fold_filter (p := fun k => (occurrences wsS (Txt.item x k) 0 wsS.length 1).isEmpty) hf, List.nil_append, List.mem_filter, mem_rangeKsM]
  refine and_congr_right fun ⟨h0, h1⟩ => ?_
  have e := StrLaws.found_one wsS ((Txt.charAt x k).getD 0)
  rw [charAt_in h0 h1] at e
  have hlt : k.toNat < x.cps.size := by have : x.length = x.cps.size := rfl; omega
  have hc : x.cps.getD k.toNat 0 = x.cps[k.toNat] := by simp [Array.getD, hlt]
  have ho := hx (x.cps[k.toNat]) (Array.getElem_mem hlt)
  rw [ws_space _ (by rw [hc]; exact ho.1) (by rw [hc]; exact ho.2)] at e
  have e2 : Txt.item x k = ⟨#[x.cps.getD k.toNat 0]⟩ := by unfold Txt.item; rw [charAt_in h0 h1]
  rw [e2, ← e]
  simp
end

/- part P5 -/
section
open PySem PySem.W PyProof.Rows PySem.Calls
/-- the lists of _law_due, between two lines -/
structure DS where
  text : Str
  tt : Tok
  mv : List Value
  me : Nat
  hv : List Value
  hs : List Str
  he : Nat
  av : List Value
  as : List Nat
  ae : Nat
  tups : List (Addr × Obj)
structure DOk (ys : List Str) (i : Nat) (c : DS) : Prop where
  h : StrsAre c.hv c.hs
  a : IntsAre c.av (c.as.map (fun (n : Nat) => (n : Int)))
  n2 : c.hs.length = c.as.length
  all : (c.hs, c.as) = allH (ys.take i)
  text : c.text = textOf (ys.take i)
  b : c.as.length ≤ 40 * i
  t : TupsAre c.tups c.mv (membersOf (ys.take i))
theorem DOk.zero (ys : List Str) (tt : Tok) : DOk ys 0 ⟨Str.ofString "", tt, [], 0, [], [], 0, [], [], 0, []⟩ :=
  ⟨.nil, .nil, rfl, rfl, by show Str.ofString "" = (⟨#[]⟩ : Str); decide +kernel, Nat.le_refl _, .nil⟩
/-- within a line -/
structure DI where
  hv : List Value
  hs : List Str
  he : Nat
  av : List Value
  as : List Nat
  ae : Nat
  left : Str
  lt : Tok
structure DIOk (hs₀ : List Str) (as₀ : List Nat) (left₀ : Str) (j : Nat) (c : DI) : Prop where
  h : StrsAre c.hv c.hs
  a : IntsAre c.av (c.as.map (fun (n : Nat) => (n : Int)))
  n2 : c.hs.length = c.as.length
  it : (c.hs, c.as, c.left) = iterH (hs₀, as₀, left₀) j
  l : c.left.length ≤ left₀.length
  b : c.as.length ≤ as₀.length + j
theorem pc_min (n : Nat) (left : Str) : ((pc n left).length : Int) = min (1 + (n : Int).fmod 3) (left.length : Int) := by
  rw [pc_len, Int.fmod_eq_emod_of_nonneg _ (by omega)]; omega
theorem DIOk.step {hs₀ : List Str} {as₀ : List Nat} {left₀ : Str} {j : Nat} {hv' : List Value} {hs' : List Str} {he' : Nat} {av' : List Value} {as' : List Nat} {ae' : Nat} {left : Str} {lt t2 t3 t6 : Tok}
    (H : DIOk hs₀ as₀ left₀ j ⟨hv', hs', he', av', as', ae', left, lt⟩) (hne : left.length ≠ 0) :
    DIOk hs₀ as₀ left₀ (j + 1) ⟨hv' ++ [.str left t2], hs' ++ [left], he' + 1, av' ++ [.int ((pc as'.length left).length : Int) t3], as' ++ [(pc as'.length left).length], ae' + 1, Txt.slice left (some ((pc as'.length left).length : Int)) none, t6⟩ := by
  obtain ⟨r2, r3, r5, r6, r8, r13⟩ := H
  dsimp only at r2 r3 r5 r6 r8 r13
  refine ⟨r2.append' (.cons _ _ .nil), ints_snocN r3, ?_, ?_, ?_, ?_⟩ <;> dsimp only
  · simp [r5]
  · show _ = stepH (iterH _ j)
    rw [← r6]
    unfold stepH
    rw [if_neg hne]
  · rw [rest_len]; omega
  · rw [List.length_append, List.length_singleton]; omega
theorem DIOk.stay {hs₀ : List Str} {as₀ : List Nat} {left₀ : Str} {j : Nat} {c : DI} (H : DIOk hs₀ as₀ left₀ j c) (h0 : c.left.length = 0) : DIOk hs₀ as₀ left₀ (j + 1) c := by
  obtain ⟨r2, r3, r5, r6, r8, r13⟩ := H
  refine ⟨r2, r3, r5, ?_, r8, by omega⟩
  show _ = stepH (iterH _ j)
  rw [← r6]
  unfold stepH
  rw [if_pos h0]
theorem DOk.next {ys : List Str} {i : Nat} {y left0 text : Str} {tt tt' : Tok} {mv : List Value} {me me' : Nat} {hv : List Value} {hs : List Str} {he : Nat} {av : List Value} {as : List Nat} {ae : Nat} {tups : List (Addr × Obj)}
    {hv' : List Value} {hs' : List Str} {he' : Nat} {av' : List Value} {as' : List Nat} {ae' : Nat} {left : Str} {lt : Tok} {DT : Addr} {t u : Tok}
    (H : DOk ys i ⟨text, tt, mv, me, hv, hs, he, av, as, ae, tups⟩) (hy : ys[i]? = some y) (hleft : lineOf y = left0)
    (J : DIOk hs as left0 left0.length ⟨hv', hs', he', av', as', ae', left, lt⟩) (hL : left0.length ≤ 31) :
    DOk ys (i + 1) ⟨text ++ left0, tt', mv ++ [.ref DT], me', hv', hs', he', av', as', ae', (DT, { cls := .type "tuple", data := .seq #[.int (text.length : Int) t, .int (left0.length : Int) u] }) :: tups⟩ := by
  obtain ⟨q2, q3, q5, q6, q7, q10, q9⟩ := H
  obtain ⟨r2, r3, r5, r6, r8, r13⟩ := J
  dsimp only at q2 q3 q5 q6 q7 q9 q10 r2 r3 r5 r6 r8 r13
  have ht := take_succ_at hy
  refine ⟨r2, r3, r5, ?_, ?_, ?_, ?_⟩ <;> dsimp only
  · rw [ht, allH_snoc, ← q6, hleft]
    dsimp only
    rw [← r6]
  · rw [ht, textOf_snoc, ← q7, hleft]
  · omega
  · rw [ht, membersOf_snoc, hleft, ← q7]
    exact TupsAre.snoc (t := t) (u := u) (e := 0) (TupsAre.mono q9 fun p hp => .tail _ hp) (.head _)
end

/- part P6 -/
section
open PySem PySem.W PyProof.Rows PySem.Calls
theorem ints_pick {vs : List Value} {ns : List Int} (hi : IntsAre vs ns) : ∀ idx : List Nat, ∃ ms : List Int, IntsAre (idx.filterMap (vs.toArray[·]?)) ms
  | [] => ⟨[], .nil⟩
  | i :: r => by
    obtain ⟨ms, hm⟩ := ints_pick hi r
    by_cases h : i < ns.length
    · obtain ⟨t, ht⟩ := hi.get i ns[i] (by simp [h])
      refine ⟨ns[i] :: ms, ?_⟩
      rw [List.filterMap_cons, show vs.toArray[i]? = some (.int ns[i] t) from by simpa using ht]
      exact .cons _ _ hm
    · refine ⟨ms, ?_⟩
      have hl := hi.length
      rw [List.filterMap_cons, show vs.toArray[i]? = none from by simp; omega]
      exact hm
theorem slice_ints {vs : List Value} {ns : List Int} (hi : IntsAre vs ns) (lo h st : Option Int) : ∃ ms : List Int, IntsAre (slicePick vs.toArray lo h st).toList ms := by
  unfold slicePick
  obtain ⟨ms, hm⟩ := ints_pick hi (sliceRange (sliceBounds lo h st vs.toArray.size).1 (sliceBounds lo h st vs.toArray.size).2.1 (sliceBounds lo h st vs.toArray.size).2.2)
  exact ⟨ms, by simpa using hm⟩
section
variable {prog : Program} {w : World} {A : Around} {E : Value → Shared → Prop} {s : Shared} {h₀ : Heap} {L D : Addr} {m : Str → Option Value} {news : List (Addr × Obj)} {vs : List Value} {ns : List Int} {n : Nat}
/-- the sum of a part of a list of ints: some int -/
theorem led_sumPick {lo hi' st : Option Int} {Q : Value → Shared → Prop} (hh : A.handled = none) (F : Fr h₀ L s.heap m) (N : News h₀ L s.heap news) (hm : (D, ({ cls := .type "list", data := .seq (slicePick vs.toArray lo hi' st) n } : Obj)) ∈ news) (hi : IntsAre vs ns)
    (h : ∀ d h' tk t', Fr h₀ L h' m → News h₀ L h' news → Q (.int d t') { s with heap := h', toks := tk }) : wpAny (model prog w) A (call (.builtin "sum") [.ref D]) Q E s := by
  obtain ⟨ms, hms⟩ := slice_ints hi lo hi' st
  exact sumK hh F N (vs := (slicePick vs.toArray lo hi' st).toList) (by have := PySem.IsL.isList (n := n) (N _ hm).1; simpa using this) hms fun h' tk t' F' N' => h _ h' tk t' F' N'
end
theorem tups_get {tups : List (Addr × Obj)} {mv : List Value} {ps : List (Nat × Nat)} (h : TupsAre tups mv ps) : ∀ {k : Nat}, k < mv.length → ∃ a i j t u e, mv[k]? = some (.ref a) ∧ ps[k]? = some (i, j) ∧ (a, ({ cls := .type "tuple", data := .seq #[.int (i : Int) t, .int (j : Int) u] e } : Obj)) ∈ tups := by
  induction h with
  | nil => intro k hk; simp at hk
  | @cons a i j t u e vs ps hm _ ih =>
    intro k hk
    cases k with
    | zero => exact ⟨a, i, j, t, u, e, rfl, rfl, hm⟩
    | succ k =>
      obtain ⟨a, i, j, t, u, e, h1, h2, h3⟩ := ih (k := k) (by simpa using hk)
      exact ⟨a, i, j, t, u, e, by simpa using h1, by simpa using h2, h3⟩
section
variable {prog : Program} {w : World} {A : Around} {E : Value → Shared → Prop} {s : Shared} {h₀ : Heap} {L D : Addr} {m : Str → Option Value}
theorem base_len {mv : List Value} {Q : Value → Shared → Prop} (F : Fr h₀ L s.heap m) (hl : h₀.IsList D mv.toArray) (hz : mv.length ≤ 100000) (h : ∀ t tk, Q (.int (mv.length : Int) t) { s with toks := tk }) : wpAny (model prog w) A (call (.builtin "len") [.ref D]) Q E s := by
  have hls : s.heap.IsList D mv.toArray := hl.at fun o e => F.keep D o e
  have := h (s.toks + 1) (s.toks + 1 + 1)
  exact call_len_list hls (by simp; omega) (by simpa using this)
/-- a pair of a list of pairs that stands in the base -/
theorem base_pair {tups : List (Addr × Obj)} {mv : List Value} {ps : List (Nat × Nat)} {value slice : PySem.Expr} {k : Int} {u : Tok} {Q : Value → Shared → Prop} (F : Fr h₀ L s.heap m) (hl : h₀.IsList D mv.toArray) (ht : TupsAre tups mv ps) (hb : ∀ p ∈ tups, h₀.get? p.1 = some p.2) (h0 : 0 ≤ k) (h1 : k < mv.length) (hfit : k < 2 ^ 63)
    (h : ∀ a i j t1 t2, (i, j) ∈ ps → IsTup h₀ a #[.int (i : Int) t1, .int (j : Int) t2] → Q (.ref a) s)
    (hs : subscripted slice false (.ref D) (.int k u) = operate [.ref D, .int k u] (getItem (.ref D) (.int k u)) := by with_unfolding_all rfl) :
    wpAny (model prog w) A (subscriptTail value slice (.ref D) (.int k u)) Q E s := by
  have hls : s.heap.IsList D mv.toArray := hl.at fun o e => F.keep D o e
  obtain ⟨a, i, j, t1, t2, e, e1, e2, e3⟩ := tups_get ht (k := k.toNat) (by omega)
  exact tail_any hls.typeIs slot_list_getitem.lookup (wpAny_getItem_list hls h0 hfit (by simpa using e1) (h a i j t1 t2 (List.mem_of_getElem? e2) ⟨_, hb _ e3, rfl, e, rfl⟩)) hs
end
end

/- part P7 -/
section
open PySem PySem.W PyProof.Rows PySem.Calls
theorem fmod_fit {x b : Int} (h : 0 < b) (h5 : b ≤ 5) : x.fmod b < 2 ^ 63 := by have := Int.fmod_lt_of_pos x h; omega
structure HS where
  vals : List Value
  ns : List Int
  e : Nat
def HOk (size : Nat) (c : HS) : Prop := IntsAre c.vals c.ns ∧ c.ns.length = size ∧ ∀ b ∈ c.ns, 0 ≤ b ∧ b ≤ 1
theorem more_at {a b c : Int} {t u v : Tok} {i : Nat} {x : Value} (h : [Value.int a t, Value.int b u, Value.int c v][i]? = some x) : i < 3 ∧ ∃ m tm, x = .int m tm := by
  match i, h with
  | 0, h => exact ⟨by omega, _, _, (Option.some.inj h).symm⟩
  | 1, h => exact ⟨by omega, _, _, (Option.some.inj h).symm⟩
  | 2, h => exact ⟨by omega, _, _, (Option.some.inj h).symm⟩
theorem HOk.turned {size : Nat} {vals : List Value} {ns : List Int} {e : Nat} {k : Int} {u : Tok} (h : HOk size ⟨vals, ns, e⟩) (h0 : 0 ≤ k) (h1 : k < size) : HOk size ⟨vals.set k.toNat (.int (1 - ns.getD k.toNat 0) u), ns.set k.toNat (1 - ns.getD k.toNat 0), e⟩ := by
  obtain ⟨a, b, c⟩ := h
  dsimp only at a b c
  refine ⟨ints_set a _, by dsimp only; rw [List.length_set]; exact b, ?_⟩
  intro q hq
  rcases List.mem_or_eq_of_mem_set hq with h | h
  · exact c q h
  · have hg : ns.getD k.toNat 0 ∈ ns := by
      rw [List.getD_eq_getElem?_getD, List.getElem?_eq_getElem (by omega)]
      exact List.getElem_mem _
    have := c _ hg
    subst h; omega
theorem ints_item {vs : List Value} {ns : List Int} (h : IntsAre vs ns) {i : Nat} {v : Value} (hv : vs[i]? = some v) : ∃ n t, n ∈ ns ∧ v = .int n t := by
  have hl := h.length
  have hlt : i < vs.length := by
    rcases Nat.lt_or_ge i vs.length with q | q
    · exact q
    · rw [List.getElem?_eq_none q] at hv; cases hv
  obtain ⟨t, ht⟩ := h.get i ns[i] (by simp [show i < ns.length by omega])
  refine ⟨ns[i], t, List.getElem_mem _, ?_⟩
  rw [ht] at hv
  exact (Option.some.inj hv).symm
theorem powers_ok {vs : List Value} (h : (∃ t, vs = [.int 0 t]) ∨ ∃ t0 t1 t2 t3 t4 t5 t6 t7 t8 t9 ta tb tc td te, vs = [.int 0 t0, .int 6 t1, .int 9 t2, .int 10 t3, .int 16 t4, .int 20 t5, .int 21 t6, .int 22 t7, .int 24 t8, .int 25 t9, .int 27 ta, .int 28 tb, .int 30 tc, .int 31 td, .int 32 te]) : ∃ ns, IntsAre vs ns ∧ ∀ p ∈ ns, 0 ≤ p ∧ p ≤ 32 := by
  rcases h with ⟨t, rfl⟩ | ⟨t0, t1, t2, t3, t4, t5, t6, t7, t8, t9, ta, tb, tc, td, te, rfl⟩
  · exact ⟨[0], .cons _ _ .nil, by decide⟩
  · exact ⟨[0, 6, 9, 10, 16, 20, 21, 22, 24, 25, 27, 28, 30, 31, 32], .cons _ _ (.cons _ _ (.cons _ _ (.cons _ _ (.cons _ _ (.cons _ _ (.cons _ _ (.cons _ _ (.cons _ _ (.cons _ _ (.cons _ _ (.cons _ _ (.cons _ _ (.cons _ _ (.cons _ _ .nil)))))))))))))), by decide⟩
theorem power_at {vs : List Value} {i : Nat} {v : Value} (hv : vs[i]? = some v) (h : (∃ t, vs = [.int 0 t]) ∨ ∃ t0 t1 t2 t3 t4 t5 t6 t7 t8 t9 ta tb tc td te, vs = [.int 0 t0, .int 6 t1, .int 9 t2, .int 10 t3, .int 16 t4, .int 20 t5, .int 21 t6, .int 22 t7, .int 24 t8, .int 25 t9, .int 27 ta, .int 28 tb, .int 30 tc, .int 31 td, .int 32 te]) : ∃ pw tp, (0 ≤ pw ∧ pw ≤ 32) ∧ v = .int pw tp := by
  obtain ⟨ns, h1, h2⟩ := powers_ok h
  obtain ⟨pw, tp, hm, e⟩ := ints_item h1 hv
  exact ⟨pw, tp, h2 _ hm, e⟩
theorem ne_stored {st : List Str} {z : Str} (h : st.contains z = false) {a : Str} (ha : a ∈ st) : z ≠ a := by
  rintro rfl
  have := List.contains_iff_mem.mpr ha
  rw [h] at this; cases this
section
variable {prog : Program} {w : World} {A : Around} {E : Value → Shared → Prop} {s : Shared} {env : Env} {h₀ : Heap} {target : PySem.Expr} {x : Str} {body : List Stmt} {Q : Flow → Shared → Prop}
theorem lp_range_H {lH : Addr} {p1 p2 p3 p4 p5 p6 p7 : Addr × Obj} {r : Addr} {t₀ u₀ v₀ : Tok} {m₀ : Str → Option Value} (stored : List Str) (P : Nat → HS → Prop) (c₀ : HS)
    (hh : A.handled = none) (hr : IsRange s.heap r 0 4 1 t₀ u₀ v₀) (F : Fr h₀ env.locals s.heap m₀) (N : News h₀ env.locals s.heap [p1, p2, p3, p4, p5, p6, (lH, W.listOf c₀.vals.toArray c₀.e), p7]) (hp : P 0 c₀)
    (turn : ∀ (c : HS) (i : Nat) t (u : Str → Option Value) h tk I io, i < 4 → P i c → (∀ p ∈ [p1, p2, p3, p4, p5, p6, (lH, W.listOf c.vals.toArray c.e), p7], p.1 ≠ I) → Fr h₀ env.locals h (fun y => if y = x then some (.int (i : Int) t) else kstB (fun z => if stored.contains z then u z else m₀ z) [] y) → News h₀ env.locals h [(I, io), p1, p2, p3, p4, p5, p6, (lH, W.listOf c.vals.toArray c.e), p7] →
      wpAny (model prog w) A (execs body env) (LpPost h₀ env.locals (fun c => [p1, p2, p3, p4, p5, p6, (lH, W.listOf c.vals.toArray c.e), p7]) (fun _ => []) x stored m₀ (P (i + 1)) (I, io) { s with heap := h, toks := tk } Q) E { s with heap := h, toks := tk })
    (done : ∀ (c : HS) (u : Str → Option Value) h tk, P 4 c → Fr h₀ env.locals h (fun y => if y = x then u y else kstB (fun z => if stored.contains z then u z else m₀ z) [] y) → News h₀ env.locals h [p1, p2, p3, p4, p5, p6, (lH, W.listOf c.vals.toArray c.e), p7] → Q .next { s with heap := h, toks := tk }) :
    wpAny (model prog w) A (pyIter (.ref r)) (fun it s₂ => LoopAtV prog w A h₀ env x body Q E it s₂) E s :=
  lp_range (n := 4) (fun c : HS => [p1, p2, p3, p4, p5, p6, (lH, W.listOf c.vals.toArray c.e), p7]) (fun _ => []) stored P c₀ hh hr (small_nat (n := 4) (by omega)) (rs_nat 4) F N (fun p hp => nomatch hp) hp turn done
theorem lp_listN {σ : Type} {l : Addr} {lo : Obj} {vs : List Value} {n : Nat} {m₀ : Str → Option Value} (Led : σ → List (Addr × Obj)) (ps : σ → List (Str × Value)) (stored : List Str) (P : Nat → σ → Prop) (c₀ : σ)
    (hh : A.handled = none) (F : Fr h₀ env.locals s.heap m₀) (N : News h₀ env.locals s.heap (Led c₀)) (hm : ∀ c, (l, lo) ∈ Led c) (hc : lo.cls = .type "list") (hd : lo.data = .seq vs.toArray n) (hk : ∀ p ∈ ps c₀, m₀ p.1 = some p.2) (hp : P 0 c₀)
    (turn : ∀ (c : σ) (i : Nat) v (u : Str → Option Value) h tk I io, vs[i]? = some v → P i c → (∀ p ∈ Led c, p.1 ≠ I) → Fr h₀ env.locals h (fun y => if y = x then some v else kstB (fun z => if stored.contains z then u z else m₀ z) (ps c) y) → News h₀ env.locals h ((I, io) :: Led c) →
      wpAny (model prog w) A (execs body env) (LpPost h₀ env.locals Led ps x stored m₀ (P (i + 1)) (I, io) { s with heap := h, toks := tk } Q) E { s with heap := h, toks := tk })
    (done : ∀ (c : σ) (u : Str → Option Value) h tk, P vs.length c → Fr h₀ env.locals h (fun y => if y = x then u y else kstB (fun z => if stored.contains z then u z else m₀ z) (ps c) y) → News h₀ env.locals h (Led c) → Q .next { s with heap := h, toks := tk }) :
    wpAny (model prog w) A (pyIter (.ref l)) (fun it s₂ => LoopAtV prog w A h₀ env x body Q E it s₂) E s := by
  have hax := N _ (hm c₀)
  have hls : s.heap.IsList l vs.toArray := ⟨lo, hax.1, hc, n, hd⟩
  have hlt : l < s.heap.objs.size := Heap.lt_size hax.1
  have hne : l ≠ s.heap.objs.size := Nat.ne_of_lt hlt
  refine wpAny_pyIter_list hls ?_
  generalize hI : s.heap.objs.size = I at *
  have W := Walks.list (prog := prog) (w := w) hh I l hne vs.toArray
  rw [List.size_toArray] at W
  let J : Nat → (Str → Option Value) → List (Addr × Obj) → Prop := fun i m nx => ∃ c : σ, nx = Led c ∧ (∀ p ∈ ps c, m p.1 = some p.2) ∧ (∀ z, z ≠ x → (∀ p ∈ ps c, z ≠ p.1) → stored.contains z = false → m z = m₀ z) ∧ P i c
  have hI0 : h₀.get? I = none := hI ▸ next_is_new F
  refine ⟨I, [I, l], [I], vs.length, _, _, m₀, Led c₀, J, rfl, W, ?_, ?_, ?_, ⟨⟨_, hI ▸ Heap.get?_push_size _ rfl, rfl, rfl⟩, hls.at fun o e => Heap.get?_push_of_some _ e⟩, F.push _, (fun p hp => ⟨Heap.get?_push_of_some _ (N p hp).1, (N p hp).2⟩), ⟨c₀, rfl, hk, fun _ _ _ _ => rfl, hp⟩, ?_, ?_⟩
  · intro hm
    rcases List.mem_cons.mp hm with e | hm
    · have := F.ns.lt; rw [hI, ← e] at this; exact Nat.lt_irrefl _ this
    · exact hax.2.1 (List.mem_singleton.mp hm).symm
  · intro b hb; rw [List.mem_singleton.mp hb]; exact hI0
  · intro p hp hb
    have := Heap.lt_size (N p hp).1
    rw [hI, List.mem_singleton.mp hb] at this; exact Nat.lt_irrefl _ this
  · rintro i v m₁ news₁ s₁ own ⟨hh', tk', rfl⟩ hin hV ⟨c, rfl, h1, h2, hP⟩ hoff hown howh howf hst' F₁ N₁
    obtain ⟨io, hio, _⟩ := hst'.1
    have hio' : (I, io) ∈ own := howf I (.head _) hI0 io hio
    have hneI : ∀ p ∈ Led c, p.1 ≠ I := fun p hp e => hoff p hp (List.mem_singleton.mpr e)
    have NI : News h₀ env.locals hh' ((I, io) :: Led c) := fun p hp => by
      rcases List.mem_cons.mp hp with rfl | hp
      · exact N₁ _ (List.mem_append_left _ hio')
      · exact N₁ _ (List.mem_append_right _ hp)
    refine wpAny_mono (turn c i v m₁ hh' tk' I io (by simpa using hV) hP hneI (kst_fr h1 h2 F₁) NI) (fun f s₂ p => ?_) fun _ _ e => e
    have fin : LpEnd h₀ env.locals Led ps x stored m₀ (P (i + 1)) (I, io) { s with heap := hh', toks := tk' } s₂ → LoopStepU h₀ env.locals [I] own (J (i + 1)) { s with heap := hh', toks := tk' } .next s₂ := by
      rintro ⟨h', tk, m', news', c', e, F', N', hn, hq, ho, hk', hr', hP'⟩
      refine ⟨rfl, h', tk, m', Led c', e, F', fun p hp => ?_, fun p hp hq => ho p hp (List.mem_singleton.mp hq), c', rfl, hk', hr', hP'⟩
      rcases List.mem_append.mp hp with hp | hp
      · have hg := (N₁ p (List.mem_append_left _ hp)).1
        rcases List.mem_cons.mp (hown p hp) with e1 | e1
        · have : p = (I, io) := by
            refine Prod.ext e1 ?_
            rw [e1] at hg
            exact Option.some.inj (hg.symm.trans hio)
          rw [this]; exact N' _ hq
        · have e2 := List.mem_singleton.mp e1
          have : p = (l, lo) := by
            refine Prod.ext e2 ?_
            rw [e2] at hg
            exact Option.some.inj (hg.symm.trans (N₁ _ (List.mem_append_right _ (hm c))).1)
          rw [this]; exact N' _ (hn _ (hm c'))
      · exact N' _ (hn p hp)
    cases f with
    | ret v => exact .ret p
    | brk => exact .brk p
    | next => exact .next (fin p)
    | cont => exact .cont (fin p)
  · rintro h' tk m' news' F' N' _ ⟨c, rfl, h1, h2, hP⟩
    exact done c m' h' tk hP (kst_frOut h1 h2 F') N'
theorem below_size {L lH : Addr} {o : Obj} {news : List (Addr × Obj)} {h : Heap} {Q : Value → Shared → Prop} {f : Value} (N : News h₀ L h news) (hm : (lH, o) ∈ news) (hk : lH < h.objs.size → wpAny (model prog w) A (call f [.ref (h.objs.size + 1)]) Q E s) : wpAny (model prog w) A (call f [.ref (h.objs.size + 1)]) Q E s := hk (Heap.lt_size (N _ hm).1)
theorem lp_listN_H {lH lP : Addr} {oP : Obj} {p0 p2 p3 p4 p5 p6 p7 : Addr × Obj} {vs : List Value} {n : Nat} {m₀ : Str → Option Value} (stored : List Str) (P : Nat → HS → Prop) (c₀ : HS)
    (hh : A.handled = none) (F : Fr h₀ env.locals s.heap m₀) (N : News h₀ env.locals s.heap [p0, (lP, oP), p2, p3, p4, p5, p6, (lH, W.listOf c₀.vals.toArray c₀.e), p7]) (hc : oP.cls = .type "list") (hd : oP.data = .seq vs.toArray n) (hP0 : P 0 c₀)
    (turn : ∀ (c : HS) (i : Nat) v (u : Str → Option Value) h tk I io, vs[i]? = some v → P i c → (∀ p ∈ [p0, (lP, oP), p2, p3, p4, p5, p6, (lH, W.listOf c.vals.toArray c.e), p7], p.1 ≠ I) → Fr h₀ env.locals h (fun y => if y = x then some v else kstB (fun z => if stored.contains z then u z else m₀ z) [] y) → News h₀ env.locals h [(I, io), p0, (lP, oP), p2, p3, p4, p5, p6, (lH, W.listOf c.vals.toArray c.e), p7] →
      wpAny (model prog w) A (execs body env) (LpPost h₀ env.locals (fun c => [p0, (lP, oP), p2, p3, p4, p5, p6, (lH, W.listOf c.vals.toArray c.e), p7]) (fun _ => []) x stored m₀ (P (i + 1)) (I, io) { s with heap := h, toks := tk } Q) E { s with heap := h, toks := tk })
    (done : ∀ (c : HS) (u : Str → Option Value) h tk, P vs.length c → Fr h₀ env.locals h (fun y => if y = x then u y else kstB (fun z => if stored.contains z then u z else m₀ z) [] y) → News h₀ env.locals h [p0, (lP, oP), p2, p3, p4, p5, p6, (lH, W.listOf c.vals.toArray c.e), p7] → Q .next { s with heap := h, toks := tk }) :
    wpAny (model prog w) A (pyIter (.ref lP)) (fun it s₂ => LoopAtV prog w A h₀ env x body Q E it s₂) E s :=
  lp_listN (fun c : HS => [p0, (lP, oP), p2, p3, p4, p5, p6, (lH, W.listOf c.vals.toArray c.e), p7]) (fun _ => []) stored P c₀ hh F N (fun _ => .tail _ (.head _)) hc hd (fun p hp => nomatch hp) hP0 turn done
end
end

/- part P8 -/
section
open PySem PySem.W PyProof.Rows
/-- the reflected step -/
def gN (c : Nat) : Nat := (c / 2) ^^^ (if c % 2 = 1 then 3988292384 else 0)
def gIt (c : Nat) : Nat → Nat
  | 0 => c
  | n + 1 => gN (gIt c n)
theorem tb_ite (b : Prop) [Decidable b] (x i : Nat) : (if b then x else 0).testBit i = (decide b && x.testBit i) := by
  split <;> simp [*]
theorem gN_tb (c i : Nat) : (gN c).testBit i = (c.testBit (i + 1) ^^ (c.testBit 0 && (3988292384 : Nat).testBit i)) := by
  unfold gN
  rw [Nat.testBit_xor, tb_ite, ← Nat.testBit_succ, Nat.testBit_zero]
theorem gN_xor (a b : Nat) : gN (a ^^^ b) = gN a ^^^ gN b := by
  apply Nat.eq_of_testBit_eq
  intro i
  rw [Nat.testBit_xor, gN_tb, gN_tb, gN_tb, Nat.testBit_xor, Nat.testBit_xor]
  cases a.testBit (i + 1) <;> cases b.testBit (i + 1) <;> cases a.testBit 0 <;> cases b.testBit 0 <;> cases (3988292384 : Nat).testBit i <;> rfl
theorem gN_even (c : Nat) : gN (2 * c) = c := by
  unfold gN
  rw [if_neg (by omega), Nat.xor_zero]; omega
theorem gIt_xor (a b : Nat) : ∀ n, gIt (a ^^^ b) n = gIt a n ^^^ gIt b n
  | 0 => rfl
  | n + 1 => by show gN _ = gN _ ^^^ gN _; rw [gIt_xor a b n, gN_xor]
theorem gIt_shift : ∀ (n c : Nat), gIt (2 ^ n * c) n = c
  | 0, c => by simp [gIt]
  | n + 1, c => by
    show gN (gIt (2 ^ (n + 1) * c) n) = c
    rw [show 2 ^ (n + 1) * c = 2 ^ n * (2 * c) from by rw [Nat.pow_succ]; ac_rfl, gIt_shift n, gN_even]
/-- one bit read -/
def gB (c b : Nat) : Nat := gN (c ^^^ b)
/-- the law's step, reflected -/
structure Rev (r c : Nat) : Prop where
  rlt : r < 4294967296
  clt : c < 4294967296
  e : ∀ i, i < 32 → c.testBit i = r.testBit (31 - i)
theorem poly_rev : ∀ i, i < 32 → (3988292384 : Nat).testBit i = (79764919 : Nat).testBit (31 - i) := by decide
theorem lead_bit {r b : Nat} (hr : r < 4294967296) (hb : b ≤ 1) : r / 2147483648 ^^^ b = if (r.testBit 31 ^^ b.testBit 0) = true then 1 else 0 := by
  have h1 : r.testBit 31 = decide (r / 2147483648 = 1) := by
    rw [Nat.testBit_eq_decide_div_mod_eq]
    have : r / 2 ^ 31 < 2 := by omega
    have e : (r / 2 ^ 31) % 2 = r / 2147483648 := by omega
    rw [e]
  have h2 : r / 2147483648 = 0 ∨ r / 2147483648 = 1 := by omega
  have h3 : b = 0 ∨ b = 1 := by omega
  rw [h1]
  rcases h2 with h2 | h2 <;> rcases h3 with rfl | rfl <;> rw [h2] <;> decide
theorem gB_lt {c b : Nat} (hc : c < 4294967296) (hb : b ≤ 1) : gB c b < 4294967296 := by
  unfold gB gN
  have h : c ^^^ b < 2 ^ 32 := Nat.xor_lt_two_pow (by omega) (by omega)
  refine Nat.xor_lt_two_pow (n := 32) (by omega) (by split <;> omega)
theorem Rev.step {r c b : Nat} (h : Rev r c) (hb : b ≤ 1) : Rev (rStepN r b) (gB c b) := by
  refine ⟨rStepN_lt h.rlt hb, gB_lt h.clt hb, fun i hi => ?_⟩
  unfold gB rStepN
  rw [gN_tb, lead_bit h.rlt hb, Nat.testBit_xor, Nat.testBit_xor, Nat.testBit_xor]
  have hb1 : b.testBit (i + 1) = false := by
    apply Nat.testBit_lt_two_pow
    have : 2 ^ 1 ≤ 2 ^ (i + 1) := Nat.pow_le_pow_right (by omega) (by omega)
    omega
  have e1 : (r * 2 % 4294967296).testBit (31 - i) = c.testBit (i + 1) := by
    rw [show (4294967296 : Nat) = 2 ^ 32 from rfl, Nat.testBit_mod_two_pow]
    by_cases h31 : i = 31
    · subst h31
      rw [Nat.testBit_lt_two_pow (x := c) (i := 31 + 1) (by have := h.clt; omega)]
      simp [Nat.testBit_zero]
    · obtain ⟨j, hj⟩ : ∃ j, 31 - i = j + 1 := ⟨30 - i, by omega⟩
      rw [h.e (i + 1) (by omega), hj, Nat.testBit_succ, show r * 2 / 2 = r from by omega, show 31 - (i + 1) = j from by omega]
      simp; omega
  have e2 : c.testBit 0 = r.testBit 31 := h.e 0 (by omega)
  rw [hb1, e1, e2, poly_rev i hi, Bool.xor_false]
  congr 1
  cases r.testBit 31 ^^ b.testBit 0 <;> simp
theorem Rev.inj {r r' c : Nat} (h : Rev r c) (h' : Rev r' c) : r = r' := by
  apply Nat.eq_of_testBit_eq
  intro i
  by_cases hi : i < 32
  · have := h.e (31 - i) (by omega)
    have h2 := h'.e (31 - i) (by omega)
    rw [show 31 - (31 - i) = i from by omega] at this h2
    rw [← this, ← h2]
  · have hp : 2 ^ 32 ≤ 2 ^ i := Nat.pow_le_pow_right (by omega) (by omega)
    rw [Nat.testBit_lt_two_pow (by have := h.rlt; omega), Nat.testBit_lt_two_pow (by have := h'.rlt; omega)]
theorem Rev.inj' {r c c' : Nat} (h : Rev r c) (h' : Rev r c') : c = c' := by
  apply Nat.eq_of_testBit_eq
  intro i
  by_cases hi : i < 32
  · rw [h.e i hi, h'.e i hi]
  · have hp : 2 ^ 32 ≤ 2 ^ i := Nat.pow_le_pow_right (by omega) (by omega)
    rw [Nat.testBit_lt_two_pow (by have := h.clt; omega), Nat.testBit_lt_two_pow (by have := h'.clt; omega)]
theorem Rev.fold : ∀ (bs : List Nat) {r c : Nat}, Rev r c → (∀ b ∈ bs, b ≤ 1) → Rev (bs.foldl rStepN r) (bs.foldl gB c)
  | [], _, _, h, _ => h
  | b :: bs, _, _, h, hb => Rev.fold bs (h.step (hb b (List.mem_cons_self ..))) fun x hx => hb x (List.mem_cons_of_mem _ hx)
theorem pick_bit (c : Bool) (i : Nat) : ((if c = true then 1 else 0) * 79764919).testBit i = (c && Nat.testBit 79764919 i) := by
  cases c
  · show (0 * 79764919).testBit i = false
    rw [Nat.zero_mul]; exact Nat.zero_testBit i
  · show (1 * 79764919).testBit i = Nat.testBit 79764919 i
    rw [Nat.one_mul]
theorem bits_lin : ∀ p1 p2 p3 p4 p5 p6 p7 p8 p9 : Bool, (p1 && (p2 && (p3 ^^ p4)) ^^ ((p5 ^^ p6 ^^ (p7 ^^ p8)) && p9)) = (p1 && (p2 && p3) ^^ ((p5 ^^ p7) && p9) ^^ (p1 && (p2 && p4) ^^ ((p6 ^^ p8) && p9))) := by decide +kernel
/-- the division is linear -/
theorem rStepN_xor {r r' b b' : Nat} (hr : r < 4294967296) (hr' : r' < 4294967296) (hb : b ≤ 1) (hb' : b' ≤ 1) : rStepN (r ^^^ r') (b ^^^ b') = rStepN r b ^^^ rStepN r' b' := by
  have hx : r ^^^ r' < 4294967296 := Nat.xor_lt_two_pow (n := 32) hr hr'
  have hy : b ^^^ b' ≤ 1 := Nat.le_of_lt_succ (Nat.xor_lt_two_pow (n := 1) (by omega) (by omega))
  apply Nat.eq_of_testBit_eq
  intro i
  unfold rStepN
  rw [lead_bit hr hb, lead_bit hr' hb', lead_bit hx hy]
  have e : ∀ z : Nat, (z * 2 % 4294967296).testBit i = (decide (i < 32) && (decide (1 ≤ i) && z.testBit (i - 1))) := by
    intro z
    rw [show (4294967296 : Nat) = 2 ^ 32 from rfl, Nat.testBit_mod_two_pow]
    congr 1
    cases i with
    | zero => simp [Nat.testBit_zero]
    | succ j => rw [Nat.testBit_succ, show z * 2 / 2 = z from by omega]; simp
  simp only [Nat.testBit_xor, e]
  simp only [pick_bit]
  generalize decide (i < 32) = p1
  generalize decide (1 ≤ i) = p2
  generalize r.testBit (i - 1) = p3
  generalize r'.testBit (i - 1) = p4
  generalize r.testBit 31 = p5
  generalize r'.testBit 31 = p6
  generalize b.testBit 0 = p7
  generalize b'.testBit 0 = p8
  generalize Nat.testBit 79764919 i = p9
  exact bits_lin p1 p2 p3 p4 p5 p6 p7 p8 p9
theorem fold_xor : ∀ (bs hs : List Nat) {r r' : Nat}, bs.length = hs.length → r < 4294967296 → r' < 4294967296 → (∀ b ∈ bs, b ≤ 1) → (∀ b ∈ hs, b ≤ 1) →
    (List.zipWith (· ^^^ ·) bs hs).foldl rStepN (r ^^^ r') = bs.foldl rStepN r ^^^ hs.foldl rStepN r'
  | [], [], _, _, _, _, _, _, _ => rfl
  | b :: bs, h :: hs, r, r', hl, hr, hr', hb, hh => by
    have hb1 := hb b (List.mem_cons_self ..)
    have hh1 := hh h (List.mem_cons_self ..)
    show (List.zipWith (· ^^^ ·) bs hs).foldl rStepN (rStepN (r ^^^ r') (b ^^^ h)) = _
    rw [rStepN_xor hr hr' hb1 hh1]
    exact fold_xor bs hs (by simpa using hl) (rStepN_lt hr hb1) (rStepN_lt hr' hh1) (fun x hx => hb x (List.mem_cons_of_mem _ hx)) fun x hx => hh x (List.mem_cons_of_mem _ hx)
theorem xor_eq_self {a b : Nat} : a ^^^ b = a ↔ b = 0 := by
  constructor
  · intro h
    have : a ^^^ (a ^^^ b) = a ^^^ a := by rw [h]
    rwa [← Nat.xor_assoc, Nat.xor_self, Nat.zero_xor] at this
  · rintro rfl; exact Nat.xor_zero a
theorem ones_rev : Rev 4294967295 4294967295 := ⟨by omega, by omega, by decide⟩
end

/- part P9 -/
section
open PySem PySem.W PyProof.Rows
def octI (ch : Nat) (ns : List Int) (i : Nat) : Int := Builtin.bitXor (ch : Int) (List.map (fun k' : Int => ns.getD (8 * (i : Int) + k').toNat 0 * 2 ^ k'.toNat) (rangeKs 0 ((8 : Int) - 0).toNat)).sum
def readI (x : Str) (ns : List Int) : Nat → Int
  | 0 => 2 ^ Int.toNat 32 - 1
  | i + 1 => Builtin.bitXor ((readI x ns i).fdiv (2 ^ Int.toNat 8)) (gRun (Builtin.bitAnd (Builtin.bitXor (readI x ns i) (octI (x.cps.getD i 0) ns i)) 255) 8)
def bitsI (c : Nat) : List Int := (List.range 8).map fun j => ((c / 2 ^ j % 2 : Nat) : Int)
theorem bitsI_len (c : Nat) : (bitsI c).length = 8 := by simp [bitsI]
theorem bitsI_at (c : Nat) {j : Nat} (h : j < 8) : (bitsI c).getD j 0 = ((c / 2 ^ j % 2 : Nat) : Int) := by
  simp [bitsI, List.getD_eq_getElem?_getD, h]
theorem bit_eq (c : Nat) {j : Nat} (h : j < 8) : Builtin.bitAnd ((c : Int).fdiv (2 ^ (j : Int).toNat)) 1 = (bitsI c).getD j 0 := by
  rw [bitsI_at c h, Int.toNat_natCast]
  have e : (c : Int).fdiv (2 ^ j) = ((c / 2 ^ j : Nat) : Int) := by
    rw [Int.fdiv_eq_ediv_of_nonneg _ (Int.pow_nonneg (by omega))]
    rw [Int.natCast_ediv, Int.natCast_pow]; rfl
  rw [e, show (1 : Int) = ((1 : Nat) : Int) from rfl, band_nat, Nat.and_one_is_mod]
theorem bitsI_le {x : List Nat} : ∀ b ∈ x.flatMap bitsI, (0 : Int) ≤ b ∧ b ≤ 1 := by
  intro b hb
  obtain ⟨c, _, hc⟩ := List.mem_flatMap.mp hb
  obtain ⟨j, _, rfl⟩ := List.mem_map.mp hc
  omega
def sumI (rest : Int) : Int := (List.foldl (fun (l' : List Int) (k' : Int) => if Builtin.bitAnd (rest.fdiv (2 ^ (31 - k').toNat)) 1 = 0 then l' ++ [1 * 2 ^ k'.toNat] else l') [] (rangeKs 0 ((32 : Int) - 0).toNat)).sum
end

/- part P10 -/
section
open PySem PySem.W PyProof.Rows
theorem gStep_nat (c : Nat) : gStep (c : Int) = ((gN c : Nat) : Int) := by
  unfold gStep gN
  have e1 : (c : Int).fdiv 2 = ((c / 2 : Nat) : Int) := by rw [Int.fdiv_eq_ediv_of_nonneg _ (by omega)]; omega
  rw [show (1 : Int) = ((1 : Nat) : Int) from rfl, band_nat, Nat.and_one_is_mod, e1]
  rcases Nat.mod_two_eq_zero_or_one c with h | h <;> rw [h]
  · rw [if_pos (show ((0 : Nat) : Int) = 0 from rfl), if_neg (by omega), Nat.xor_zero]
  · rw [if_neg (by decide), if_pos rfl, show (3988292384 : Int) = ((3988292384 : Nat) : Int) from rfl, bx_nat]
theorem gRun_nat (c : Nat) : ∀ n, gRun (c : Int) n = ((gIt c n : Nat) : Int)
  | 0 => rfl
  | n + 1 => by show gStep (gRun (c : Int) n) = _; rw [gRun_nat c n, gStep_nat]; rfl
def bitsN (n o : Nat) : List Nat := (List.range n).map fun t => o / 2 ^ t % 2
theorem bitsN_succ (n o : Nat) : bitsN (n + 1) o = bitsN n o ++ [o / 2 ^ n % 2] := by
  simp [bitsN, List.range_succ]
theorem bitsN_len (n o : Nat) : (bitsN n o).length = n := by simp [bitsN]
theorem bitsN_le (n o : Nat) : ∀ b ∈ bitsN n o, b ≤ 1 := by
  intro b hb
  obtain ⟨t, _, rfl⟩ := List.mem_map.mp hb
  omega
theorem split_bit (q : Nat) : q = (q % 2) ^^^ (2 * (q / 2)) := by
  apply Nat.eq_of_testBit_eq
  intro i
  rw [Nat.testBit_xor]
  cases i with
  | zero => simp only [Nat.testBit_zero]; rcases Nat.mod_two_eq_zero_or_one q with h | h <;> simp [h, Nat.mul_mod_right]
  | succ i =>
    rw [Nat.testBit_succ, Nat.testBit_succ, Nat.testBit_succ, show q % 2 / 2 = 0 from by omega, show 2 * (q / 2) / 2 = q / 2 from by omega]
    simp
theorem fold_oct (s o : Nat) : ∀ n, (bitsN n o).foldl gB s ^^^ (o / 2 ^ n) = gIt (s ^^^ o) n
  | 0 => by simp [bitsN, gIt]
  | n + 1 => by
    have ih := fold_oct s o n
    rw [bitsN_succ, List.foldl_append]
    show gN ((bitsN n o).foldl gB s ^^^ (o / 2 ^ n % 2)) ^^^ (o / 2 ^ (n + 1)) = gN (gIt (s ^^^ o) n)
    rw [← ih]
    generalize (bitsN n o).foldl gB s = Z
    have e : o / 2 ^ (n + 1) = o / 2 ^ n / 2 := by rw [Nat.pow_succ, Nat.div_div_eq_div_mul]
    rw [e]
    generalize o / 2 ^ n = q
    conv => rhs; rw [split_bit q, ← Nat.xor_assoc, gN_xor, gN_even]
theorem and255 (y : Nat) : y = (y &&& 255) ^^^ (2 ^ 8 * (y / 256)) := by
  apply Nat.eq_of_testBit_eq
  intro i
  rw [Nat.testBit_xor, Nat.testBit_and, show (255 : Nat) = 2 ^ 8 - 1 from rfl, Nat.testBit_two_pow_sub_one, Nat.testBit_two_pow_mul, show (256 : Nat) = 2 ^ 8 from rfl, Nat.testBit_div_two_pow]
  by_cases h : i < 8
  · simp [h, show ¬ 8 ≤ i from by omega]
  · simp [h, show 8 ≤ i from by omega, show i - 8 + 8 = i from by omega]
theorem oct_step {s o : Nat} (ho : o < 256) : (s / 256) ^^^ gIt ((s ^^^ o) &&& 255) 8 = (bitsN 8 o).foldl gB s := by
  have h1 := fold_oct s o 8
  rw [show o / 2 ^ 8 = 0 from by omega, Nat.xor_zero] at h1
  rw [h1]
  conv => rhs; rw [and255 (s ^^^ o), gIt_xor, gIt_shift]
  have : (s ^^^ o) / 256 = s / 256 := by
    apply Nat.eq_of_testBit_eq
    intro i
    rw [show (256 : Nat) = 2 ^ 8 from rfl, Nat.testBit_div_two_pow, Nat.testBit_div_two_pow, Nat.testBit_xor, Nat.testBit_lt_two_pow (x := o) (i := i + 8), Bool.xor_false]
    have : 2 ^ 8 ≤ 2 ^ (i + 8) := Nat.pow_le_pow_right (by omega) (by omega)
    omega
  rw [this, Nat.xor_comm]
theorem bits_xor (a b : Nat) : ∀ n, bitsN n (a ^^^ b) = List.zipWith (· ^^^ ·) (bitsN n a) (bitsN n b) := by
  intro n
  apply List.ext_getElem?
  intro i
  by_cases h : i < n
  · simp only [bitsN, List.getElem?_map, List.getElem?_zipWith, List.getElem?_range h, Option.map_some]
    congr 1
    rw [← Nat.toNat_testBit, ← Nat.toNat_testBit, ← Nat.toNat_testBit, Nat.testBit_xor]
    cases a.testBit i <;> cases b.testBit i <;> rfl
  · rw [List.getElem?_eq_none (by rw [bitsN_len]; omega), List.getElem?_eq_none (by simp [bitsN_len]; omega)]
/-- eight bits as an octet -/
def octN (hs : List Nat) : Nat := hs.getD 0 0 + hs.getD 1 0 * 2 + hs.getD 2 0 * 4 + hs.getD 3 0 * 8 + hs.getD 4 0 * 16 + hs.getD 5 0 * 32 + hs.getD 6 0 * 64 + hs.getD 7 0 * 128
theorem bit_of {a : Nat} (h : a ≤ 1) : ∃ x : Bool, a = x.toNat := by
  rcases Nat.le_one_iff_eq_zero_or_eq_one.mp h with rfl | rfl
  · exact ⟨false, rfl⟩
  · exact ⟨true, rfl⟩
theorem octN_bools : ∀ a b c d e f g h : Bool, octN [a.toNat, b.toNat, c.toNat, d.toNat, e.toNat, f.toNat, g.toNat, h.toNat] < 256 ∧ bitsN 8 (octN [a.toNat, b.toNat, c.toNat, d.toNat, e.toNat, f.toNat, g.toNat, h.toNat]) = [a.toNat, b.toNat, c.toNat, d.toNat, e.toNat, f.toNat, g.toNat, h.toNat] := by decide +kernel
theorem octN_bits {a b c d e f g h : Nat} (ha : a ≤ 1) (hb : b ≤ 1) (hc : c ≤ 1) (hd : d ≤ 1) (he : e ≤ 1) (hf : f ≤ 1) (hg : g ≤ 1) (hh : h ≤ 1) :
    octN [a, b, c, d, e, f, g, h] < 256 ∧ bitsN 8 (octN [a, b, c, d, e, f, g, h]) = [a, b, c, d, e, f, g, h] := by
  obtain ⟨a, rfl⟩ := bit_of ha
  obtain ⟨b, rfl⟩ := bit_of hb
  obtain ⟨c, rfl⟩ := bit_of hc
  obtain ⟨d, rfl⟩ := bit_of hd
  obtain ⟨e, rfl⟩ := bit_of he
  obtain ⟨f, rfl⟩ := bit_of hf
  obtain ⟨g, rfl⟩ := bit_of hg
  obtain ⟨h, rfl⟩ := bit_of hh
  exact octN_bools a b c d e f g h
theorem oct_list {hs : List Nat} (hl : hs.length = 8) (hb : ∀ b ∈ hs, b ≤ 1) : octN hs < 256 ∧ bitsN 8 (octN hs) = hs := by
  match hs, hl with
  | [a, b, c, d, e, f, g, h], _ => exact octN_bits (hb a (by simp)) (hb b (by simp)) (hb c (by simp)) (hb d (by simp)) (hb e (by simp)) (hb f (by simp)) (hb g (by simp)) (hb h (by simp))
theorem rks (n : Nat) (a : Int) : rangeKs a n = (List.range n).map fun j : Nat => a + (j : Int) := rfl
theorem getD_nat (hs : List Nat) (k : Nat) : (hs.map fun (n : Nat) => (n : Int)).getD k 0 = ((hs.getD k 0 : Nat) : Int) := by
  simp only [List.getD_eq_getElem?_getD, List.getElem?_map]
  cases hs[k]? <;> rfl
theorem getD_take_drop (hs : List Nat) (a k : Nat) (hk : k < 8) : ((hs.drop a).take 8).getD k 0 = hs.getD (a + k) 0 := by
  simp only [List.getD_eq_getElem?_getD, List.getElem?_take, List.getElem?_drop, if_pos hk]
theorem octI_nat {ch i : Nat} {hs : List Nat} : octI ch (hs.map fun (n : Nat) => (n : Int)) i = ((ch ^^^ octN ((hs.drop (8 * i)).take 8) : Nat) : Int) := by
  unfold octI
  have e : (List.map (fun k' : Int => (hs.map fun (n : Nat) => (n : Int)).getD (8 * (i : Int) + k').toNat 0 * 2 ^ k'.toNat) (rangeKs 0 ((8 : Int) - 0).toNat)).sum = ((octN ((hs.drop (8 * i)).take 8) : Nat) : Int) := by
    rw [show ((8 : Int) - 0).toNat = 8 from rfl, rks]
    rw [show List.range 8 = [0, 1, 2, 3, 4, 5, 6, 7] from rfl]
    simp only [List.map_cons, List.map_nil, List.sum_cons, List.sum_nil]
    have hk : ∀ k : Nat, (8 * (i : Int) + (0 + (k : Int))).toNat = 8 * i + k := by intro k; omega
    simp only [hk, getD_nat]
    unfold octN
    simp only [getD_take_drop _ _ _ (show 0 < 8 by omega), getD_take_drop _ _ _ (show 1 < 8 by omega), getD_take_drop _ _ _ (show 2 < 8 by omega), getD_take_drop _ _ _ (show 3 < 8 by omega), getD_take_drop _ _ _ (show 4 < 8 by omega), getD_take_drop _ _ _ (show 5 < 8 by omega), getD_take_drop _ _ _ (show 6 < 8 by omega), getD_take_drop _ _ _ (show 7 < 8 by omega)]
    generalize hs.getD (8 * i + 0) 0 = a0
    generalize hs.getD (8 * i + 1) 0 = a1
    generalize hs.getD (8 * i + 2) 0 = a2
    generalize hs.getD (8 * i + 3) 0 = a3
    generalize hs.getD (8 * i + 4) 0 = a4
    generalize hs.getD (8 * i + 5) 0 = a5
    generalize hs.getD (8 * i + 6) 0 = a6
    generalize hs.getD (8 * i + 7) 0 = a7
    show (a0 : Int) * 2 ^ 0 + ((a1 : Int) * 2 ^ 1 + ((a2 : Int) * 2 ^ 2 + ((a3 : Int) * 2 ^ 3 + ((a4 : Int) * 2 ^ 4 + ((a5 : Int) * 2 ^ 5 + ((a6 : Int) * 2 ^ 6 + ((a7 : Int) * 2 ^ 7 + 0))))))) = _
    omega
  rw [e, bx_nat]
def bitsOf (cs : List Nat) : List Nat := cs.flatMap (bitsN 8)
theorem bitsOf_len (cs : List Nat) : (bitsOf cs).length = 8 * cs.length := by
  unfold bitsOf
  induction cs with
  | nil => rfl
  | cons a l ih => rw [List.flatMap_cons, List.length_append, bitsN_len, ih, List.length_cons]; omega
theorem bitsOf_snoc (l : List Nat) (c : Nat) : bitsOf (l ++ [c]) = bitsOf l ++ bitsN 8 c := by
  unfold bitsOf; rw [List.flatMap_append, List.flatMap_singleton]
theorem bitsOf_le (cs : List Nat) : ∀ b ∈ bitsOf cs, b ≤ 1 := by
  intro b hb
  obtain ⟨c, _, hc⟩ := List.mem_flatMap.mp hb
  exact bitsN_le 8 c b hc
theorem gB_fold_lt : ∀ (bs : List Nat) {c : Nat}, c < 4294967296 → (∀ b ∈ bs, b ≤ 1) → bs.foldl gB c < 4294967296
  | [], _, h, _ => h
  | b :: bs, _, h, hb => gB_fold_lt bs (gB_lt h (hb b (List.mem_cons_self ..))) fun x hx => hb x (List.mem_cons_of_mem _ hx)
theorem readI_nat {x : Str} {hs : List Nat} (hl : hs.length = 8 * x.length) (hb : ∀ b ∈ hs, b ≤ 1) (hc : ∀ c ∈ x.cps.toList, c < 256) : ∀ i, i ≤ x.length →
    readI x (hs.map fun (n : Nat) => (n : Int)) i = (((List.zipWith (· ^^^ ·) (bitsOf (x.cps.toList.take i)) (hs.take (8 * i))).foldl gB 4294967295 : Nat) : Int)
  | 0, _ => rfl
  | i + 1, hi => by
    have ih := readI_nat hl hb hc i (by omega)
    have hsz : x.cps.toList.length = x.length := by simp [Str.length]
    have hlt : i < x.cps.toList.length := by omega
    show Builtin.bitXor ((readI x _ i).fdiv (2 ^ Int.toNat 8)) (gRun (Builtin.bitAnd (Builtin.bitXor (readI x _ i) (octI (x.cps.getD i 0) _ i)) 255) 8) = _
    rw [ih, octI_nat]
    have hcx : x.cps.getD i 0 = x.cps.toList[i] := by
      rw [Array.getD_eq_getD_getElem?, ← Array.getElem?_toList, List.getElem?_eq_getElem hlt]; rfl
    have hc1 : x.cps.toList[i] < 256 := hc _ (List.getElem_mem _)
    rw [hcx]
    have ho := oct_list (hs := (hs.drop (8 * i)).take 8) (by rw [List.length_take, List.length_drop]; omega) (fun b h => hb b (List.mem_of_mem_drop (List.mem_of_mem_take h)))
    have ht : x.cps.toList.take (i + 1) = x.cps.toList.take i ++ [x.cps.toList[i]] := by
      rw [List.take_add_one, List.getElem?_eq_getElem hlt]; rfl
    have ht2 : hs.take (8 * (i + 1)) = hs.take (8 * i) ++ (hs.drop (8 * i)).take 8 := by
      rw [show 8 * (i + 1) = 8 * i + 8 from by omega, List.take_add]
    rw [ht, ht2, bitsOf_snoc, List.zipWith_append (by rw [List.length_take]; have := bitsOf_len (x.cps.toList.take i); rw [List.length_take] at this; omega), List.foldl_append]
    generalize (List.zipWith (· ^^^ ·) (bitsOf (x.cps.toList.take i)) (hs.take (8 * i))).foldl gB 4294967295 = Z
    generalize x.cps.toList[i] = ch at hc1 ⊢
    generalize (hs.drop (8 * i)).take 8 = h8 at ho ⊢
    obtain ⟨ho1, ho2⟩ := ho
    conv => rhs; rw [← ho2, ← bits_xor]
    rw [← oct_step (Nat.xor_lt_two_pow (n := 8) hc1 ho1)]
    have e1 : (Z : Int).fdiv (2 ^ Int.toNat 8) = ((Z / 256 : Nat) : Int) := by
      rw [show (2 : Int) ^ Int.toNat 8 = 256 from rfl, Int.fdiv_eq_ediv_of_nonneg _ (by omega)]; omega
    rw [e1, bx_nat, show (255 : Int) = ((255 : Nat) : Int) from rfl, band_nat, gRun_nat, bx_nat]
theorem sum_bits : ∀ n y : Nat, y < 2 ^ n → ((List.range n).map fun j => if y.testBit j = true then 2 ^ j else 0).sum = y
  | 0, y, h => by simp at h; subst h; rfl
  | n + 1, y, h => by
    rw [List.range_succ, List.map_append, List.sum_append]
    have ih := sum_bits n (y % 2 ^ n) (Nat.mod_lt _ (Nat.two_pow_pos n))
    have e : (List.range n).map (fun j => if y.testBit j = true then 2 ^ j else 0) = (List.range n).map (fun j => if (y % 2 ^ n).testBit j = true then 2 ^ j else 0) := by
      apply List.map_congr_left
      intro j hj
      rw [Nat.testBit_mod_two_pow, decide_eq_true (List.mem_range.mp hj), Bool.true_and]
    rw [e, ih]
    have hq : y / 2 ^ n < 2 := by rw [Nat.div_lt_iff_lt_mul (Nat.two_pow_pos n)]; rw [Nat.pow_succ] at h; omega
    have hd := Nat.mod_add_div y (2 ^ n)
    have hb : y.testBit n = decide (y / 2 ^ n = 1) := by
      rw [Nat.testBit_eq_decide_div_mod_eq, Nat.mod_eq_of_lt hq]
    simp only [List.map_cons, List.map_nil, List.sum_cons, List.sum_nil, hb, decide_eq_true_eq]
    rcases (show y / 2 ^ n = 0 ∨ y / 2 ^ n = 1 from by generalize y / 2 ^ n = q at hq; omega) with h0 | h1
    · rw [if_neg (by omega)]; rw [h0] at hd; omega
    · rw [if_pos h1]; rw [h1] at hd; omega
theorem fold_sum {p : Int → Prop} [DecidablePred p] : ∀ (ks l : List Int), (ks.foldl (fun (l' : List Int) (k' : Int) => if p k' then l' ++ [1 * 2 ^ k'.toNat] else l') l).sum = l.sum + (ks.map fun k => if p k then 2 ^ k.toNat else 0).sum
  | [], l => by simp
  | k :: ks, l => by
    rw [List.foldl_cons, fold_sum ks, List.map_cons, List.sum_cons]
    by_cases h : p k
    · rw [if_pos h, if_pos h, List.sum_append]; simp; omega
    · rw [if_neg h, if_neg h]; omega
theorem sum_cast : ∀ (l : List Nat) (g : Nat → Nat), (l.map fun j => ((g j : Nat) : Int)).sum = (((l.map g).sum : Nat) : Int)
  | [], _ => rfl
  | a :: l, g => by rw [List.map_cons, List.sum_cons, sum_cast l g, List.map_cons, List.sum_cons]; omega
theorem sumI_nat {r c : Nat} (h : Rev r c) : sumI (r : Int) = ((c ^^^ 4294967295 : Nat) : Int) := by
  unfold sumI
  rw [fold_sum (p := fun k' => Builtin.bitAnd ((r : Int).fdiv (2 ^ (31 - k').toNat)) 1 = 0), rks, List.map_map]
  have hy : c ^^^ 4294967295 < 2 ^ 32 := Nat.xor_lt_two_pow h.clt (by decide)
  rw [← sum_bits 32 _ hy, ← sum_cast]
  simp only [List.sum_nil, Int.zero_add]
  rw [show ((32 : Int) - 0).toNat = 32 from rfl]
  congr 1
  apply List.map_congr_left
  intro j hj
  have hj32 := List.mem_range.mp hj
  simp only [Function.comp]
  have e1 : (31 - (j : Int)).toNat = 31 - j := by omega
  have e2 : ((j : Int)).toNat = j := by omega
  have e3 : (r : Int).fdiv (2 ^ (31 - j)) = ((r / 2 ^ (31 - j) : Nat) : Int) := by
    rw [Int.fdiv_eq_ediv_of_nonneg _ (Int.pow_nonneg (by omega)), Int.natCast_ediv, Int.natCast_pow]; rfl
  have e4 : (c ^^^ 4294967295).testBit j = !(r.testBit (31 - j)) := by
    rw [Nat.testBit_xor, show (4294967295 : Nat) = 2 ^ 32 - 1 from rfl, Nat.testBit_two_pow_sub_one, decide_eq_true hj32, h.e j hj32, Bool.xor_true]
  have e5 : r.testBit (31 - j) = decide (r / 2 ^ (31 - j) % 2 = 1) := Nat.testBit_eq_decide_div_mod_eq
  simp only [Int.zero_add, e1, e2, e3, e4]
  rw [show (1 : Int) = ((1 : Nat) : Int) from rfl, band_nat, Nat.and_one_is_mod, e5]
  rcases Nat.mod_two_eq_zero_or_one (r / 2 ^ (31 - j)) with h0 | h0 <;> rw [h0]
  · rw [if_pos (show ((0 : Nat) : Int) = 0 from rfl), if_pos (by decide), Int.natCast_pow]; rfl
  · rw [if_neg (by decide), if_neg (by decide)]; rfl
theorem rFold_nat : ∀ (bs : List Nat) (r : Nat), (bs.map fun (n : Nat) => (n : Int)).foldl rStep (r : Int) = ((bs.foldl rStepN r : Nat) : Int)
  | [], _ => rfl
  | b :: bs, r => by rw [List.map_cons, List.foldl_cons, rStep_nat, rFold_nat bs]; rfl
theorem bitsI_map (cs : List Nat) : cs.flatMap bitsI = (bitsOf cs).map fun (n : Nat) => (n : Int) := by
  unfold bitsOf
  rw [List.map_flatMap]
  have e : bitsI = fun a => (bitsN 8 a).map fun (n : Nat) => (n : Int) := by
    funext c
    unfold bitsI bitsN
    rw [List.map_map]
    rfl
  rw [e]
theorem rFold_lt : ∀ (bs : List Nat) {r : Nat}, r < 4294967296 → (∀ b ∈ bs, b ≤ 1) → bs.foldl rStepN r < 4294967296
  | [], _, h, _ => h
  | b :: bs, _, h, hb => rFold_lt bs (rStepN_lt h (hb b (List.mem_cons_self ..))) fun x hx => hb x (List.mem_cons_of_mem _ hx)
/-- the law of the check sums -/
theorem crc_law {x : Str} {ns : List Int} (hl : ns.length = 8 * x.length) (hb : ∀ b ∈ ns, 0 ≤ b ∧ b ≤ 1) (hc : ∀ c ∈ x.cps.toList, c < 256) :
    (Builtin.bitXor (readI x ns x.length) (2 ^ Int.toNat 32 - 1) = sumI ((x.cps.toList.flatMap bitsI).foldl rStep (2 ^ Int.toNat 32 - 1))) ↔ ns.foldl rStep 0 = 0 := by
  obtain ⟨hs, rfl⟩ : ∃ hs : List Nat, ns = hs.map fun (n : Nat) => (n : Int) := by
    refine ⟨ns.map Int.toNat, ?_⟩
    rw [List.map_map]
    have : ∀ n ∈ ns, ((fun (n : Nat) => (n : Int)) ∘ Int.toNat) n = id n := fun n hn => by
      have := hb n hn
      simp only [Function.comp, id]; omega
    rw [List.map_congr_left this, List.map_id]
  have hb' : ∀ b ∈ hs, b ≤ 1 := fun b h => by have := hb (b : Int) (List.mem_map_of_mem h); omega
  rw [List.length_map] at hl
  have hsz : x.cps.toList.length = x.length := by simp [Str.length]
  have hlB : (bitsOf x.cps.toList).length = hs.length := by rw [bitsOf_len, hl, hsz]
  rw [readI_nat hl hb' hc x.length (Nat.le_refl _), List.take_of_length_le (by omega), List.take_of_length_le (by omega), bitsI_map]
  rw [show (2 : Int) ^ Int.toNat 32 - 1 = ((4294967295 : Nat) : Int) from rfl, rFold_nat, bx_nat]
  have R1 := Rev.fold (bitsOf x.cps.toList) ones_rev (bitsOf_le _)
  have hz : ∀ b ∈ List.zipWith (· ^^^ ·) (bitsOf x.cps.toList) hs, b ≤ 1 := by
    intro b h
    obtain ⟨i, hi, rfl⟩ := List.mem_iff_getElem.mp h
    rw [List.getElem_zipWith]
    exact Nat.le_of_lt_succ (Nat.xor_lt_two_pow (n := 1) (Nat.lt_succ_of_le (bitsOf_le _ _ (List.getElem_mem _))) (Nat.lt_succ_of_le (hb' _ (List.getElem_mem _))))
  have R2 := Rev.fold (List.zipWith (· ^^^ ·) (bitsOf x.cps.toList) hs) ones_rev hz
  rw [sumI_nat R1, show (0 : Int) = ((0 : Nat) : Int) from rfl, rFold_nat]
  have hx := fold_xor (bitsOf x.cps.toList) hs (r := 4294967295) (r' := 0) hlB (by omega) (by omega) (bitsOf_le _) hb'
  rw [Nat.xor_zero] at hx
  rw [hx] at R2
  generalize (bitsOf x.cps.toList).foldl gB 4294967295 = c at R1 ⊢
  generalize (List.zipWith (· ^^^ ·) (bitsOf x.cps.toList) hs).foldl gB 4294967295 = g at R2 ⊢
  generalize (bitsOf x.cps.toList).foldl rStepN 4294967295 = F at R1 R2
  generalize hs.foldl rStepN 0 = H at R2 ⊢
  constructor
  · intro h
    have h' : g ^^^ 4294967295 = c ^^^ 4294967295 := Int.ofNat.inj h
    have hgc : g = c := by
      have q : (g ^^^ 4294967295) ^^^ 4294967295 = (c ^^^ 4294967295) ^^^ 4294967295 := by rw [h']
      rwa [Nat.xor_assoc, Nat.xor_assoc, Nat.xor_self, Nat.xor_zero, Nat.xor_zero] at q
    subst hgc
    rw [xor_eq_self.mp (R2.inj R1)]
  · intro h
    have hH : H = 0 := Int.ofNat.inj h
    subst hH
    rw [Nat.xor_zero] at R2
    rw [R2.inj' R1]
end

/- part MLaw -/
section
open PySem PySem.W PyProof.Rows PySem.Calls
/-- signs of one octet -/
def Byt (x : Str) : Prop := ∀ c ∈ x.cps.toList, c < 256
theorem Byt.app {a b : Str} (ha : Byt a) (hb : Byt b) : Byt (a ++ b) := by
  intro c hc
  rw [cps_app] at hc
  rcases List.mem_append.mp hc with h | h
  · exact ha c h
  · exact hb c h
theorem Byt.of {x : Str} (h : Oct x) : Byt x := fun c hc => (h c (by simpa using hc)).1
theorem Byt.sub {a b : Str} (h : Byt a) (hs : ∀ c ∈ b.cps.toList, c ∈ a.cps.toList) : Byt b := fun c hc => h c (hs c hc)
open PySem.Builtin PySem.Builtin.Str in
theorem rstrip_byt {x : Str} (h : Byt x) : Byt (Txt.rstrip x) := by
  refine h.sub fun c hc => ?_
  have hr : Txt.rstrip x = strSub x 0 (stripHi Unicode.isSpace true x 0) := PyProof.Rows.stripBy_eq _ _ _ _
  rw [hr, StrLaws.strSub_toList] at hc
  have := List.mem_of_mem_take hc
  simpa using this
theorem lineOf_byt {y : Str} (h : Byt y) : Byt (lineOf y) := by
  unfold lineOf commentS
  refine Byt.app ?_ (by unfold Byt; decide +kernel)
  split
  · unfold Byt; decide +kernel
  · exact Byt.app (by unfold Byt; decide +kernel) (rstrip_byt h)
theorem catS_byt : ∀ {l : List Str}, (∀ x ∈ l, Byt x) → Byt (catS l)
  | [], _ => fun c hc => by simp [catS] at hc
  | a :: l, h => Byt.app (h a (List.mem_cons_self ..)) (catS_byt fun x hx => h x (List.mem_cons_of_mem _ hx))
theorem textOf_byt {ys : List Str} (h : ∀ y ∈ ys, Byt y) : Byt (textOf ys) := by
  refine catS_byt fun x hx => ?_
  obtain ⟨y, hy, rfl⟩ := List.mem_map.mp hx
  exact lineOf_byt (h y hy)
theorem stepH_byt {c : List Str × List Nat × Str} (h : ∀ x ∈ c.1, Byt x) (hl : Byt c.2.2) : (∀ x ∈ (stepH c).1, Byt x) ∧ Byt (stepH c).2.2 := by
  unfold stepH
  split
  · exact ⟨h, hl⟩
  · refine ⟨fun x hx => ?_, ?_⟩
    · rcases List.mem_append.mp hx with q | q
      · exact h x q
      · rw [List.mem_singleton.mp q]; exact hl
    · refine hl.sub fun c hc => ?_
      rw [slice_drop] at hc
      exact List.mem_of_mem_drop hc
theorem iterH_byt {c : List Str × List Nat × Str} (h : ∀ x ∈ c.1, Byt x) (hl : Byt c.2.2) : ∀ n, (∀ x ∈ (iterH c n).1, Byt x) ∧ Byt (iterH c n).2.2
  | 0 => ⟨h, hl⟩
  | n + 1 => stepH_byt (iterH_byt h hl n).1 (iterH_byt h hl n).2
theorem allH_byt {ys : List Str} (h : ∀ y ∈ ys, Byt y) : ∀ x ∈ (allH ys).1, Byt x := by
  have key : ∀ (l : List Str) (c : List Str × List Nat), (∀ y ∈ l, Byt y) → (∀ x ∈ c.1, Byt x) →
      ∀ x ∈ (l.foldl (fun c y => ((iterH (c.1, c.2, lineOf y) (lineOf y).length).1, (iterH (c.1, c.2, lineOf y) (lineOf y).length).2.1)) c).1, Byt x := by
    intro l
    induction l with
    | nil => intro c _ h2; exact h2
    | cons y l ih =>
      intro c h1 h2
      exact ih _ (fun z hz => h1 z (List.mem_cons_of_mem _ hz)) (iterH_byt (c := (c.1, c.2, lineOf y)) h2 (lineOf_byt (h1 y (List.mem_cons_self ..))) _).1
  exact key ys ([], []) h fun x hx => nomatch hx
theorem Byt.ok {x : Str} (h : Byt x) : PyData.strOk x = true := by
  unfold PyData.strOk
  rw [Array.all_eq_true']
  intro c hc
  have := h c (by simpa using hc)
  exact decide_eq_true (by omega)
/-- the two tuples as data -/
def pairD (p : Nat × Nat) : Dat := .tuple [.int (p.1 : Int), .int (p.2 : Int)]
def laidD (ys : List Str) : Dat := .tuple [.str (textOf ys), .list ((membersOf ys).map pairD), .int ((textOf ys).length : Int), .list ((allH ys).1.map .str), .list (((allH ys).2.map fun (n : Nat) => (n : Int)).map .int)]
theorem laidD_ok {ys : List Str} (h : ∀ y ∈ ys, Byt y) : kqdOk 9 (laidD ys) = true := by
  have h1 := (textOf_byt h).ok
  have h2 := allH_byt h
  simp only [laidD, kqdOk, List.all_cons, List.all_nil, List.all_map, Bool.and_true, Bool.and_eq_true, List.all_eq_true]
  refine ⟨h1, ?_, trivial, ?_, ?_⟩
  · intro p _; simp [Function.comp, pairD, kqdOk]
  · intro x hx; simp only [Function.comp, kqdOk]; exact (h2 x hx).ok
  · intro x hx; simp only [Function.comp, kqdOk]
theorem tups_dat {tups news : List (Addr × Obj)} {vs : List Value} {ps : List (Nat × Nat)} (h : TupsAre tups vs ps) (hs : ∀ p ∈ tups, p ∈ news) : DatAll news vs (ps.map pairD) := by
  induction h with
  | nil => exact .nil
  | @cons a i j t u e vs ps hm _ ih => exact .cons (.tuple (vs := [.int (i : Int) t, .int (j : Int) u]) (n := e) (hs _ hm) (.cons (.int _ _) (.cons (.int _ _) .nil))) ih
theorem strs_dat {news : List (Addr × Obj)} {vs : List Value} {ws : List Str} (h : StrsAre vs ws) : DatAll news vs (ws.map .str) := by
  induction h with
  | nil => exact .nil
  | cons a b _ ih => exact .cons (.str _ _) ih
theorem ints_dat {news : List (Addr × Obj)} {vs : List Value} {ns : List Int} (h : IntsAre vs ns) : DatAll news vs (ns.map .int) := by
  induction h with
  | nil => exact .nil
  | cons a b _ ih => exact .cons (.int _ _) ih
theorem laid_dat {news : List (Addr × Obj)} {a lM lH lA : Addr} {mv hv av : List Value} {me he ae : Nat} {tups : List (Addr × Obj)} {t1 t2 : Tok} {ys : List Str}
    (h1 : (a, ({ cls := .type "tuple", data := .seq #[.str (textOf ys) t1, .ref lM, .int ((textOf ys).length : Int) t2, .ref lH, .ref lA] } : Obj)) ∈ news) (h2 : (lM, W.listOf mv.toArray me) ∈ news) (h3 : (lH, W.listOf hv.toArray he) ∈ news) (h4 : (lA, W.listOf av.toArray ae) ∈ news) (h5 : ∀ p ∈ tups, p ∈ news)
    (d1 : TupsAre tups mv (membersOf ys)) (d2 : StrsAre hv (allH ys).1) (d3 : IntsAre av ((allH ys).2.map (fun (n : Nat) => (n : Int)))) : DatIn news (.ref a) (laidD ys) :=
  .tuple (vs := [.str (textOf ys) t1, .ref lM, .int ((textOf ys).length : Int) t2, .ref lH, .ref lA]) h1 (.cons (.str _ _) (.cons (.list h2 (tups_dat d1 h5)) (.cons (.int _ _) (.cons (.list h3 (strs_dat d2)) (.cons (.list h4 (ints_dat d3)) .nil)))))
section
variable {prog : Program} {w : World} {A : Around} {E : Value → Shared → Prop} {s : Shared} {h₀ : Heap} {L : Addr} {m : Str → Option Value} {news : List (Addr × Obj)}
theorem kqd_ne_same {a b : Addr} {d : Dat} {Q : Value → Shared → Prop} (N : News h₀ L s.heap news) (Da : DatIn news (.ref a) d) (Db : DatIn news (.ref b) d) (ok : kqdOk 9 d = true) (hu : A.units + 64 < cLine) (h : Q (.bool false) s) : wpAny (model prog w) A (compareOp .NotEq (.ref a) (.ref b)) Q E s := by
  obtain ⟨as, ra⟩ := kqd_in N 9 Da ok
  obtain ⟨bs, rb⟩ := kqd_in N 9 Db ok
  have la := kqd_lay 9 d ok
  have e : PyData.eqv (kqdP d) (kqdP d) = true := (kqd_eqv 9 d d 9 ok ok).mpr rfl
  have sh : SeqAt.shaped (kqdP d) = true := by unfold SeqAt.shaped; rw [la.1, Bool.true_and]; exact decide_eq_true (Nat.le_trans la.2 (by decide))
  exact ne_dataH ra rb sh sh hu (by rw [e]; exact h)
end
section
variable {h₀ h h' : Heap} {L a : Addr} {m : Str → Option Value} {news : List (Addr × Obj)} {o : Obj}
theorem News.addM (F : Fr h₀ L h m) (N : News h₀ L h news) (hk : ∀ b o, h.get? b = some o → h'.get? b = some o) (hn : h.get? a = none) (ha : h'.get? a = some o) : News h₀ L h' ((a, o) :: news) := by
  intro p hp
  rcases List.mem_cons.mp hp with rfl | hp
  · refine ⟨ha, ?_, ?_⟩
    · rintro rfl
      obtain ⟨q, _, _, e, _⟩ := F.ns
      rw [hn] at e; cases e
    · cases e : h₀.get? a with
      | none => rfl
      | some q => have := F.keep _ _ e; rw [hn] at this; cases this
  · exact ⟨hk _ _ (N p hp).1, (N p hp).2⟩
theorem News.addL {l : List (Addr × Obj)} (F : Fr h₀ L h m) (N : News h₀ L h' news) (hl : ∀ p ∈ l, h'.get? p.1 = some p.2 ∧ h.get? p.1 = none) : News h₀ L h' (l ++ news) := by
  intro p hp
  rcases List.mem_append.mp hp with hp | hp
  · obtain ⟨ha, hn⟩ := hl p hp
    refine ⟨ha, ?_, ?_⟩
    · intro e
      obtain ⟨q, _, _, e', _⟩ := F.ns
      rw [← e, hn] at e'; cases e'
    · cases e : h₀.get? p.1 with
      | none => rfl
      | some q => have := F.keep _ _ e; rw [hn] at this; cases this
  · exact N p hp
theorem Fr.but91 (F : Fr h₀ L h m) (h1 : L ≠ 91) (h2 : h₀.get? 91 = none) (hk : ∀ b o, b ≠ 91 → h.get? b = some o → h'.get? b = some o) : Fr h₀ L h' m :=
  ⟨F.ns.at' fun q e => hk L q h1 e, fun b q e => hk b q (by rintro rfl; rw [h2] at e; cases e) (F.keep b q e), F.above⟩
theorem News.but91 (N : News h₀ L h news) (hk : ∀ b o, b ≠ 91 → h.get? b = some o → h'.get? b = some o) (hn : ∀ p ∈ news, p.1 ≠ 91) : News h₀ L h' news :=
  fun p hp => ⟨hk _ _ (hn p hp) (N p hp).1, (N p hp).2⟩
end
/-- the members of the text -/
theorem textOf_app (a b : List Str) : textOf (a ++ b) = textOf a ++ textOf b := by
  induction a with
  | nil => apply Str.ext_list; simp [textOf, catS, cps_app]
  | cons y a ih =>
    have e : textOf (y :: a ++ b) = lineOf y ++ textOf (a ++ b) := rfl
    have e2 : textOf (y :: a) = lineOf y ++ textOf a := rfl
    rw [e, e2, ih]
    apply Str.ext_list; simp [cps_app]
theorem member_at {ys : List Str} {k i j : Nat} (h : (membersOf ys)[k]? = some (i, j)) : ∃ y, ys[k]? = some y ∧ j = (lineOf y).length ∧ i + j ≤ (textOf ys).length ∧ Txt.slice (textOf ys) (some (i : Int)) (some ((i : Int) + (j : Int))) = lineOf y := by
  have hk : k < ys.length := by
    rcases Nat.lt_or_ge k ys.length with q | q
    · exact q
    · rw [List.getElem?_eq_none (by rw [membersOf_len]; exact q)] at h; cases h
  have hy : ys[k]? = some ys[k] := List.getElem?_eq_getElem hk
  have e : (membersOf ys)[k]? = some ((textOf (ys.take k)).length, (lineOf ys[k]).length) := by
    unfold membersOf
    rw [List.getElem?_map, List.getElem?_range hk, Option.map_some, List.getD_eq_getElem?_getD, hy]; rfl
  rw [e] at h
  obtain ⟨h1, h2⟩ := Prod.mk.inj (Option.some.inj h)
  have hs : textOf ys = textOf (ys.take k) ++ (lineOf ys[k] ++ textOf (ys.drop (k + 1))) := by
    have : ys = ys.take k ++ (ys[k] :: ys.drop (k + 1)) := by rw [← List.drop_eq_getElem_cons hk, List.take_append_drop]
    conv => lhs; rw [this, textOf_app]
    rfl
  have hlen : i + j ≤ (textOf ys).length := by rw [hs, slen_app, slen_app]; omega
  refine ⟨ys[k], hy, h2.symm, hlen, ?_⟩
  apply Str.ext_list
  rw [show (i : Int) + (j : Int) = ((i + j : Nat) : Int) from by omega, slice_mid _ (by omega) hlen, hs, cps_app, cps_app, show i + j - i = j from by omega, ← h1, ← h2, len_list, len_list, List.drop_left, List.take_left]
theorem lineOf_pos (y : Str) : 1 ≤ (lineOf y).length := by
  unfold lineOf
  rw [slen_app, show (Str.ofString "\n").length = 1 from by decide +kernel]; omega
theorem members_ok {ys : List Str} (h5 : ys.length ≤ 5) (h20 : ∀ y ∈ ys, y.length ≤ 20) : ∀ p ∈ membersOf ys, 1 ≤ p.2 ∧ p.2 ≤ 100 ∧ p.1 ≤ 1000 := by
  rintro ⟨i, j⟩ hp
  obtain ⟨k, hk, e⟩ := List.mem_iff_getElem.mp hp
  obtain ⟨y, hy, rfl, hle, _⟩ := member_at (ys := ys) (k := k) (i := i) (j := j) (by rw [List.getElem?_eq_getElem hk, e])
  have h1 := lineOf_pos y
  have h2 := lineOf_len y
  have h3 := h20 y (List.mem_of_getElem? hy)
  have h4 := textOf_len ys h20
  exact ⟨h1, by dsimp only; omega, by dsimp only; omega⟩
end

/- part MSlice -/
section
open PySem PySem.W PyProof.Rows PySem.Calls
section
variable {prog : Program} {w : World} {A : Around} {E : Value → Shared → Prop} {s : Shared} {h₀ : Heap} {L : Addr} {m : Str → Option Value} {news : List (Addr × Obj)} {t sl : Addr} {v0 v1 v2 v3 v4 : Value} {u : Tok}
/-- the first three of five -/
theorem item_upto3 {Q : Value → Shared → Prop} (ht : IsTup s.heap t #[v0, v1, v2, v3, v4]) (hs : s.heap.IsSliceOf sl .none (.int 3 u) .none)
    (h : Q (.ref s.heap.objs.size) { s with heap := s.heap.push { cls := .type "tuple", data := .seq #[v0, v1, v2] } }) : wpAny (model prog w) A (getItem (.ref t) (.ref sl)) Q E s := by
  have hok : sizeOk (.seq #[v0, v1, v2]) := by show (3 : Nat) ≤ sizeLine; decide
  obtain ⟨os, hos, hcs, hds⟩ := id hs
  have hTs : s.TypeIs (.ref sl) "slice" := ⟨os, hos, hcs⟩
  unfold getItem
  try with_reducible refine wpAny_holding ?_
  first | refine wpAny_bind (wpAny_pure ?_) | skip
  refine wpAny_bind (wpAny_sequenceKey ht.typeIs (by decide) ?_)
  refine wpAny_bind (wpAny_callSpecial?_slot (name := Str.ofString "__getitem__") ht.typeIs slot_tuple_getitem
    (wpAny_call_entry slot_tuple_getitem ht.typeIs entry_tuple_getitem ?_ (args_tuple_getitem _ _)))
  show wpAny _ _ (Builtin.Tuple.tupleItemsOf (.ref t) >>= _) _ _ s
  refine wpAny_bind (tupleItemsOf_ ht ?_)
  refine wpAny_bind (wpAny_typeOf hTs ?_)
  rw [if_pos (by decide)]
  refine wpAny_bind ?_
  unfold Builtin.Slice.sliceApplied Builtin.Slice.sliceFields
  refine wpAny_bind (wpAny_bind (wpAny_field hos hds (x := .none) rfl (wpAny_bind (wpAny_field hos hds (x := .int 3 u) rfl (wpAny_bind (wpAny_field hos hds (x := .none) rfl (wpAny_pure ?_)))))))
  refine wpAny_bind (slicePart_none ?_)
  show wpAny _ _ (if ((1 : Int) == 0) = true then _ else _) _ _ s
  rw [if_neg (by decide)]
  refine wpAny_bind (slicePart_none (wpAny_bind (slicePart_int (wpAny_bind (wpAny_pure ?_)))))
  refine wpAny_pure ?_
  show wpAny _ _ (Builtin.Tuple.tupleExact #[v0, v1, v2] >>= _) _ _ s
  first
    | exact wpAny_bind (m := Builtin.Tuple.tupleExact _) (wpAny_newObj_type (wpAny_pure ⟨_, rfl, wpAny_pure h⟩) hok)
    | exact wpAny_bind (m := Builtin.Tuple.tupleExact _) (wpAny_newObj_type (wpAny_bind (wpAny_pure (wpAny_pure ⟨_, rfl, wpAny_pure h⟩))) hok)
    | exact wpAny_bind (wpAny_bind (m := Builtin.Tuple.tupleExact _) (wpAny_newObj_type (wpAny_pure (wpAny_pure ⟨_, rfl, wpAny_pure h⟩)) hok))
    | exact wpAny_bind (wpAny_bind (m := Builtin.Tuple.tupleExact _) (wpAny_newObj_type (wpAny_pure ⟨_, rfl, wpAny_pure h⟩) hok))
theorem tail_upto3 {value slice : PySem.Expr} {n : Nat} {Q : Value → Shared → Prop} (F : Fr h₀ L s.heap m) (N : News h₀ L s.heap news) (hm : (t, ({ cls := .type "tuple", data := .seq #[v0, v1, v2, v3, v4] n } : Obj)) ∈ news)
    (h : ∀ D h', Fr h₀ L h' m → News h₀ L h' ((D, { cls := .type "tuple", data := .seq #[v0, v1, v2] }) :: news) → (∀ p ∈ news, p.1 < D) → Q (.ref D) { s with heap := h' })
    (hs : subscripted slice false (.ref t) (.ref s.heap.objs.size) = operate [.ref s.heap.objs.size, .ref t] (getItem (.ref t) (.ref s.heap.objs.size)) := by with_unfolding_all rfl)
    (hg : ∀ r, letTemporaryGo value (.ref t) r = pure () := by intro _; with_unfolding_all rfl) :
    wpAny (model prog w) A (subscriptTail value slice (.ref t) (.ref s.heap.objs.size)) Q E { s with heap := s.heap.push { cls := .type "slice", data := .fields #[.none, .int 3 u, .none] } } := by
  have ht : IsTup s.heap t #[v0, v1, v2, v3, v4] := ⟨_, (N _ hm).1, rfl, n, rfl⟩
  have ht1 : IsTup (s.heap.push { cls := .type "slice", data := .fields #[.none, .int 3 u, .none] }) t #[v0, v1, v2, v3, v4] := ⟨_, Heap.get?_push_of_some _ (N _ hm).1, rfl, n, rfl⟩
  refine subscriptTail_ops (IsTup.typeIs (s := { s with heap := s.heap.push { cls := .type "slice", data := .fields #[.none, .int 3 u, .none] } }) ht1) slot_tuple_getitem.lookup
    (item_upto3 (u := u) ht1 (Heap.IsSliceOf.new ..) ?_) hs hg
  have N1 := News.push (F.push { cls := .type "slice", data := .fields #[.none, .int 3 u, .none] }) (N.grown fun _ _ e => Heap.get?_push_of_some _ e) { cls := .type "tuple", data := .seq #[v0, v1, v2] }
  rw [Heap.size_push] at N1
  show Q (.ref (s.heap.push _).objs.size) _
  rw [Heap.size_push]
  exact h _ _ ((F.push _).push _) N1 fun p hp => Nat.lt_succ_of_lt (Heap.lt_size (N p hp).1)
end
end

/- part G4 -/
section
open PySem PySem.W PyProof.Rows PySem.Calls
theorem law_written_spec {n : Nat} {w : World} {A : Around} {s : Shared}
    {mean : ExcName → Option Value} {mg mb : Str → Option Value} {R : Result → Shared → Prop}
    {x : Str} {t : Tok} (S : Std n w mean mg mb A s) (hn : n ≤ 9)
    (hx : x.length ≤ 1000) (ho : Oct x)
    (k : ∀ t' h' tk, (∀ b o, s.heap.get? b = some o → h'.get? b = some o) → R (.ok (.ret (.str (lineOf x) t'))) { s with heap := h', toks := tk }) :
    codeAny (model PySem.Challenge.rw_mr0023_01.row.prog w) A (.call (.ref 89) ⟨[.str x t], []⟩) R s := by
  obtain ⟨A₀, base, outer, h₀, L, m, env, d, u, gs, rfl, hd, hu, B, F, X, T, hf, hke⟩ := S
  revert X; k_fill; intro X
  refine call_keepC B F X T rfl hf hke (by k_is) (by k_is) (by k_room) (BindsTo.of_eq (binds := [(Str.ofString "line", .str x t)]) rfl) rfl (by decide +kernel) ?_
  clear B F X T
  intro L' h' tk' cells' F' N' Y' B' X' T'
  k_cells Y'
  try dsimp only
  with_reducible show wpAny _ _ _ _ _ _
  k_fold
  k_with_none
  k_with "call builtin:max" => refine Stp.go ?_
  k_steps
  · rename IntsAre _ _ => hI
    rename decide (_ = []) = true => hne
    rw [show ((x.length : Int) - 0).toNat = x.length from by omega] at *
    generalize hsol : List.foldl _ [] (rangeKs 0 x.length) = sol at *
    have hm := fun hf => solid_mem (x := x) ho hf hsol
    replace hm := hm (by
      intro l k
      have hA : 1 ≤ (Txt.item x k).length ∧ (Txt.item x k).length ≤ 1 := ⟨Nat.le_refl _, Nat.le_refl _⟩
      rw [show wsS = Str.ofString "\t\x0b\x0c\x0d\x1c\x1d\x1e\x1f \u0085\u00a0" from rfl]
      simp only [hA, true_and, and_self]
      split
      · rfl
      · split <;> rfl)
    obtain ⟨w1, w2⟩ := written_eq hm
    rename Fr _ _ _ _ => F1
    show R (.ok (.ret (.str (Str.ofString "#\n") _))) _
    rw [w1 (of_decide_eq_true hne)]
    exact k _ _ _ F1.keep
  · refine Stp.in ?_
    k_with_none
    rename IntsAre _ _ => hI
    rename decide (_ = []) = false => hne
    rw [show ((x.length : Int) - 0).toNat = x.length from by omega] at *
    generalize hsol : List.foldl _ [] (rangeKs 0 x.length) = sol at *
    have hm := fun hf => solid_mem (x := x) ho hf hsol
    replace hm := hm (by
      intro l k
      have hA : 1 ≤ (Txt.item x k).length ∧ (Txt.item x k).length ≤ 1 := ⟨Nat.le_refl _, Nat.le_refl _⟩
      rw [show wsS = Str.ofString "\t\x0b\x0c\x0d\x1c\x1d\x1e\x1f \u0085\u00a0" from rfl]
      simp only [hA, true_and, and_self]
      split
      · rfl
      · split <;> rfl)
    obtain ⟨w1, w2⟩ := written_eq hm
    have hpos : 0 < sol.length := by
      cases sol with
      | nil => simp at hne
      | cons a b => simp
    k_steps
    rename Fr _ _ _ _ => F1
    rename ∀ a ∈ sol, a ≤ _ => hmax
    rename _ ∈ sol => hMem
    show R (.ok (.ret (.str _ _))) _
    rw [w2 _ hMem hmax]
    exact k _ _ _ F1.keep
end

/- part G11 -/
section
open PySem PySem.W PyProof.Rows PySem.Calls
theorem law_sum_spec {n : Nat} {w : World} {A : Around} {s : Shared}
    {mean : ExcName → Option Value} {mg mb : Str → Option Value} {R : Result → Shared → Prop}
    {x : Str} {t : Tok} (S : Std n w mean mg mb A s) (hn : n ≤ 5)
    (hx : x.length ≤ 100) (ho : ∀ c ∈ x.cps, c < 256)
    (k : ∀ t' h' tk, (∀ b o, s.heap.get? b = some o → h'.get? b = some o) → R (.ok (.ret (.int (sumI ((x.cps.toList.flatMap bitsI).foldl rStep (2 ^ Int.toNat 32 - 1))) t'))) { s with heap := h', toks := tk }) :
    codeAny (model PySem.Challenge.rw_mr0023_01.row.prog w) A (.call (.ref 122) ⟨[.str x t], []⟩) R s := by
  obtain ⟨A₀, base, outer, h₀, L, m, env, d, u, gs, rfl, hd, hu, B, F, X, T, hf, hke⟩ := S
  revert X; k_fill; intro X
  refine call_keepC B F X T rfl hf hke (by k_is) (by k_is) (by k_room) (BindsTo.of_eq (binds := [(Str.ofString "text", .str x t)]) rfl) rfl (by decide +kernel) ?_
  clear B F X T
  intro L' h' tk' cells' F' N' Y' B' X' T'
  k_cells Y'
  try dsimp only
  with_reducible show wpAny _ _ _ _ _ _
  k_fold
  k_with_none
  w_strict k_steps
  rename_i oR dR
  refine comp2_str (f := bitsI) (x := x) F' N' rfl rfl (by decide) rfl (by decide) rfl rfl (by decide) bitsI_len (by omega) ?_ ?_ ?_ ?_
  · w_strict k_steps
    · exact F'
    · exact N'
  · intro C oC m₂ h tk E' hC F1 N1
    clear F' N'
    w_strict k_steps
    rename ∀ b o, Heap.get? _ b = some o → Heap.get? _ b = some o => hkk
    exact hkk _ _ (by assumption)
  · intro C oC m₂ h tk c j u1 t1 E' hc hj hC hm1 hm2 F1 N1
    clear F' N'
    w_strict k_steps
    exact congrArg (fun z => Value.int z _) (bit_eq c hj)
  · intro D ys nD h1 tk1 F1 N1 hne hI
    clear F' N'
    k_with "call ref" => refine Stp.go ?_
    w_strict k_steps
    refine Stp.in ?_
    refine wpAny_call (law_rest_spec (n := n + 1) (ns := x.cps.toList.flatMap bitsI) (vs := ys) (Std.of (by k_asm) (by k_asm) (by k_asm) (by k_asm) rfl rfl (by dsimp only; omega) (by dsimp only; omega)) (by omega) (PySem.IsL.isList (n := nD) (N1 _ (.head _)).1) hI bitsI_le (by decide) ?_)
    intro t8 h8' tk8 k8
    rename Fr _ _ _ _ => kF
    rename News _ _ _ _ => kN
    replace kF := Fr.keeps kF k8
    replace kN := News.keeps kN k8
    replace kN := kst_newsOf kN (l' := [(L' + 1, oR)]) (fun p hp => .tail _ hp)
    have hMk := kstMark
    k_with_none
    try dsimp only
    generalize hRest : List.foldl rStep _ _ = rest
    w_strict k_steps
    rename Fr _ _ _ _ => F5
    show R (.ok (.ret (.int (sumI rest) _))) _
    subst hRest
    exact k _ _ _ F5.keep
end

/- part G8 -/
section
open PySem PySem.W PyProof.Rows PySem.Calls
theorem fresh_of {g h : Heap} {L : Addr} {news : List (Addr × Obj)} {s : Shared} (N : News g L h news) (hgk : ∀ b o, b ≠ 91 → s.heap.get? b = some o → g.get? b = some o) : ∀ p ∈ news, p.1 ≠ 91 → s.heap.get? p.1 = none := fun p hp h91 => by
  cases e : s.heap.get? p.1 with
  | none => rfl
  | some o => have := (N p hp).2.2; rw [hgk _ o h91 e] at this; cases this
theorem law_laid_spec {n : Nat} {w : World} {A : Around} {s : Shared}
    {mean : ExcName → Option Value} {mg mb : Str → Option Value} {R : Result → Shared → Prop}
    {l : Addr} {vs : List Value} {ys : List Str} (S : StdT n w mean mg mb A s) (hn : n ≤ 5)
    (hl : s.heap.IsList l vs.toArray) (hi : StrsAre vs ys) (hlen : ys.length ≤ 5) (hlen2 : ∀ y ∈ ys, y.length ≤ 20) (hl91 : l ≠ 91)
    (k : ∀ a lM lH lA mv me hv he av ae tups t1 t2 ps h' tk, (∀ b o, b ≠ 91 → s.heap.get? b = some o → h'.get? b = some o) →
      (∀ p ∈ (a, ({ cls := .type "tuple", data := .seq #[.str (textOf ys) t1, .ref lM, .int ((textOf ys).length : Int) t2, .ref lH, .ref lA] } : Obj)) :: (lM, W.listOf mv.toArray me) :: (lH, W.listOf hv.toArray he) :: (lA, W.listOf av.toArray ae) :: tups, h'.get? p.1 = some p.2 ∧ s.heap.get? p.1 = none) →
      h'.get? 91 = some (tabObj ps) → TupsAre tups mv (membersOf ys) → StrsAre hv (allH ys).1 → IntsAre av ((allH ys).2.map (fun (n : Nat) => (n : Int))) → R (.ok (.ret (.ref a))) { s with heap := h', toks := tk }) :
    codeAny (model PySem.Challenge.rw_mr0023_01.row.prog w) A (.call (.ref 96) ⟨[.ref l], []⟩) R s := by
  obtain ⟨A₀, base, outer, h₀, L, m, env, d, u, gs, rfl, hd, hu, B, F, X, T, hf, hke, C, N⟩ := S
  revert X; k_fill; intro X
  refine call_keepT B F N X T rfl hf hke (by k_is) (by k_is) (by k_room) (BindsTo.of_eq (binds := [(Str.ofString "lines", .ref l)]) rfl) rfl (by decide +kernel) ?_
  intro g L' h' tk' cells' hg hst hgk hlt F' N' Y' B' X' T'
  have C' := C.keeps hst
  replace hlt := ltN hlt
  have hlg : g.IsList l vs.toArray := hl.at fun o e => hgk l o hl91 e
  clear B F X T C N
  k_cells Y'
  simp only [List.cons_append, List.nil_append] at N'
  have hND := nd_cells2 hlt
  try dsimp only
  with_reducible show wpAny _ _ _ _ _ _
  k_fold
  k_with_none
  k_with "pyIter ref" => refine Stp.go ?_
  k_with "setAttr ref ref" => (refine fn_setAttr (by k_asm) (by k_asm) (by k_updF) ?_; intro d9 h9 tk9 hs9 t9 F9 N9 l9; k_lt l9)
  w_strict k_steps
  rename_i lK h1 lM h2 lH h3 lA h4 lD h5 h6 h7 oK dK h8 h10 oH dH h11 tk1 fT cT ocT vsT tT ctT dcT h12 tk2 d1T d2T h13 fL cL ocL vsL tL ctL h14 tk3 d1L d2L h15 xB dB h16 hND0 gI LI hI BI XI TI tkI h2I h1I FI NI TcI kXI hC FC NC
  clear NI FI TI XI BI
  refine Stp.in ?_
  k_with_none
  refine lp_list_L [Str.ofString "first", Str.ofString "own", Str.ofString "left", Str.ofString "turn"] (fun i c => LOk ys i c ∧ OwnOff c.tups [xB, dB, d9, fL, cL, fT, cT, lD, lA, lH, lM, lK, L' + 1 + 1, L' + 1, 91]) ⟨[], [], 0, [], 0, [], [], 0, [], [], 0, 0, _, []⟩ rfl hlg FC NC ?_ ?_ ?_ ?_
  · exact fun p hp => nomatch hp
  · exact ⟨LOk.zero ys _, fun p hp => nomatch hp⟩
  · rintro ⟨kv, ks, ke, mv, me, hv, hs, he, av, as, ae, off, ot, tups⟩ i v u1 h tk I io hv1 ⟨hok, hoff⟩ hI F1 N1
    k_fold
    obtain ⟨y, ty, rfl, hy⟩ := strsAt hi hv1
    have hMk := kstMark
    have hoff' : OwnOff tups [xB, dB, d9, fL, cL, fT, cT, lD, lA, lH, lM, lK, L' + 1 + 1, L' + 1, 91] := hoff
    have hND1 := nd_pushNe hI (nd_own hND0 hoff') rfl
    clear hI
    have hokO := hok
    obtain ⟨q1, q2, q3, q4, q5, q6, q7, q8, q10, q9⟩ := hok
    dsimp only at q1 q2 q3 q4 q5 q6 q7 q8 q9 q10 N1
    have hi5 : i < 5 := by
      obtain ⟨q, _⟩ := List.getElem?_eq_some_iff.mp hy
      omega
    have hyl := hlen2 y (List.mem_of_getElem? hy)
    have hcl : (commentS y).length ≤ 30 := by have := commentS_len y; omega
    generalize hcy : commentS y = cy at hcl
    k_with "pyIter ref" => refine Stp.go ?_
    k_with "call ref" => ((with_reducible show wpAny _ _ (call (Value.ref 77) _) _ _ _); refine wpAny_call (comment_line_spec (n := n + 1) (Std.of (by k_asm) (by k_asm) (by k_asm) (by k_asm) rfl rfl (by dsimp only; omega) (by dsimp only; omega)) (by omega) (by omega) ?_); intro t8 h8' tk8 k8; (try rw [hcy]); rename Fr _ _ _ _ => kF; rename News _ _ _ _ => kN; replace kF := Fr.keeps kF k8; replace kN := News.keeps kN k8)
    w_strict k_steps
    rename_i xO dO h20 gJ LJ h21 BJ XJ TJ tkJ h22 h23 FJ NJ TcJ kXJ tl kl hll DJ h24 l1j hND2 h25 h26 h27 h28 FK NK hR tkR t1R u1R v1R hRng FR NR kR
    clear NK FK NJ FJ TJ XJ BJ
    refine Stp.in ?_
    k_with_none
    have hL0 : (cy ++ Str.ofString "\n").length ≤ 31 := by rw [slen_app, show (Str.ofString "\n").length = 1 from by decide +kernel]; omega
    rw [← slen_app] at hRng
    generalize hleft : cy ++ Str.ofString "\n" = left0 at *
    refine lp_range_I (n := left0.length) [] (IOk hs as left0 (catS ks) off mv me tups) ⟨⟨kv, ks, ke, mv, me, hv, hs, he, av, as, ae, off, ot, tups⟩, 0, _, left0, _⟩ rfl (by exact hRng) (small_nat (by omega)) (rs_nat _) (by exact FR) (by exact NR) (by kst_all) ⟨q1, q2, q3, q4, q5, rfl, rfl, Nat.zero_add _, rfl, rfl, rfl, rfl, Nat.le_refl _⟩ ?_ ?_
    · rintro ⟨⟨kv', ks', ke', mv', me', hv', hs', he', av', as', ae', off', ot', tups'⟩, oo, oot, left, lt⟩ j tj u2 h30 tk30 I2 io2 hj hok hI2 F2 N2
      k_fold
      have hokK := hok
      have hI2K := hI2
      obtain ⟨r1, r2, r3, r4, r5, r6, r7, r8, r9, r10, r11, r12, r13⟩ := hok
      dsimp only at r1 r2 r3 r4 r5 r6 r7 r8 r9 r10 r11 r12 r13 N2 hI2
      subst r10 r11 r12
      have hND3 := nd_pushNe hI2 hND2 rfl
      have hkl : kv'.length = ks'.length := r1.length
      have hhl : hv'.length = hs'.length := r2.length
      have hal : av'.length = as'.length := by rw [r3.length, List.length_map]
      have hll' : left.length ≤ 31 := by omega
      k_with "getMethod ref" => (refine fn_getMethod (by k_asm) (by k_memK) (by k_memK) ?_; intro tk7)
      k_with "call builtin:len" => (refine led_len (by k_asm) (by k_memK) (by simp; omega) ?_; intro t7 tk7)
      k_with "subscriptTail" => (refine led_lastP (by k_asm) (by k_memK) ?_)
      k_with "subscriptTail" => (refine led_last (by k_asm) (by k_memK) ?_)
      k_with "call builtin:list.append" => (refine append_K (by k_asm) (by k_asm) (by k_upd) ?_ (by simp [sizeLine]; omega); intro h7 F7 N7)
      w_strict k_steps
      · rename ((_ : Str) != Str.ofString "") = true => hbn
        show LpEnd _ _ _ _ _ _ _ _ _ _ _
        refine LpEnd.mk ⟨⟨kv' ++ [.str (pc ks'.length left) _], ks' ++ [pc ks'.length left], ke' + 1, mv', me', hv' ++ [.str left _], hs' ++ [left], he' + 1, av' ++ [.int ((pc ks'.length left).length : Int) _], as' ++ [(pc ks'.length left).length], ae' + 1, off' + (pc ks'.length left).length, _, tups'⟩, oo + (pc ks'.length left).length, _, Txt.slice left (some ((pc ks'.length left).length : Int)) none, _⟩ (by assumption) (by assumption) (fun p hp => .tail _ hp) (.head _) (ne_map hI2K rfl) (by kst_all) (fun z h1 h2 h3 => by have h2' : z ≠ Str.ofString "left" := h2 _ (List.mem_singleton.mpr rfl); show (if z = Str.ofString "left" then _ else if z = Str.ofString "turn" then _ else kstB _ _ z) = _; rw [if_neg h2', if_neg h1]; exact kstB_off h2') (hokK.step (bne_len hbn))
      · rename ((_ : Str) != Str.ofString "") = false => hbn
        show LpEnd _ _ _ _ _ _ _ _ _ _ _
        exact LpEnd.mk ⟨⟨kv', ks', ke', mv', me', hv', hs', he', av', as', ae', off', ot', tups'⟩, oo, oot, left, lt⟩ (by assumption) (by assumption) (fun p hp => .tail _ hp) (.head _) hI2K (by kst_all) (fun z h1 h2 h3 => by have h2' : z ≠ Str.ofString "left" := h2 _ (List.mem_singleton.mpr rfl); show (if z = Str.ofString "turn" then _ else kstB _ _ z) = _; rw [if_neg h1]; exact kstB_off h2') (hokK.stay (beq_len hbn))
    · rintro ⟨⟨kv', ks', ke', mv', me', hv', hs', he', av', as', ae', off', ot', tups'⟩, oo, oot, left, lt⟩ u2 h30 tk30 hok F2 N2
      have hokK := hok
      obtain ⟨r1, r2, r3, r4, r5, r6, r7, r8, r9, r10, r11, r12, r13⟩ := hok
      dsimp only at r1 r2 r3 r4 r5 r6 r7 r8 r9 r10 r11 r12 r13 N2
      subst r10 r11 r12
      clear N1 F1 NR FR
      have hml : mv'.length = i := by rw [TupsAre.length q9, membersOf_len, List.length_take]; obtain ⟨qq, _⟩ := List.getElem?_eq_some_iff.mp hy; omega
      k_with "call builtin:list.append" => (refine append_K (by k_asm) (by k_asm) (by k_upd) ?_ (by simp [sizeLine]; omega); intro h7 F7 N7)
      w_strict k_steps
      rename_i DT h40 l1T hND9 h41 F40 N40
      simp only [List.push_toArray] at N40
      show LpEnd _ _ _ _ _ _ _ _ _ _ _
      have hlz : left.length = 0 := by
        have e := iterH_done (hs, as, left0)
        rw [← r6] at e
        exact e
      refine LpEnd.mk ⟨kv', ks', ke', mv' ++ [.ref DT], me' + 1, hv', hs', he', av', as', ae', off', ot', (DT, { cls := .type "tuple", data := .seq #[.int (off : Int) ot, .int (oo : Int) oot] }) :: tups'⟩ F40 N40 (by kst_allIn) (by k_memK) ?_ (fun p hp => nomatch hp) ?_ ?_
      · exact nd_allNe2 (nd_tail (nd_tail (nd_tail (nd_tail hND9)))) (by k_ne) rfl
      · intro z h1 h2 h3
        have h3' : z ≠ Str.ofString "first" ∧ z ≠ Str.ofString "own" ∧ z ≠ Str.ofString "left" ∧ z ≠ Str.ofString "turn" := by
          refine ⟨?_, ?_, ?_, ?_⟩ <;> (rintro rfl; revert h3; decide)
        show (if z = Str.ofString "turn" then _ else kstB _ _ z) = _
        rw [if_neg h3'.2.2.2, kstB_off h3'.2.2.1, if_neg h3'.1, if_neg h3'.2.1, if_neg h3'.2.2.1, if_neg h1]
        show (if _ then _ else _) = _
        rw [if_neg (by rw [h3]; decide)]
      · refine ⟨?_, nd_off hND9 (fun b hb => .tail _ (.tail _ (.tail _ (.tail _ hb)))) hoff'⟩
        exact LOk.next (y := y) hokO hy hcy hleft hokK hlz hL0
  · rintro ⟨kv, ks, ke, mv, me, hv, hs, he, av, as, ae, off, ot, tups⟩ u1 h tk ⟨hok, hoff⟩ F1 N1
    have hMk := kstMark
    have hoff' : OwnOff tups [xB, dB, d9, fL, cL, fT, cT, lD, lA, lH, lM, lK, L' + 1 + 1, L' + 1, 91] := hoff
    have hND1 := nd_own hND0 hoff'
    clear hND0
    have hvl : vs.length = ys.length := hi.length
    rw [hvl] at hok
    have hokO := hok
    obtain ⟨q1, q2, q3, q4, q5, q6, q7, q8, q10, q9⟩ := hok
    rw [List.take_length] at q6 q7 q8 q9
    dsimp only at q1 q2 q3 q4 q5 q6 q7 q8 q9 q10 N1
    have hkl : kv.length = ks.length := q1.length
    have htl : (catS ks).length ≤ 100000 := by rw [q7]; have := textOf_len ys hlen2; omega
    k_with "call builtin:str.join" => (refine led_join (by k_asm) (by k_memK) (by assumption) (by assumption) ?_; intro t7 tk7)
    w_strict k_steps
    rename News _ _ _ _ => N50
    rename Fr _ _ _ _ => F50
    show R (.ok (.ret (.ref _))) _
    rw [q7] at N50
    subst q8
    have hfr := fresh_of N50 hgk
    refine k _ lM lH lA mv me hv he av ae tups t7 ot _ _ _ (fun b o hb e => F50.keep b o (hgk b o hb e)) ?_ (N50 (91, _) (by k_memK)).1 q9 (by rw [← q6]; exact q2) (by rw [← q6]; exact q3)
    refine List.forall_mem_cons.mpr ⟨⟨(N50 _ (by k_memK)).1, hfr _ (by k_memK) (by k_ne)⟩, ?_⟩
    refine List.forall_mem_cons.mpr ⟨⟨(N50 _ (by k_memK)).1, hfr _ (by k_memK) (by k_ne)⟩, ?_⟩
    refine List.forall_mem_cons.mpr ⟨⟨(N50 _ (by k_memK)).1, hfr _ (by k_memK) (by k_ne)⟩, ?_⟩
    refine List.forall_mem_cons.mpr ⟨⟨(N50 _ (by k_memK)).1, hfr _ (by k_memK) (by k_ne)⟩, ?_⟩
    intro p hp
    exact ⟨(N50 p (by repeat (first | exact hp | refine List.Mem.tail _ ?_))).1, hfr p (by repeat (first | exact hp | refine List.Mem.tail _ ?_)) (hoff' p hp 91 (by k_memK))⟩
end
local macro_rules | `(tactic| walk_at "newList") => `(tactic| (k_here; dsimp only))
local macro_rules | `(tactic| walk_at "newTuple") => `(tactic| (k_here; dsimp only))
local macro_rules | `(tactic| walk_at "callWith") => `(tactic| (k_here; dsimp only))
local macro_rules | `(tactic| walk_at "storeName") => `(tactic| (k_here; dsimp only))
local macro_rules | `(tactic| walk_at "pyIter") => `(tactic| (k_here; dsimp only))

/- part G9 -/
section
open PySem PySem.W PyProof.Rows PySem.Calls
theorem mem_due {a b c d e : Addr × Obj} {tups : List (Addr × Obj)} {p : Addr × Obj} (h : p ∈ a :: b :: c :: d :: tups) : p ∈ a :: e :: d :: c :: b :: tups := by
  simp only [List.mem_cons] at h ⊢
  rcases h with h | h | h | h | h <;> simp [h]
theorem law_due_spec {n : Nat} {w : World} {A : Around} {s : Shared}
    {mean : ExcName → Option Value} {mg mb : Str → Option Value} {R : Result → Shared → Prop}
    {l : Addr} {vs : List Value} {ys : List Str} (S : Std n w mean mg mb A s) (hn : n ≤ 5)
    (hl : s.heap.IsList l vs.toArray) (hi : StrsAre vs ys) (hlen : ys.length ≤ 5) (hlen2 : ∀ y ∈ ys, y.length ≤ 20 ∧ Oct y)
    (k : ∀ a lM lH lA mv me hv he av ae tups t1 t2 h' tk, (∀ b o, s.heap.get? b = some o → h'.get? b = some o) →
      (∀ p ∈ (a, ({ cls := .type "tuple", data := .seq #[.str (textOf ys) t1, .ref lM, .int ((textOf ys).length : Int) t2, .ref lH, .ref lA] } : Obj)) :: (lM, W.listOf mv.toArray me) :: (lH, W.listOf hv.toArray he) :: (lA, W.listOf av.toArray ae) :: tups, h'.get? p.1 = some p.2 ∧ s.heap.get? p.1 = none) →
      TupsAre tups mv (membersOf ys) → StrsAre hv (allH ys).1 → IntsAre av ((allH ys).2.map (fun (n : Nat) => (n : Int))) → R (.ok (.ret (.ref a))) { s with heap := h', toks := tk }) :
    codeAny (model PySem.Challenge.rw_mr0023_01.row.prog w) A (.call (.ref 103) ⟨[.ref l], []⟩) R s := by
  obtain ⟨A₀, base, outer, h₀, L, m, env, d, u, gs, rfl, hd, hu, B, F, X, T, hf, hke⟩ := S
  revert X; k_fill; intro X
  refine call_keep B F X T rfl hf hke (by k_is) (by k_is) (by k_room) (BindsTo.of_eq (binds := [(Str.ofString "lines", .ref l)]) rfl) (locs rfl) ?_
  clear B F X T
  intro L' h' F' N' B' X' T'
  try dsimp only
  k_fold
  k_with_none
  k_with "pyIter ref" => refine Stp.go ?_
  have hND := nd_nil
  k_steps
  rename_i lM h1 lH h2 lA h3 lD h4 l1d hND0 h5 h6 h7 h8 h9 FC NC
  generalize s.toks + [(Str.ofString "lines", Value.ref l)].length = tk0 at FC NC
  refine Stp.in ?_
  k_with_none
  refine lp_list (σ := DS) (fun c => (lD, { cls := .type "tuple", data := .seq #[.str (Str.ofString "") tk0, .ref lM, .ref lH, .ref lA] }) :: (lA, W.listOf c.av.toArray c.ae) :: (lH, W.listOf c.hv.toArray c.he) :: (lM, W.listOf c.mv.toArray c.me) :: c.tups) (fun c => [(Str.ofString "text", .str c.text c.tt)]) [Str.ofString "left", Str.ofString "turn"] (fun i c => DOk ys i c ∧ OwnOff c.tups [lD, lA, lH, lM]) ⟨Str.ofString "", tk0, [], 0, [], [], 0, [], [], 0, []⟩ rfl hl (by exact FC) (by exact NC) (by kst_all) ⟨DOk.zero ys _, fun p hp => nomatch hp⟩ ?_ ?_
  · rintro ⟨text, tt, mv, me, hv, hs, he, av, as, ae, tups⟩ i v u1 h tk I io hv1 ⟨hok, hoff⟩ hI F1 N1
    k_fold
    obtain ⟨y, ty, rfl, hy⟩ := strsAt hi hv1
    have hMk := kstMark
    have hoff' : OwnOff tups [lD, lA, lH, lM] := hoff
    have hokO := hok
    obtain ⟨q2, q3, q5, q6, q7, q10, q9⟩ := hok
    have hND1 := nd_pushNe hI (nd_own hND0 hoff') rfl
    dsimp only at q2 q3 q5 q6 q7 q9 q10 N1 F1
    have hi5 : i < 5 := by
      obtain ⟨q, _⟩ := List.getElem?_eq_some_iff.mp hy
      omega
    obtain ⟨hyl, hyo⟩ := hlen2 y (List.mem_of_getElem? hy)
    have hml : mv.length = i := by rw [TupsAre.length q9, membersOf_len, List.length_take]; obtain ⟨qq, _⟩ := List.getElem?_eq_some_iff.mp hy; omega
    have htx : text.length ≤ 200 := by rw [q7]; have := textOf_len (ys.take i) (fun z hz => (hlen2 z (List.mem_of_mem_take hz)).1); rw [List.length_take] at this; omega
    have hcl : (lineOf y).length ≤ 31 := by have := lineOf_len y; omega
    generalize hcy : lineOf y = left0 at hcl
    k_with "pyIter ref" => refine Stp.go ?_
    k_with "call builtin:list.append" => (refine append_K (by k_asm) (by k_asm) (by k_upd) ?_ (by simp [sizeLine]; omega); intro h7' F7 N7)
    k_with "call ref" => refine Stp.go ?_
    w_strict k_steps
    refine Stp.in ?_
    refine wpAny_call (law_written_spec (n := n + 1) (Std.of (by k_asm) (by k_asm) (by k_asm) (by k_asm) rfl rfl (by dsimp only; omega) (by dsimp only; omega)) (by omega) (by omega) hyo ?_)
    intro t8 h8' tk8 k8
    (try rw [hcy])
    rename Fr _ _ _ _ => kF
    rename News _ _ _ _ => kN
    replace kF := Fr.keeps kF k8
    replace kN := News.keeps kN k8
    k_with_none
    k_with "pyIter ref" => refine Stp.go ?_
    k_with "call builtin:list.append" => (refine append_K (by k_asm) (by k_asm) (by k_upd) ?_ (by simp [sizeLine]; omega); intro h7' F7 N7)
    try dsimp only
    w_strict k_steps
    rename_i h19 tk1 DT h20 l1T hND2 h21 tk9 tT kT hT h22 FX NX hR tkR t1R u1R v1R hRng FR NR kR
    clear FX NX
    refine Stp.in ?_
    k_with_none
    simp only [List.push_toArray] at NR
    refine lp_range (n := left0.length) (σ := DI) (fun c => (DT, { cls := .type "tuple", data := .seq #[.int (text.length : Int) (tk1 + 1), .int (left0.length : Int) (tk1 + 1 + 1 + 1)] }) :: (I, io) :: (lD, { cls := .type "tuple", data := .seq #[.str (Str.ofString "") tk0, .ref lM, .ref lH, .ref lA] }) :: (lA, W.listOf c.av.toArray c.ae) :: (lH, W.listOf c.hv.toArray c.he) :: (lM, W.listOf (mv ++ [Value.ref DT]).toArray (me + 1)) :: tups) (fun c => [(Str.ofString "left", .str c.left c.lt)]) [] (DIOk hs as left0) ⟨hv, hs, he, av, as, ae, left0, t8⟩ rfl (by exact hRng) (small_nat (by omega)) (rs_nat _) (by exact FR) (by exact NR) (by kst_all) ⟨q2, q3, q5, rfl, Nat.le_refl _, Nat.le_refl _⟩ ?_ ?_
    · rintro ⟨hv', hs', he', av', as', ae', left, lt⟩ j tj u2 h30 tk30 I2 io2 hj hok2 hI2 F2 N2
      k_fold
      have hok2K := hok2
      have hI2K := hI2
      obtain ⟨r2, r3, r5, r6, r8, r13⟩ := hok2
      dsimp only at r2 r3 r5 r6 r8 r13 N2 hI2
      have hND3 := nd_pushNe hI2 hND2 rfl
      have hhl : hv'.length = hs'.length := r2.length
      have hal : av'.length = as'.length := by rw [r3.length, List.length_map]
      clear FR NR
      k_with "call builtin:list.append" => (refine append_K (by k_asm) (by k_asm) (by k_upd) ?_ (by simp [sizeLine]; omega); intro h7 F7 N7)
      w_strict k_steps
      · rename ((_ : Str) != Str.ofString "") = true => hbn
        rename News _ _ _ _ => N40
        rename Fr _ _ _ _ => F40
        have hmin : (if (left.length : Int) < 1 + ((as'.map (fun (n : Nat) => (n : Int))).length : Int).fmod 3 then (left.length : Int) else 1 + ((as'.map (fun (n : Nat) => (n : Int))).length : Int).fmod 3) = ((pc as'.length left).length : Int) := by
          rw [pc_min, List.length_map]; split <;> omega
        rw [hmin] at N40 F40
        show LpEnd _ _ _ _ _ _ _ _ _ _ _
        exact LpEnd.mk ⟨hv' ++ [.str left _], hs' ++ [left], he' + 1, av' ++ [.int ((pc as'.length left).length : Int) _], as' ++ [(pc as'.length left).length], ae' + 1, Txt.slice left (some ((pc as'.length left).length : Int)) none, _⟩ F40 N40 (fun p hp => .tail _ hp) (.head _) (ne_map hI2K rfl) (by kst_all) (fun z h1 h2 h3 => by have h2' : z ≠ Str.ofString "left" := h2 _ (List.mem_singleton.mpr rfl); show (if z = Str.ofString "left" then _ else if z = Str.ofString "turn" then _ else kstB _ _ z) = _; rw [if_neg h2', if_neg h1]; exact kstB_off h2') (hok2K.step (bne_len hbn))
      · rename ((_ : Str) != Str.ofString "") = false => hbn
        show LpEnd _ _ _ _ _ _ _ _ _ _ _
        exact LpEnd.mk ⟨hv', hs', he', av', as', ae', left, lt⟩ (by assumption) (by assumption) (fun p hp => .tail _ hp) (.head _) hI2K (by kst_all) (fun z h1 h2 h3 => by have h2' : z ≠ Str.ofString "left" := h2 _ (List.mem_singleton.mpr rfl); show (if z = Str.ofString "turn" then _ else kstB _ _ z) = _; rw [if_neg h1]; exact kstB_off h2') (hok2K.stay (beq_len hbn))
    · rintro ⟨hv', hs', he', av', as', ae', left, lt⟩ u2 h30 tk30 hok2 F2 N2
      dsimp only at N2
      w_strict k_steps
      show LpEnd _ _ _ _ _ _ _ _ _ _ _
      refine LpEnd.mk ⟨text ++ left0, tT, mv ++ [.ref DT], me + 1, hv', hs', he', av', as', ae', (DT, { cls := .type "tuple", data := .seq #[.int (text.length : Int) (tk1 + 1), .int (left0.length : Int) (tk1 + 1 + 1 + 1)] }) :: tups⟩ F2 N2 (by kst_allIn) (by k_memK) ?_ (by kst_all) ?_ ⟨DOk.next (y := y) hokO hy hcy hok2 hcl, nd_off hND2 (fun b hb => .tail _ hb) hoff'⟩
      · exact nd_allNe2 (nd_tail hND2) (by k_ne) rfl
      · intro z h1 h2 h3
        have h2' : z ≠ Str.ofString "text" := h2 _ (List.mem_singleton.mpr rfl)
        have h3' : z ≠ Str.ofString "left" ∧ z ≠ Str.ofString "turn" := by
          refine ⟨?_, ?_⟩ <;> (rintro rfl; revert h3; decide)
        show (if z = Str.ofString "turn" then _ else kstB _ _ z) = _
        rw [if_neg h3'.2, kstB_off h3'.1, if_neg h2', if_neg h3'.1, if_neg h1]
        show (if z = Str.ofString "text" then _ else (if _ then _ else _)) = _
        rw [if_neg h2', if_neg (by rw [h3]; decide)]
  · rintro ⟨text, tt, mv, me, hv, hs, he, av, as, ae, tups⟩ u1 h tk ⟨hok, hoff⟩ F1 N1
    have hMk := kstMark
    have hvl : vs.length = ys.length := hi.length
    rw [hvl] at hok
    obtain ⟨q2, q3, q5, q6, q7, q10, q9⟩ := hok
    rw [List.take_length] at q6 q7 q9
    dsimp only at q2 q3 q5 q6 q7 q9 q10 N1
    have htx : text.length ≤ 200 := by rw [q7]; have := textOf_len ys (fun z hz => (hlen2 z hz).1); omega
    w_strict k_steps
    rename News _ _ _ _ => N50
    rename Fr _ _ _ _ => F50
    show R (.ok (.ret (.ref _))) _
    subst q7
    exact k _ lM lH lA mv me hv he av ae tups tt _ _ _ F50.keep (fun p hp => ⟨(N50 p (mem_due hp)).1, (N50 p (mem_due hp)).2.2⟩) q9 (by rw [← q6]; exact q2) (by rw [← q6]; exact q3)
end

/- part G10 -/
section
open PySem PySem.W PyProof.Rows PySem.Calls
local macro_rules | `(tactic| walk_at "call type:enumerate") => `(tactic| ((with_reducible show wpAny _ _ (call (Value.type "enumerate") _) _ _ _); refine Stp.go ?_))
section
variable {prog : Program} {w : World} {A : Around} {E : Value → Shared → Prop} {s S : Shared} {env : Env} {h₀ h' : Heap} {L lP : Addr} {m : Str → Option Value} {led own : List (Addr × Obj)} {as : List Addr} {k tk : Nat} {test body orelse : PySem.Expr} {pos : Pos}
def Powers (vs : List Value) : Prop := (∃ t, vs = [.int 0 t]) ∨ ∃ t0 t1 t2 t3 t4 t5 t6 t7 t8 t9 ta tb tc td te, vs = [.int 0 t0, .int 6 t1, .int 9 t2, .int 10 t3, .int 16 t4, .int 20 t5, .int 21 t6, .int 22 t7, .int 24 t8, .int 25 t9, .int 27 ta, .int 28 tb, .int 30 tc, .int 31 td, .int 32 te]
/-- the list of powers, whichever way it was written -/
def PowJ (h₀ : Heap) (L : Addr) (m : Str → Option Value) (led own : List (Addr × Obj)) (as : List Addr) (S : Shared) (v : Value) (s' : Shared) : Prop :=
  ∃ lP h' tk vs k, v = .ref lP ∧ s' = { S with heap := h', toks := tk } ∧ Fr h₀ L h' m ∧ News h₀ L h' ((lP, W.listOf vs.toArray k) :: led) ∧ ND (lP :: as) own ∧ Powers vs
theorem PowJ.one {t : Tok} (F : Fr h₀ L h' m) (N : News h₀ L h' ((lP, W.listOf #[.int 0 t] k) :: led)) (H : ND (lP :: as) own) : PowJ h₀ L m led own as S (.ref lP) { S with heap := h', toks := tk } :=
  ⟨lP, h', tk, [.int 0 t], k, rfl, rfl, F, N, H, .inl ⟨t, rfl⟩⟩
theorem PowJ.many {t0 t1 t2 t3 t4 t5 t6 t7 t8 t9 ta tb tc td te : Tok} (F : Fr h₀ L h' m) (N : News h₀ L h' ((lP, W.listOf #[.int 0 t0, .int 6 t1, .int 9 t2, .int 10 t3, .int 16 t4, .int 20 t5, .int 21 t6, .int 22 t7, .int 24 t8, .int 25 t9, .int 27 ta, .int 28 tb, .int 30 tc, .int 31 td, .int 32 te] k) :: led)) (H : ND (lP :: as) own) : PowJ h₀ L m led own as S (.ref lP) { S with heap := h', toks := tk } :=
  ⟨lP, h', tk, [.int 0 t0, .int 6 t1, .int 9 t2, .int 10 t3, .int 16 t4, .int 20 t5, .int 21 t6, .int 22 t7, .int 24 t8, .int 25 t9, .int 27 ta, .int 28 tb, .int 30 tc, .int 31 td, .int 32 te], k, rfl, rfl, F, N, H, .inr ⟨t0, t1, t2, t3, t4, t5, t6, t7, t8, t9, ta, tb, tc, td, te, rfl⟩⟩
theorem if_powers {Q : Value → Shared → Prop} (F : Fr h₀ L s.heap m) (N : News h₀ L s.heap led) (H : ND as own) (_ : led.map (·.1) = as ++ own.map (·.1))
    (h1 : wpAny (model prog w) A (isTrue test env (eval test env)) (fun c s₂ => if c then wpAny (model prog w) A (eval body env) (PowJ h₀ L m led own as s) E s₂ else wpAny (model prog w) A (eval orelse env) (PowJ h₀ L m led own as s) E s₂) E s)
    (h2 : ∀ lP h' tk vs k, Fr h₀ L h' m → News h₀ L h' ((lP, W.listOf vs.toArray k) :: led) → ND (lP :: as) own → Powers vs → Q (.ref lP) { s with heap := h', toks := tk }) :
    wpAny (model prog w) A (eval (.IfExp test body orelse pos) env) Q E s :=
  wpAny_mono (IfExp_ h1) (by rintro _ _ ⟨lP, h', tk, vs, k, rfl, rfl, F, N, H, P⟩; exact h2 lP h' tk vs k F N H P) fun _ _ e => e
def FstJ (S : Shared) (v : Value) (s' : Shared) : Prop := ∃ m t tk, v = .int m t ∧ (1 ≤ m ∧ m ≤ 1000) ∧ s' = { S with toks := tk }
theorem FstJ.mk {m : Int} {t : Tok} (h1 : 1 ≤ m) (h2 : m ≤ 1000) : FstJ S (.int m t) { S with toks := tk } := ⟨m, t, tk, rfl, ⟨h1, h2⟩, rfl⟩
theorem if_first {Q : Value → Shared → Prop}
    (h1 : wpAny (model prog w) A (isTrue test env (eval test env)) (fun c s₂ => if c then wpAny (model prog w) A (eval body env) (FstJ s) E s₂ else wpAny (model prog w) A (eval orelse env) (FstJ s) E s₂) E s)
    (h2 : ∀ m t tk, 1 ≤ m → m ≤ 1000 → Q (.int m t) { s with toks := tk }) :
    wpAny (model prog w) A (eval (.IfExp test body orelse pos) env) Q E s :=
  wpAny_mono (IfExp_ h1) (by rintro _ _ ⟨m, t, tk, rfl, ⟨a, b⟩, rfl⟩; exact h2 m t tk a b) fun _ _ e => e
end
theorem law_harm_spec {n : Nat} {w : World} {A : Around} {s : Shared}
    {mean : ExcName → Option Value} {mg mb : Str → Option Value} {R : Result → Shared → Prop}
    {l lm : Addr} {vs mv : List Value} {ns : List Int} {ps : List (Nat × Nat)} {size : Nat} {ts : Tok} {tups : List (Addr × Obj)} (S : Std n w mean mg mb A s) (hn : n ≤ 5)
    (hl : s.heap.IsList l vs.toArray) (hi : IntsAre vs ns) (hlen : ns.length ≤ 16) (hm : s.heap.IsList lm mv.toArray) (ht : TupsAre tups mv ps) (htb : ∀ p ∈ tups, s.heap.get? p.1 = some p.2) (hps : 1 ≤ ps.length) (hps5 : ps.length ≤ 5) (hpl : ∀ p ∈ ps, 1 ≤ p.2 ∧ p.2 ≤ 100 ∧ p.1 ≤ 1000) (hsz : size ≤ 8000)
    (k : ∀ a us ys e h' tk, (∀ b o, s.heap.get? b = some o → h'.get? b = some o) → s.heap.get? a = none → h'.get? a = some (W.listOf us.toArray e) → IntsAre us ys → ys.length = size → (∀ b ∈ ys, 0 ≤ b ∧ b ≤ 1) → R (.ok (.ret (.ref a))) { s with heap := h', toks := tk }) :
    codeAny (model PySem.Challenge.rw_mr0023_01.row.prog w) A (.call (.ref 110) ⟨[.ref l, .ref lm, .int (size : Int) ts], []⟩) R s := by
  obtain ⟨A₀, base, outer, h₀, L, m, env, d, u, gs, rfl, hd, hu, B, F, X, T, hf, hke⟩ := S
  revert X; k_fill; intro X
  refine call_keep B F X T rfl hf hke (by k_is) (by k_is) (by k_room) (BindsTo.of_eq (binds := [(Str.ofString "numbers", .ref l), (Str.ofString "members", .ref lm), (Str.ofString "size", .int (size : Int) ts)]) rfl) (locs rfl) ?_
  clear B F X T
  intro L' h' F' N' B' X' T'
  try dsimp only
  k_fold
  k_with_none
  have hml : mv.length = ps.length := ht.length
  have hND := nd_nil
  w_strict k_steps
  rename_i lZ h1 lH h2 i1 n1 s1 e1 e2 e3 h3 lC h4 FC NC l1c hND0
  refine Stp.in ?_
  k_with_none
  refine lt_enumL (σ := HS) (fun c => [(lC, W.listOf #[Value.int 194 tk, Value.int 355 (tk + 1), Value.int 0 (tk + 1 + 1)] 0), (lH, W.listOf c.vals.toArray c.e), (lZ, W.listOf #[Value.int 0 (s.toks + [(Str.ofString "numbers", Value.ref l), (Str.ofString "members", Value.ref lm), (Str.ofString "size", Value.int (size : Int) ts)].length)] 0)]) (fun _ => [])
    [Str.ofString "k", Str.ofString "more", Str.ofString "drawn", Str.ofString "lone", Str.ofString "row", Str.ofString "rest", Str.ofString "at", Str.ofString "length", Str.ofString "first", Str.ofString "powers", Str.ofString "turn", Str.ofString "power"] (fun _ c => HOk size c) ⟨_, _, 0⟩ rfl FC NC (fun _ => .head _) rfl rfl (by kst_all) ⟨i1, by rw [e1]; omega, by intro b hb; rw [krep_flat] at hb; rw [List.eq_of_mem_replicate hb]; omega⟩ ?_ ?_
  · rintro ⟨vals, hns, he⟩ i x t T u1 h tk1 I o1 o2 hx hT ⟨q1, q2, q3⟩ ho1 ho2 hI hI2 F1 N1
    refine lt_hide ?_
    intro P9 hP9
    k_fold
    have hMk := kstMark
    obtain ⟨hi3, more, tm, rfl⟩ := more_at hx
    have hIK := hI
    have hI2K' := hI2
    dsimp only at q1 q2 q3 N1 hI hI2
    have hND1 := nd_push_en hI hI2 (Nat.ne_of_lt (Nat.lt_succ_self I)) hND0 rfl
    clear FC NC
    k_with "pyIter ref" => refine Stp.go ?_
    k_with "exec For Name Call cons nil" => kpr_for
    k_with "call builtin:len" => (refine base_len (by k_asm) hm (by omega) ?_; intro t8 tk8)
    k_with "subscriptTail" => (refine base_pair (by k_asm) hm ht htb (by exact Int.fmod_nonneg_of_pos _ (by omega)) (by exact Int.fmod_lt_of_pos _ (by omega)) (by exact fmod_fit (by omega) (by omega)) ?_; intro a8 i8 j8 t8 u8 hij8 hT8; have hij := hpl _ hij8; dsimp only at hij)
    k_with "call builtin:sum" => ((rename ND _ _ => hN8); refine below_nd (by assumption) hN8 rfl ?_; clear hN8; intro hN8; refine led_sumPick rfl (by k_asm) (by k_asm) (by k_memK) hi ?_; intro d8 h8 tk8 t8 F8 N8)
    k_with "eval IfExp" => ((with_reducible show wpAny _ _ (eval (Expr.IfExp _ (Expr.List _ _) _ _) _) _ _ _); refine if_powers (by k_asm) (by k_asm) (by with_reducible assumption) rfl ?_ ?_; rotate_left; intro lP8 hP8 tkP8 vP8 kP8 FP8 NP8 hNP8 hvP8; rotate_right)
    k_with "eval IfExp" => ((with_reducible show wpAny _ _ (eval (Expr.IfExp _ (Expr.BinOp _ _ _ _) _ _) _) _ _ _); refine if_first ?_ ?_; rotate_left; intro m8 tm8 tkm8 hm8 hM8; rotate_right)
    w_strict k_steps
    · exact FstJ.mk (by omega) (by omega)
    · exact FstJ.mk (by omega) (by omega)
    · exact PowJ.one (by assumption) (by assumption) (by assumption)
    · exact PowJ.many (by assumption) (by assumption) (by assumption)
    refine Stp.in ?_
    k_with_none
    rename IsRange _ _ _ _ _ _ _ _ => hR
    rename Fr _ _ _ _ => FX
    rename News _ _ _ _ => NX
    rename ND _ _ => hNDX
    have hf8 : 0 ≤ (((d8 + more).fdiv 32).fdiv (mv.length : Int)).fmod m8 := Int.fmod_nonneg_of_pos _ (by omega)
    have hg8 : (((d8 + more).fdiv 32).fdiv (mv.length : Int)).fmod m8 < m8 := Int.fmod_lt_of_pos _ (by omega)
    generalize (((d8 + more).fdiv 32).fdiv (mv.length : Int)).fmod m8 = f8 at *
    have hr0 : 0 ≤ ((d8 + more).fdiv 2).fmod 16 := Int.fmod_nonneg_of_pos _ (by decide)
    have hr1 : ((d8 + more).fdiv 2).fmod 16 < 16 := Int.fmod_lt_of_pos _ (by decide)
    generalize ((d8 + more).fdiv 2).fmod 16 = row at *
    refine lp_range_H [Str.ofString "power"] (fun _ c => HOk size c) ⟨vals, hns, he⟩ rfl hR FX NX ⟨q1, q2, q3⟩ ?_ ?_
    · rintro ⟨vals', hns', he'⟩ j tj u2 h30 tk30 I2 io2 hj hok2 hI2 F2 N2
      k_fold
      have hok2K := hok2
      obtain ⟨r1, r2, r3⟩ := hok2
      have hI2K := hI2
      dsimp only at r1 r2 r3 N2 hI2
      have hND2 := nd_pushNe hI2 hNDX rfl
      clear FX NX
      k_with "pyIter ref" => refine Stp.go ?_
      w_strict k_steps
      refine Stp.in ?_
      k_with_none
      rename Fr _ _ _ _ => FY
      rename News _ _ _ _ => NY
      refine lp_listN_H [] (fun _ c => HOk size c) ⟨vals', hns', he'⟩ rfl FY NY rfl rfl hok2K ?_ ?_
      · rintro ⟨vals2, hns2, he2⟩ j3 v3 u3 h40 tk40 I3 io3 hj3 hok3 hI3 F3 N3
        k_fold
        have hok3K := hok3
        obtain ⟨y1, y2, y3⟩ := hok3
        have hI3K := hI3
        dsimp only at y1 y2 y3 N3 hI3
        have hND3 := nd_pushNe hI3 hND2 rfl
        obtain ⟨pw, tp, hpw, rfl⟩ := power_at hj3 hvP8
        clear FY NY
        k_with "setItem" => (refine ksa_set (by k_asm) (by k_asm) (by k_upd) y1 (by omega) (by omega) (by omega) ?_; intro h9 F9 N9 _ _ _)
        w_strict k_steps
        · show LpEnd _ _ _ _ _ _ _ _ _ _ _
          exact LpEnd.mk ⟨_, _, he2⟩ (by assumption) (by assumption) (fun p hp => .tail _ hp) (.head _) (ne_map hI3K (by exact rfl)) (fun p hp => nomatch hp) (fun z h1 h2 h3 => by show (if z = Str.ofString "power" then _ else kstB _ _ z) = _; rw [if_neg h1]; rfl) (hok3K.turned (by omega) (by omega))
        all_goals
          show LpEnd _ _ _ _ _ _ _ _ _ _ _
          exact LpEnd.mk ⟨vals2, hns2, he2⟩ (by assumption) (by assumption) (fun p hp => .tail _ hp) (.head _) hI3K (fun p hp => nomatch hp) (fun z h1 h2 h3 => by show (if z = Str.ofString "power" then _ else kstB _ _ z) = _; rw [if_neg h1]; rfl) hok3K
      · rintro ⟨vals2, hns2, he2⟩ u3 h40 tk40 hok3 F3 N3
        dsimp only at N3
        w_strict k_steps
        show LpEnd _ _ _ _ _ _ _ _ _ _ _
        refine LpEnd.mk ⟨vals2, hns2, he2⟩ F3 N3 (fun p hp => .tail _ hp) (.head _) (ne_map hI2K rfl) (fun p hp => nomatch hp) (fun z h1 h2 h3 => ?_) hok3
        have z1 : z ≠ Str.ofString "power" := ne_stored h3 (.head _)
        show (if z = Str.ofString "power" then _ else (if z = Str.ofString "turn" then _ else (if [Str.ofString "power"].contains z = true then _ else _))) = _
        rw [if_neg z1, if_neg h1, if_neg (by rw [h3]; decide)]
    · rintro ⟨vals2, hns2, he2⟩ u3 h40 tk40 hok3 F3 N3
      dsimp only at N3
      w_strict k_steps
      refine hP9 _ _ ?_
      show LtEnd _ _ _ _ _ _ _ _ _ _
      refine LtEnd.mk ⟨vals2, hns2, he2⟩ F3 N3 (fun p hp => .tail _ (.tail _ (.tail _ (.tail _ (.tail _ hp))))) ?_ ?_ (fun p hp => nomatch hp) (fun z h2 h3 => ?_) hok3
      · intro p hp
        simp only [List.mem_cons, List.not_mem_nil, or_false] at hp
        rcases hp with rfl | rfl
        · exact .tail _ (.tail _ (.tail _ (.head _)))
        · exact .tail _ (.tail _ (.tail _ (.tail _ (.head _))))
      · intro p hp q hq
        simp only [List.mem_cons, List.not_mem_nil, or_false] at hq
        rcases hq with rfl | rfl
        · exact ne_map hI2K' (by exact rfl) p hp
        · exact ne_map hIK (by exact rfl) p hp
      · have z1 : z ≠ Str.ofString "k" := ne_stored h3 (by simp)
        have z2 : z ≠ Str.ofString "more" := ne_stored h3 (by simp)
        have z3 : z ≠ Str.ofString "drawn" := ne_stored h3 (by simp)
        have z4 : z ≠ Str.ofString "lone" := ne_stored h3 (by simp)
        have z5 : z ≠ Str.ofString "row" := ne_stored h3 (by simp)
        have z6 : z ≠ Str.ofString "rest" := ne_stored h3 (by simp)
        have z7 : z ≠ Str.ofString "at" := ne_stored h3 (by simp)
        have z8 : z ≠ Str.ofString "length" := ne_stored h3 (by simp)
        have z9 : z ≠ Str.ofString "first" := ne_stored h3 (by simp)
        have za : z ≠ Str.ofString "powers" := ne_stored h3 (by simp)
        have zb : z ≠ Str.ofString "turn" := ne_stored h3 (by simp)
        have zc : z ≠ Str.ofString "power" := ne_stored h3 (by simp)
        have zd : [Str.ofString "power"].contains z = false := by simp [zc]
        simp only [kstB, if_neg z1, if_neg z2, if_neg z3, if_neg z4, if_neg z5, if_neg z6, if_neg z7, if_neg z8, if_neg z9, if_neg za, if_neg zb, zd, h3, Bool.false_eq_true, if_false]
  · rintro ⟨vals, hns, he⟩ u1 h tk1 ⟨q1, q2, q3⟩ F1 N1
    dsimp only at q1 q2 q3 N1
    clear FC NC
    w_strict k_steps
    show R (.ok (.ret (.ref lH))) _
    have z := N1 (lH, _) (.tail _ (.head _))
    exact k lH _ _ _ _ _ F1.keep z.2.2 z.1 q1 q2 q3
end

/- part G12 -/
section
open PySem PySem.W PyProof.Rows PySem.Calls
structure RS where
  st : Int
  tt : Tok
  o : Obj
theorem getD_small {ns : List Int} (hb : ∀ b ∈ ns, 0 ≤ b ∧ b ≤ 1) (j : Nat) : (ns.getD j 0).natAbs < 2 ^ 64 := by
  rcases Nat.lt_or_ge j ns.length with h | h
  · have := hb (ns.getD j 0) (by rw [List.getD_eq_getElem?_getD, List.getElem?_eq_getElem h]; exact List.getElem_mem _)
    omega
  · rw [List.getD_eq_getElem?_getD, List.getElem?_eq_none h]; decide
local macro_rules | `(tactic| walk_at "binaryOp LShift int int") => `(tactic| ((with_reducible show wpAny _ _ (binaryOp Operator.LShift (Value.int (List.getD _ _ _) _) _) _ _ _); refine lshift_int_small (by omega) (by omega) (getD_small (by assumption) _) ?_))
local macro_rules | `(tactic| walk_at "call type:enumerate") => `(tactic| ((with_reducible show wpAny _ _ (call (Value.type "enumerate") _) _ _ _); refine Stp.go ?_))
local macro_rules | `(tactic| walk_at "eval Name") => `(tactic| ((with_reducible rename (_ : Int) < 0 + (_ : Int) => hk9); replace hk9 := ltI8 hk9))
theorem law_read_spec {n : Nat} {w : World} {A : Around} {s : Shared}
    {mean : ExcName → Option Value} {mg mb : Str → Option Value} {R : Result → Shared → Prop}
    {x : Str} {t : Tok} {l : Addr} {vs : List Value} {ns : List Int} (S : Std n w mean mg mb A s) (hn : n ≤ 5)
    (hx : x.length ≤ 100) (ho : ∀ c ∈ x.cps, c < 256) (hl : s.heap.IsList l vs.toArray) (hi : IntsAre vs ns) (hb : ∀ b ∈ ns, 0 ≤ b ∧ b ≤ 1) (hlen : ns.length = 8 * x.length)
    (k : ∀ t' h' tk, (∀ b o, s.heap.get? b = some o → h'.get? b = some o) → R (.ok (.ret (.int (Builtin.bitXor (readI x ns x.length) (2 ^ Int.toNat 32 - 1)) t'))) { s with heap := h', toks := tk }) :
    codeAny (model PySem.Challenge.rw_mr0023_01.row.prog w) A (.call (.ref 127) ⟨[.str x t, .ref l], []⟩) R s := by
  obtain ⟨A₀, base, outer, h₀, L, m, env, d, u, gs, rfl, hd, hu, B, F, X, T, hf, hke⟩ := S
  revert X; k_fill; intro X
  refine call_keepC B F X T rfl hf hke (by k_is) (by k_is) (by k_room) (BindsTo.of_eq (binds := [(Str.ofString "text", .str x t), (Str.ofString "harm", .ref l)]) rfl) rfl (by decide +kernel) ?_
  clear B F X T
  intro L' h' tk' cells' F' N' Y' B' X' T'
  k_cells Y'
  try dsimp only
  with_reducible show wpAny _ _ _ _ _ _
  k_fold
  k_with_none
  have hND := nd_two (L := L')
  w_strict k_steps
  refine For_turns (by k_asm) ?_
  w_strict k_steps
  rename_i oK oH dK dH h1 FC NC
  refine Stp.in ?_
  k_with_none
  refine lt_enumS (σ := RS) (fun c => [(L' + 1 + 1, c.o), (L' + 1, oH)]) (fun c => [(Str.ofString "state", .int c.st c.tt)]) [Str.ofString "sign", Str.ofString "octet"] (fun i c => (∃ v₀, c.o.data = .cell v₀) ∧ c.st = readI x ns i) ⟨2 ^ Int.toNat 32 - 1, _, oK⟩ rfl FC NC (by kst_all) ⟨⟨_, dK⟩, rfl⟩ ?_ ?_
  · rintro ⟨st, tt, o⟩ i ch t1 tv T u1 h tk1 I o1 o2 hch hT ⟨⟨v₀, q1⟩, q2⟩ hI hI2 F1 N1
    refine lt_hide ?_
    intro P9 hP9
    k_fold
    have hMk := kstMark
    have hIK := hI
    have hI2K' := hI2
    dsimp only at q1 q2 N1 hI hI2
    have hND1 := nd_push_en hI hI2 (Nat.ne_of_lt (Nat.lt_succ_self I)) hND rfl
    clear hND
    have hich : i < x.length := by
      rcases Nat.lt_or_ge i x.length with q | q
      · exact q
      · rw [Array.getElem?_eq_none q] at hch; cases hch
    have hc256 : ch < 256 := ho ch (Array.mem_of_getElem? hch)
    clear FC NC
    k_with "call ref" => refine Stp.go ?_
    w_strict k_steps
    refine Stp.in ?_
    refine wpAny_call (gen_crc_spec (n := n + 1) (Std.of (by k_asm) (by k_asm) (by k_asm) (by k_asm) rfl rfl (by dsimp only; omega) (by dsimp only; omega)) (by omega) ?_)
    intro t8 h8' tk8 k8
    rename Fr _ _ _ _ => kF
    rename News _ _ _ _ => kN
    replace kF := Fr.keeps kF k8
    replace kN := News.keeps kN k8
    k_with_none
    try dsimp only
    w_strict k_steps
    rename Fr _ _ _ _ => F5
    rename News _ _ _ _ => N5
    rename Obj.data _ = Data.cell (some _) => dC
    refine hP9 _ _ ?_
    show LtEnd _ _ _ _ _ _ _ _ _ _
    refine LtEnd.mk ⟨_, _, _⟩ F5 N5 (fun p hp => .tail _ (.tail _ (.tail _ hp))) (fun p hp => ?_) ?_ (by kst_all) (fun z h2 h3 => ?_) ⟨⟨_, dC⟩, ?_⟩
    · simp only [List.mem_cons, List.not_mem_nil, or_false] at hp
      rcases hp with rfl | rfl
      · exact .tail _ (.head _)
      · exact .tail _ (.tail _ (.head _))
    · intro p hp q hq
      simp only [List.mem_cons, List.not_mem_nil, or_false] at hq
      rcases hq with rfl | rfl
      · exact ne_map hI2K' (by exact rfl) p hp
      · exact ne_map hIK (by exact rfl) p hp
    · have h2' : z ≠ Str.ofString "state" := h2 _ (List.mem_singleton.mpr rfl)
      have z1 : z ≠ Str.ofString "sign" := ne_stored h3 (by simp)
      have z2 : z ≠ Str.ofString "octet" := ne_stored h3 (by simp)
      simp only [kstB, if_neg h2', if_neg z1, if_neg z2, h3, Bool.false_eq_true, if_false]
    · show Builtin.bitXor _ _ = _
      rw [show readI x ns (i + 1) = Builtin.bitXor ((readI x ns i).fdiv (2 ^ Int.toNat 8)) (gRun (Builtin.bitAnd (Builtin.bitXor (readI x ns i) (octI (x.cps.getD i 0) ns i)) 255) 8) from rfl, ← q2]
      rw [show x.cps.getD i 0 = ch from by rw [Array.getD_eq_getD_getElem?, hch]; rfl]
      rfl
  · rintro ⟨st, tt, o⟩ u1 h tk1 ⟨_, q2⟩ F1 N1
    dsimp only at q2 N1
    clear FC NC
    w_strict k_steps
    show R (.ok (.ret (.int (Builtin.bitXor st _) _))) _
    rw [q2]
    rename Fr _ _ _ _ => F5
    exact k _ _ _ F5.keep
end

/- part G13 -/
section
open PySem PySem.W PyProof.Rows PySem.Calls
local macro_rules | `(tactic| walk_at "compareOp NotEq ref ref") => `(tactic| ((with_reducible show wpAny _ _ (compareOp CmpOp.NotEq (Value.ref _) (Value.ref _)) _ _ _); refine Stp.go ?_))
local macro_rules | `(tactic| walk_at "exec For Tuple Name") => `(tactic| ((with_reducible show wpAny _ _ (exec (Stmt.For (Expr.Tuple _ _ _) _ _ _ _) _) _ _ _); refine Stp.go ?_))
local macro_rules | `(tactic| walk_at "exec For Tuple Name cons nil") => `(tactic| ((with_reducible show wpAny _ _ (exec (Stmt.For (Expr.Tuple _ _ _) _ _ _ _) _) _ _ _); refine Stp.go ?_))
theorem own_len {hN : List Int} {a l tl ly : Nat} (h1 : hN.length = 8 * tl) (h2 : a + l ≤ tl) (h3 : l = ly) : (List.take (min (8 * ((a : Int) + (l : Int))).toNat hN.length - (8 * (a : Int)).toNat) (List.drop (8 * (a : Int)).toNat hN)).length = 8 * ly := by
  have e1 : (8 * ((a : Int) + (l : Int))).toNat = 8 * (a + l) := by omega
  have e2 : (8 * (a : Int)).toNat = 8 * a := by omega
  rw [e1, e2, List.length_take, List.length_drop, h1]
  clear e1 e2 h1
  omega
theorem mem_laid {a b c d e f g p : Addr × Obj} {tups : List (Addr × Obj)} (h : p ∈ a :: b :: c :: d :: e :: f :: g :: tups) : p ∈ (a :: b :: c :: d :: tups) ++ [e, f, g] := by
  simp only [List.mem_cons, List.mem_append, List.not_mem_nil, or_false] at h ⊢
  rcases h with h | h | h | h | h | h | h | h <;> simp [h]
theorem lt_listU {prog : Program} {w : World} {A : Around} {E : Value → Shared → Prop} {s : Shared} {env : Env} {h₀ : Heap} {target : PySem.Expr} {body : List Stmt} {Q : Flow → Shared → Prop} {led : List (Addr × Obj)} {l : Addr} {lo : Obj} {vs : List Value} {n : Nat} {m₀ : Str → Option Value} (stored : List Str)
    (hh : A.handled = none) (F : Fr h₀ env.locals s.heap m₀) (N : News h₀ env.locals s.heap led) (hm : (l, lo) ∈ led) (hc : lo.cls = .type "list") (hd : lo.data = .seq vs.toArray n)
    (turn : ∀ (i : Nat) x (u : Str → Option Value) h tk I o1, vs[i]? = some x → (∀ p ∈ led, p.1 ≠ I) → Fr h₀ env.locals h (fun y => kstB (fun z => if stored.contains z then u z else m₀ z) [] y) → News h₀ env.locals h ((I, o1) :: led) →
      wpAny (model prog w) A (assign target env x) (fun _ s₂ => wpAny (model prog w) A (execs body env) (LtPost h₀ env.locals (fun _ : Unit => led) (fun _ => []) stored m₀ (fun _ => True) [(I, o1)] { s with heap := h, toks := tk } Q) E s₂) E { s with heap := h, toks := tk })
    (done : ∀ (u : Str → Option Value) h tk, Fr h₀ env.locals h (fun y => kstB (fun z => if stored.contains z then u z else m₀ z) [] y) → News h₀ env.locals h led → Q .next { s with heap := h, toks := tk }) :
    wpAny (model prog w) A (pyIter (.ref l)) (fun it s₂ => TurnsAt prog w A h₀ env target body Q E it s₂) E s :=
  lt_listL (σ := Unit) (fun _ => led) (fun _ => []) stored (fun _ _ => True) () hh F N (fun _ => hm) hc hd (fun p hp => nomatch hp) trivial (fun _ i x u h tk I o1 a _ b c d => turn i x u h tk I o1 a b c d) (fun _ u h tk _ => done u h tk)
theorem law_holds : PySem.Challenge.rw_mr0023_01.Holds := hd (by
  k_with_none
  k_with "call ref" => refine Stp.go ?_
  w_strict (k_go0; (all_goals try k_fold); k_steps)
  rename_i w s₀ s₁ mg mb G Y fa o pm cd doc kV ho hcd hg X V T B TE TW ns hs hlay0 hL1 hr1 hl2 w4 w3 lS vS w0 hLS ra w1 r0 hI hr hc1 hc2 hD h1 X1 T1 K1 l0 lD vD h2 F2 N2 hID hCD hLD l1
  refine Stp.in ?_
  clear G Y V TE TW T X
  have hMk := kstMark
  have h16 : (List.take 16 ns).length ≤ 16 := by rw [List.length_take]; omega
  refine wpAny_call (law_lines_spec (n := 0) (Std.of K1 F2 X1 T1 rfl rfl (by decide) (by decide)) (by omega) (PySem.IsL.isList (n := 0) (N2 _ (.head _)).1) hID h16 ?_)
  intro aL us ys eL h3 tk3 k3 nL gL hus hy5 hy1 hy20
  have hL91 : aL ≠ 91 := by
    rintro rfl
    have := (N2 _ (.tail _ (.head _))).1
    rw [nL] at this; cases this
  have hD91 : lD ≠ 91 := by refine neN ?_; omega
  have hb91 := (N2 _ (.tail _ (.head _))).2
  have N3 := News.addM F2 N2 k3 nL gL
  have F3 := Fr.keeps F2 k3
  clear F2 N2
  k_with_none
  k_with "call ref" => refine Stp.go ?_
  try dsimp only
  w_strict k_steps
  refine Stp.in ?_
  rename Fr _ _ _ _ => F4
  rename News _ _ _ _ => N4
  refine wpAny_call (law_laid_spec (n := 0) (StdT.of K1 F4 X1 T1 rfl rfl (by decide) (by decide) codeHd (kst_newsOf N4 (fun p hp => .tail _ (.tail _ hp)))) (by omega) (PySem.IsL.isList (n := eL) (N4 _ (.head _)).1) hus hy5 (fun y hy => (hy20 y hy).1) hL91 ?_)
  intro a1 lM lH lA mv me hv he av ae tups t11 t12 ps1 h5 tk5 k5 g5 g91 d1M d1H d1A
  have F5 := Fr.but91 F4 (Ne.symm hb91.1) hb91.2 k5
  have N5a := News.but91 (kst_newsOf N4 (l' := [(aL, W.listOf us.toArray eL), (lD, W.listOf vD.toArray 0)]) (fun p hp => by rcases List.mem_cons.mp hp with rfl | hp; exact .head _; rw [List.mem_singleton.mp hp]; exact .tail _ (.head _))) k5 (fun p hp => by rcases List.mem_cons.mp hp with rfl | hp; exact hL91; rw [List.mem_singleton.mp hp]; exact hD91)
  have N5b : News (ghostOf s₁.heap [(95, 91)]) s₁.heap.objs.size h5 [(aL, W.listOf us.toArray eL), (lD, W.listOf vD.toArray 0), (91, tabObj ps1)] := fun p hp => by
    simp only [List.mem_cons, List.not_mem_nil, or_false] at hp
    rcases hp with rfl | rfl | rfl
    · exact N5a _ (.head _)
    · exact N5a _ (.tail _ (.head _))
    · exact ⟨g91, hb91⟩
  have N5c := News.addL F4 N5b g5
  have N5 := kst_newsOf N5c (l' := (a1, { cls := .type "tuple", data := .seq #[.str (textOf ys) t11, .ref lM, .int ((textOf ys).length : Int) t12, .ref lH, .ref lA] }) :: (lM, W.listOf mv.toArray me) :: (lH, W.listOf hv.toArray he) :: (lA, W.listOf av.toArray ae) :: (aL, W.listOf us.toArray eL) :: (lD, W.listOf vD.toArray 0) :: (91, tabObj ps1) :: tups) (fun p hp => mem_laid hp)
  clear N5a N5b N5c F4 N4
  k_with_none
  k_with "call ref" => refine Stp.go ?_
  try dsimp only
  w_strict k_steps
  refine Stp.in ?_
  rename Fr _ _ _ _ => F6
  rename News _ _ _ _ => N6
  refine wpAny_call (law_due_spec (n := 0) (Std.of K1 F6 X1 T1 rfl rfl (by decide) (by decide)) (by omega) (PySem.IsL.isList (n := eL) (N6 _ (.tail _ (.tail _ (.tail _ (.tail _ (.head _)))))).1) hus hy5 hy20 ?_)
  intro a2 lM2 lH2 lA2 mv2 me2 hv2 he2 av2 ae2 tups2 t21 t22 h7 tk7 k7 g7 d2M d2H d2A
  have F7 := Fr.keeps F6 k7
  have N7a := News.keeps N6 k7
  have N7 := News.addL F6 N7a g7
  have hbyt : ∀ y ∈ ys, Byt y := fun y hy => Byt.of (hy20 y hy).2
  k_with_none
  try dsimp only
  w_strict k_steps
  refine Stp.in ?_
  have D1 : DatIn ((a1, { cls := .type "tuple", data := .seq #[.str (textOf ys) t11, .ref lM, .int ((textOf ys).length : Int) t12, .ref lH, .ref lA] }) :: (lM, W.listOf mv.toArray me) :: (lH, W.listOf hv.toArray he) :: (lA, W.listOf av.toArray ae) :: (aL, W.listOf us.toArray eL) :: (lD, W.listOf vD.toArray 0) :: (91, tabObj ps1) :: tups) (.ref a1) (laidD ys) :=
    laid_dat (.head _) (.tail _ (.head _)) (.tail _ (.tail _ (.head _))) (.tail _ (.tail _ (.tail _ (.head _)))) (fun p hp => .tail _ (.tail _ (.tail _ (.tail _ (.tail _ (.tail _ (.tail _ hp))))))) d1M d1H d1A
  have D2 : DatIn ((a2, { cls := .type "tuple", data := .seq #[.str (textOf ys) t21, .ref lM2, .int ((textOf ys).length : Int) t22, .ref lH2, .ref lA2] }) :: (lM2, W.listOf mv2.toArray me2) :: (lH2, W.listOf hv2.toArray he2) :: (lA2, W.listOf av2.toArray ae2) :: tups2) (.ref a2) (laidD ys) :=
    laid_dat (.head _) (.tail _ (.head _)) (.tail _ (.tail _ (.head _))) (.tail _ (.tail _ (.tail _ (.head _)))) (fun p hp => .tail _ (.tail _ (.tail _ (.tail _ hp)))) d2M d2H d2A
  refine kqd_ne_same (d := laidD ys) N7 (DatIn.mono (fun p hp => List.mem_append_right _ hp) D1) (DatIn.mono (fun p hp => List.mem_append_left _ hp) D2) (laidD_ok hbyt) (by exact Nat.le_of_ble_eq_true rfl) ?_
  have N8 := kst_newsOf N7 (fun p hp => List.mem_append_right _ hp)
  clear N7
  have htl : (textOf ys).length ≤ 115 := by have := textOf_len ys (fun y hy => (hy20 y hy).1); omega
  k_with_none
  k_with "call ref" => refine Stp.go ?_
  k_with "subscriptTail" => refine Stp.go ?_
  try dsimp only
  w_strict k_steps
  refine Stp.in ?_
  refine tail_upto3 F7 N8 (.head _) ?_
  intro lT h9 F9 N9 hlt9
  clear F7 N7a N8
  k_with_none
  k_with "call ref" => refine Stp.go ?_
  try dsimp only
  w_strict k_steps
  refine Stp.in ?_
  rename Fr _ _ _ _ => F10
  rename News _ _ _ _ => N10
  rename IntsAre _ (List.take 16 _) => hI10
  rw [show (8 * ((textOf ys).length : Int)) = ((8 * (textOf ys).length : Nat) : Int) from by omega]
  refine wpAny_call (law_harm_spec (n := 0) (size := 8 * (textOf ys).length) (ps := membersOf ys) (tups := tups) (Std.of K1 F10 X1 T1 rfl rfl (by decide) (by decide)) (by omega) (PySem.IsL.isList (n := 0) (N10 _ (.head _)).1) hI10 h16 (PySem.IsL.isList (n := me) (N10 _ (.tail _ (.tail _ (.tail _ (.head _))))).1) d1M (fun p hp => (N10 p (.tail _ (.tail _ (.tail _ (.tail _ (.tail _ (.tail _ (.tail _ (.tail _ (.tail _ hp)))))))))).1) (by rw [membersOf_len]; exact hy1) (by rw [membersOf_len]; exact hy5) (members_ok hy5 (fun y hy => (hy20 y hy).1)) (by omega) ?_)
  intro aH uH hN eH h11 tk11 k11 nH gH hiH hlH hbH
  have N11 := News.addM F10 N10 k11 nH gH
  have F11 := Fr.keeps F10 k11
  clear F10 N10
  k_with_none
  try dsimp only
  w_strict k_steps
  refine Stp.in ?_
  refine For_turns (by k_asm) ?_
  k_with "pyIter ref" => refine Stp.go ?_
  w_strict k_steps
  refine Stp.in ?_
  rename Fr _ _ _ _ => F12
  rename News _ _ _ _ => N12
  refine lt_listU (vs := mv) (n := me) [Str.ofString "at", Str.ofString "length", Str.ofString "own", Str.ofString "same"] rfl F12 N12 (.tail _ (.tail _ (.tail _ (.tail _ (.head _))))) rfl rfl ?_ ?_
  · intro i x u1 h tk1 I o1 hx hoff F1 N1
    refine lt_hide ?_
    intro P9 hP9
    k_fold
    have hilt : i < mv.length := by
      rcases Nat.lt_or_ge i mv.length with q | q
      · exact q
      · rw [List.getElem?_eq_none q] at hx; cases hx
    obtain ⟨aT, at', ln, tA, tB, eT, hm1, hm2, hm3⟩ := tups_get d1M hilt
    rw [hm1] at hx
    obtain rfl := Option.some.inj hx
    obtain ⟨y, hy, hln, hle, hsl⟩ := member_at hm2
    have hT : IsTup h aT #[.int (at' : Int) tA, .int (ln : Int) tB] := ⟨_, (N1 _ (.tail _ (.tail _ (.tail _ (.tail _ (.tail _ (.tail _ (.tail _ (.tail _ (.tail _ (.tail _ (.tail _ hm3)))))))))))).1, rfl, eT, rfl⟩
    have hyl := lineOf_len y
    have hy20' := (hy20 y (List.mem_of_getElem? hy)).1
    clear F12 N12
    k_with_none
    k_with "call ref" => refine Stp.go ?_
    w_strict k_steps
    refine Stp.in ?_
    rename Fr _ _ _ _ => F13
    rename News _ _ _ _ => N13
    rename IntsAre _ (List.take (min _ _ - _) _) => hI13
    rw [hsl]
    have hownL : (List.take (min (8 * ((at' : Int) + (ln : Int))).toNat hN.length - (8 * (at' : Int)).toNat) (List.drop (8 * (at' : Int)).toNat hN)).length = 8 * (lineOf y).length := own_len hlH hle hln
    have hownB : ∀ b ∈ List.take (min (8 * ((at' : Int) + (ln : Int))).toNat hN.length - (8 * (at' : Int)).toNat) (List.drop (8 * (at' : Int)).toNat hN), 0 ≤ b ∧ b ≤ 1 := fun b hb => hbH b (List.mem_of_mem_drop (List.mem_of_mem_take hb))
    generalize List.take (min (8 * ((at' : Int) + (ln : Int))).toNat hN.length - (8 * (at' : Int)).toNat) (List.drop (8 * (at' : Int)).toNat hN) = own at *
    have hlb : ∀ c ∈ (lineOf y).cps.toList, c < 256 := lineOf_byt (hbyt y (List.mem_of_getElem? hy))
    have hlaw := crc_law hownL hownB hlb
    refine wpAny_call (law_read_spec (n := 0) (Std.of K1 F13 X1 T1 rfl rfl (by decide) (by decide)) (by omega) (by omega) (fun c hc => hlb c (by simpa using hc)) (PySem.IsL.isList (n := 0) (N13 _ (.head _)).1) hI13 hownB hownL ?_)
    intro tR hR tkR kR
    have F14 := Fr.keeps F13 kR
    have N14 := News.keeps N13 kR
    clear F13 N13
    k_with_none
    k_with "call ref" => refine Stp.go ?_
    try dsimp only
    w_strict k_steps
    refine Stp.in ?_
    rename Fr _ _ _ _ => F15
    rename News _ _ _ _ => N15
    (try rw [hsl])
    refine wpAny_call (law_sum_spec (n := 0) (Std.of K1 F15 X1 T1 rfl rfl (by decide) (by decide)) (by omega) (by omega) (fun c hc => hlb c (by simpa using hc)) ?_)
    intro tS hS tkS kS
    have F16 := Fr.keeps F15 kS
    have N16 := News.keeps N15 kS
    clear F15 N15
    generalize Builtin.bitXor (readI (lineOf y) own (lineOf y).length) (2 ^ Int.toNat 32 - 1) = vR at *
    generalize sumI (((lineOf y).cps.toList.flatMap bitsI).foldl rStep (2 ^ Int.toNat 32 - 1)) = vS at *
    k_with_none
    k_with "call ref" => refine Stp.go ?_
    try dsimp only
    w_strict k_steps
    refine Stp.in ?_
    rename Fr _ _ _ _ => F17
    rename News _ _ _ _ => N17
    refine wpAny_call (law_rest_spec (n := 0) (Std.of K1 F17 X1 T1 rfl rfl (by decide) (by decide)) (by omega) (PySem.IsL.isList (n := 0) (N17 _ (.head _)).1) hI13 hownB (by decide) ?_)
    intro tQ hQ tkQ kQ
    have F18 := Fr.keeps F17 kQ
    have N18 := News.keeps N17 kQ
    clear F17 N17
    generalize own.foldl rStep 0 = vQ at *
    have hEq : (vR == vS) = (vQ == 0) := by
      by_cases hq : vQ = 0
      · rw [hlaw.mpr hq, hq]; simp
      · have : vR ≠ vS := fun e => hq (hlaw.mp e)
        rw [beq_eq_false_iff_ne.mpr hq, beq_eq_false_iff_ne.mpr this]
    k_with_none
    try dsimp only
    rw [hEq]
    w_strict k_steps
    · rename ((_ : Bool) != _) = true => hbad
      rw [bne_self_eq_false] at hbad
      cases hbad
    · rename Fr _ _ _ _ => F19
      rename News _ _ _ _ => N19
      refine hP9 _ _ ?_
      show LtEnd _ _ _ _ _ _ _ _ _ _
      refine LtEnd.mk () F19 N19 (fun p hp => .tail _ (.tail _ hp)) (fun p hp => by rw [List.mem_singleton.mp hp]; exact .tail _ (.head _)) (fun p hp q hq => by rw [List.mem_singleton.mp hq]; exact hoff p hp) (fun p hp => nomatch hp) (fun z h2 h3 => ?_) trivial
      have z1 : z ≠ Str.ofString "at" := ne_stored h3 (by simp)
      have z2 : z ≠ Str.ofString "length" := ne_stored h3 (by simp)
      have z3 : z ≠ Str.ofString "own" := ne_stored h3 (by simp)
      have z4 : z ≠ Str.ofString "same" := ne_stored h3 (by simp)
      simp only [kstB, if_neg z1, if_neg z2, if_neg z3, if_neg z4, h3, Bool.false_eq_true, if_false]
  · intro u1 h tk1 F1 N1
    clear F12 N12
    k_with_none
    w_strict k_steps
    all_goals done)
end
end Mine

theorem PySem.Challenge.cw_mr0023_01_holds : PySem.Challenge.rw_mr0023_01.Holds :=
  Mine.law_holds
