import PyProof.Rows.All
import Wide.All
import OpenK.AllK
import Wide.FinOn
import PySem.Challenge.RW_ga0004_01
open PySem PySem.W PyProof.Rows PySem.Calls
set_option Elab.async false
set_option linter.unusedVariables false
set_option maxRecDepth 100000
set_option maxHeartbeats 2000000
namespace Mine
open_top hd for PySem.Challenge.rw_ga0004_01
end Mine
section
namespace Mine

abbrev AA (dp un : Nat) (gd : Option (List Code)) (envs : List Env) : Around := { handled := none, depth := dp, frames := some envs, guards := gd, units := un }

def EntryC (prog : Program) (w : World) (K : Frag) (p : Program) (loose : List Str) (mean : ExcName → Option Value) (mg mb : Str → Option Value) (f : Addr) (own : List (Addr × Obj)) (vs : List Value) (rd ru : Nat)
    (Post : Value → List (Addr × Obj) → Prop) : Prop :=
  ∀ (dp un : Nat) (gd : Option (List Code)) (envs : List Env) (base g : Heap) (s : Shared) (R : Result → Shared → Prop),
    Below (AA dp un gd envs) base envs g → (∀ b o, g.get? b = some o → s.heap.get? b = some o) → g.objs.size ≤ s.heap.objs.size → K.In g → Top p loose mean mg mb g →
    (∀ q ∈ own, s.heap.get? q.1 = some q.2 ∧ g.get? q.1 = none) → dp + rd < recursionLimit → un + ru < cLine →
    (∀ (v : Value) (h' : Heap) (tk' : Nat) (new : List (Addr × Obj)), (∀ b o, g.get? b = some o → h'.get? b = some o) → (∀ q ∈ new, h'.get? q.1 = some q.2 ∧ g.get? q.1 = none) → Post v new →
      R (.ok (.ret v)) { s with heap := h', toks := tk' }) →
    codeAny (model prog w) (AA dp un gd envs) (.call (.ref f) ⟨vs, []⟩) R s

section
variable {prog : Program} {w : World} {K : Frag} {p : Program} {loose : List Str} {mean : ExcName → Option Value} {mg mb : Str → Option Value}

theorem use_entry {f : Addr} {own news rest : List (Addr × Obj)} {vs : List Value} {rd ru : Nat} {Post : Value → List (Addr × Obj) → Prop}
    {dp un : Nat} {gd : Option (List Code)} {cn : Str} {cs : Scope} {a : Addr} {ccd : Value} {cl : List (Str × Addr)} {outer : List Env} {A₀ : Around} {base h₀ : Heap} {L : Addr} {m : Str → Option Value} {s : Shared} {Q E : Value → Shared → Prop}
    (C : EntryC prog w K p loose mean mg mb f own vs rd ru Post)
    (B : Below A₀ base outer h₀) (F : Fr h₀ L s.heap m) (X : K.In h₀) (N : News h₀ L s.heap news) (T : Top p loose mean mg mb h₀) (hk : cs.kind = .function)
    (hsub : ∀ q ∈ own, q ∈ news) (hrest : ∀ q ∈ rest, q ∈ news) (hdis : ∀ q ∈ rest, ∀ q' ∈ own, @Ne Nat q.1 q'.1) (hd : dp + rd < recursionLimit) (hu : un + ru < cLine)
    (k : ∀ (v : Value) (h' : Heap) (tk' : Nat) (new : List (Addr × Obj)), Post v new → Fr h₀ L h' m → News h₀ L h' (new ++ rest) → (∀ q ∈ rest, ∀ q' ∈ new, @Ne Nat q.1 q'.1) → Q v { s with heap := h', toks := tk' }) :
    wpAny (model prog w) (ktrTop dp un gd cn cs L a ccd cl outer) (call (.ref f) vs) Q E s := by
  have N₁ : News h₀ L s.heap own := fun q hq => N q (hsub q hq)
  obtain ⟨FG, BG, st, _⟩ := groundX (R := fun _ _ => True) (A := ktrTop dp un gd cn cs L a ccd cl outer) (env := envX cn cs L a ccd cl) B F N₁ rfl rfl hk
  have hg : ∀ b o, (hideAll s.heap (own.map (·.1))).get? b = some o → s.heap.get? b = some o := fun b o e => of_hideAll _ e
  refine wpAny_call (C dp un gd (envX cn cs L a ccd cl :: outer) base (hideAll s.heap (own.map (·.1))) s _ BG hg (Nat.le_of_eq (hideAll_size _ _)) (X.keeps fun b o e => st b o e) (T.keeps fun b o e => st b o e)
    (fun q hq => ⟨(N₁ q hq).1, hideAll_none _ (List.mem_map_of_mem hq)⟩) hd hu ?_)
  intro v h' tk' new keep hnew hp
  have hrg : ∀ q ∈ rest, (hideAll s.heap (own.map (·.1))).get? q.1 = some q.2 := fun q hq => hideAll_get _ (N q (hrest q hq)).1 fun hm => by
    obtain ⟨q', hq', e⟩ := List.mem_map.mp hm
    exact hdis q hq q' hq' e.symm
  obtain ⟨oL, es, ep, hL, hLd, hLk, hLf⟩ := FG.ns
  refine k v h' tk' new hp ⟨⟨oL, es, ep, keep L oL hL, hLd, hLk, hLf⟩, fun b o e => keep b o (st b o e), F.above⟩ (fun q hq => ?_) (fun q hq q' hq' e => ?_)
  · rcases List.mem_append.mp hq with hq | hq
    · refine ⟨(hnew q hq).1, fun e => ?_, ?_⟩
      · have := (hnew q hq).2; rw [e, hL] at this; cases this
      · cases z : h₀.get? q.1 with
        | none => rfl
        | some o => have := (hnew q hq).2; rw [st _ _ z] at this; cases this
    · exact ⟨keep _ _ (hrg q hq), (N q (hrest q hq)).2⟩
  · have := (hnew q' hq').2
    rw [← e, hrg q hq] at this; cases this

theorem entry_plain {dp un : Nat} {gd : Option (List Code)} {envs : List Env} {g : Heap} {s : Shared} {R : Result → Shared → Prop} {own : List (Addr × Obj)}
    {name qual : Str} {params : Arguments} {body : List Stmt} {scope : Scope} {cl : List (Str × Addr)} {dV kV doc pm cdv ct : Value} {an : Option Addr} {fo : Obj} {f : Addr} {args : Args} {binds : List (Str × Value)}
    (kp : ∀ b o, g.get? b = some o → s.heap.get? b = some o) (hsz : g.objs.size ≤ s.heap.objs.size) (T : Top p loose mean mg mb g)
    (hown : ∀ q ∈ own, s.heap.get? q.1 = some q.2 ∧ g.get? q.1 = none)
    (ho : s.heap.get? f = some fo) (hd : fo.data = .func (fnX name qual params body scope cl dV kV doc pm an cdv ct)) (hcd : s.heap.CodeRec cdv qual) (hroom : dp < recursionLimit)
    (hbind : BindsTo s (fnX name qual params body scope cl dV kV doc pm an cdv ct) args binds) (hloc : ∀ y ∈ binds, scope.names.lookup y.1 = some .local)
    (h : ∀ L' h₁, Fr g L' h₁ (fun y => binds.reverse.lookup y) → News g L' h₁ own → (∀ q ∈ own, q.1 < L') →
      wpAny (model prog w) ((AA dp un gd envs).deeper (envX qual scope L' f cdv cl)) (execs body (envX qual scope L' f cdv cl))
        (fun fl s' => R (.ok (.ret (match fl with | .ret v => v | _ => .none))) s')
        (fun e s' => wpAny (model prog w) ((AA dp un gd envs).deeper (envX qual scope L' f cdv cl)) (leaving (envX qual scope L' f cdv cl) e) (fun _ s'' => R (.error e) s'') (fun e' s'' => R (.error e') s'') s')
        { s with heap := h₁, toks := s.toks + binds.length })
    (hcell : ∀ x ∈ scope.names, x.2 ≠ .cell) (hco : scope.isCoroutine = false) (hgen : scope.isGenerator = false) (hk : scope.kind = .function) : codeAny (model prog w) (AA dp un gd envs) (.call (.ref f) args) R s := by
  refine codeAny_call_def (fd := fnX name qual params body scope cl dV kV doc pm an cdv ct) (body := body) (binds := binds) hroom ho hd (T.nolimit.keeps kp) hcd rfl hbind hcell hloc (fun h₁ hns hk₁ => ?_) hco hgen hk
  exact h s.heap.objs.size h₁ ⟨hns, fun b o e => hk₁ b o (kp b o e), hsz⟩
    (fun q hq => ⟨hk₁ _ _ (hown q hq).1, Nat.ne_of_lt (Heap.lt_size (hown q hq).1), (hown q hq).2⟩) (fun q hq => Heap.lt_size (hown q hq).1)

theorem none_of_keeps {g h : Heap} {a : Addr} (kp : ∀ b o, g.get? b = some o → h.get? b = some o) (hn : h.get? a = none) : g.get? a = none :=
  Option.eq_none_iff_forall_ne_some.mpr fun o e => by rw [kp a o e] at hn; cases hn

theorem entry_cells {dp un : Nat} {gd : Option (List Code)} {envs : List Env} {g : Heap} {s : Shared} {R : Result → Shared → Prop} {own : List (Addr × Obj)}
    {name qual : Str} {params : Arguments} {body : List Stmt} {scope : Scope} {dV kV doc pm cdv ct : Value} {an : Option Addr} {fo : Obj} {f : Addr} {args : Args} {binds : List (Str × Value)}
    (kp : ∀ b o, g.get? b = some o → s.heap.get? b = some o) (hsz : g.objs.size ≤ s.heap.objs.size) (T : Top p loose mean mg mb g)
    (hown : ∀ q ∈ own, s.heap.get? q.1 = some q.2 ∧ g.get? q.1 = none)
    (ho : s.heap.get? f = some fo) (hd : fo.data = .func (fnX name qual params body scope [] dV kV doc pm an cdv ct)) (hcd : s.heap.CodeRec cdv qual) (hroom : dp < recursionLimit)
    (hbind : BindsTo s (fnX name qual params body scope [] dV kV doc pm an cdv ct) args binds)
    (hkind : (binds.all fun y => scope.names.lookup y.1 == some .local || scope.names.lookup y.1 == some .cell) = true)
    (hnd : ((cellsFrom 0 scope.names []).map (·.1)).Nodup)
    (h : ∀ L' h₁ tk cells, Fr g L' h₁ (bindL (envOfC qual scope L' f cdv).kindOf binds fun _ => none) → News g L' h₁ (cells ++ own) →
      CellsAre (bindC (envOfC qual scope L' f cdv).kindOf binds fun _ => none) (cellsFrom (L' + 1) scope.names []) cells → (∀ q ∈ own, q.1 < L') →
      wpAny (model prog w) ((AA dp un gd envs).deeper (envOfC qual scope L' f cdv)) (execs body (envOfC qual scope L' f cdv))
        (fun fl s' => R (.ok (.ret (match fl with | .ret v => v | _ => .none))) s')
        (fun e s' => wpAny (model prog w) ((AA dp un gd envs).deeper (envOfC qual scope L' f cdv)) (leaving (envOfC qual scope L' f cdv) e) (fun _ s'' => R (.error e) s'') (fun e' s'' => R (.error e') s'') s')
        { s with heap := h₁, toks := tk })
    (hco : scope.isCoroutine = false) (hgen : scope.isGenerator = false) (hk : scope.kind = .function) : codeAny (model prog w) (AA dp un gd envs) (.call (.ref f) args) R s := by
  refine codeAny_call_function hroom ho hd hco hgen rfl hcd (hbind _ _ _ _ ?_)
  refine wpAny_newFunctionEnv_cells hk (kindsX hkind _) fun env' he s' x => ?_
  subst he
  refine ⟨(T.nolimit.keeps kp).keeps x.toInCall.keep, codeAny_func ?_⟩
  obtain ⟨h₁, tk, rfl, _⟩ := x.done
  have hk₁ := x.toInCall.keep
  obtain ⟨cells, NC, Y⟩ := Cl.news (h₀ := s.heap) (Nat.le_refl _) fun n c hm => ⟨x.cell n c (lookup_of_mem_nodup (cellsFrom_names scope.names 0 (s.heap.objs.size + 1) [] [] rfl ▸ hnd) hm), x.above n c hm⟩
  refine h s.heap.objs.size h₁ tk cells ⟨x.toInCall.ns, fun b o e => hk₁ b o (kp b o e), hsz⟩ (List.forall_mem_append.mpr ⟨fun q hq => ?new, fun q hq => ?old⟩) Y (fun q hq => Heap.lt_size (hown q hq).1)
  case new => exact ⟨(NC q hq).1, (NC q hq).2.1, none_of_keeps kp (NC q hq).2.2⟩
  case old => exact ⟨hk₁ _ _ (hown q hq).1, Nat.ne_of_lt (Heap.lt_size (hown q hq).1), (hown q hq).2⟩

theorem entryK {dp un : Nat} {gd : Option (List Code)} {envs : List Env} {g : Heap} {s : Shared} {R : Result → Shared → Prop} {own : List (Addr × Obj)}
    {name qual : Str} {params : Arguments} {body : List Stmt} {scope : Scope} {dV kV doc pm cdv ct oc : Value} {an od : Option Addr} {osl : Array (Option Value)} {f : Addr} {args : Args} {binds : List (Str × Value)}
    (kp : ∀ b o, g.get? b = some o → s.heap.get? b = some o) (hsz : g.objs.size ≤ s.heap.objs.size) (X : K.In g) (T : Top p loose mean mg mb g)
    (hown : ∀ q ∈ own, s.heap.get? q.1 = some q.2 ∧ g.get? q.1 = none)
    (ho : K.lookup f = some ⟨oc, od, .func (fnOf name qual params body scope dV kV doc pm an cdv ct), osl⟩) (hcd : codeIn K cdv qual = true) (hroom : dp < recursionLimit)
    (hbind : BindsTo s (fnOf name qual params body scope dV kV doc pm an cdv ct) args binds) (hloc : ∀ y ∈ binds, scope.names.lookup y.1 = some .local)
    (h : ∀ L' h₁, Fr g L' h₁ (fun y => binds.reverse.lookup y) → News g L' h₁ own → (∀ q ∈ own, q.1 < L') →
      wpAny (model prog w) ((AA dp un gd envs).deeper (envOf qual scope L' f cdv)) (execs body (envOf qual scope L' f cdv))
        (fun fl s' => R (.ok (.ret (match fl with | .ret v => v | _ => .none))) s')
        (fun e s' => wpAny (model prog w) ((AA dp un gd envs).deeper (envOf qual scope L' f cdv)) (leaving (envOf qual scope L' f cdv) e) (fun _ s'' => R (.error e) s'') (fun e' s'' => R (.error e') s'') s')
        { s with heap := h₁, toks := s.toks + binds.length })
    (hcell : ∀ x ∈ scope.names, x.2 ≠ .cell) (hco : scope.isCoroutine = false) (hgen : scope.isGenerator = false) (hk : scope.kind = .function) : codeAny (model prog w) (AA dp un gd envs) (.call (.ref f) args) R s :=
  entry_plain (cl := []) kp hsz T hown ((X.keeps kp) _ _ ho) rfl (codeRec_of (X.keeps kp) hcd) hroom hbind hloc h hcell hco hgen hk

theorem entryKC {dp un : Nat} {gd : Option (List Code)} {envs : List Env} {g : Heap} {s : Shared} {R : Result → Shared → Prop} {own : List (Addr × Obj)}
    {name qual : Str} {params : Arguments} {body : List Stmt} {scope : Scope} {dV kV doc pm cdv ct oc : Value} {an od : Option Addr} {osl : Array (Option Value)} {f : Addr} {args : Args} {binds : List (Str × Value)}
    (kp : ∀ b o, g.get? b = some o → s.heap.get? b = some o) (hsz : g.objs.size ≤ s.heap.objs.size) (X : K.In g) (T : Top p loose mean mg mb g)
    (hown : ∀ q ∈ own, s.heap.get? q.1 = some q.2 ∧ g.get? q.1 = none)
    (ho : K.lookup f = some ⟨oc, od, .func (fnOf name qual params body scope dV kV doc pm an cdv ct), osl⟩) (hcd : codeIn K cdv qual = true) (hroom : dp < recursionLimit)
    (hbind : BindsTo s (fnOf name qual params body scope dV kV doc pm an cdv ct) args binds)
    (hkind : (binds.all fun y => scope.names.lookup y.1 == some .local || scope.names.lookup y.1 == some .cell) = true)
    (hnd : ((cellsFrom 0 scope.names []).map (·.1)).Nodup)
    (h : ∀ L' h₁ tk cells, Fr g L' h₁ (bindL (envOfC qual scope L' f cdv).kindOf binds fun _ => none) → News g L' h₁ (cells ++ own) →
      CellsAre (bindC (envOfC qual scope L' f cdv).kindOf binds fun _ => none) (cellsFrom (L' + 1) scope.names []) cells → (∀ q ∈ own, q.1 < L') →
      wpAny (model prog w) ((AA dp un gd envs).deeper (envOfC qual scope L' f cdv)) (execs body (envOfC qual scope L' f cdv))
        (fun fl s' => R (.ok (.ret (match fl with | .ret v => v | _ => .none))) s')
        (fun e s' => wpAny (model prog w) ((AA dp un gd envs).deeper (envOfC qual scope L' f cdv)) (leaving (envOfC qual scope L' f cdv) e) (fun _ s'' => R (.error e) s'') (fun e' s'' => R (.error e') s'') s')
        { s with heap := h₁, toks := tk })
    (hco : scope.isCoroutine = false) (hgen : scope.isGenerator = false) (hk : scope.kind = .function) : codeAny (model prog w) (AA dp un gd envs) (.call (.ref f) args) R s :=
  entry_cells kp hsz T hown ((X.keeps kp) _ _ ho) rfl (codeRec_of (X.keeps kp) hcd) hroom hbind hkind hnd h hco hgen hk

theorem entry_end {g h' : Heap} {L' : Addr} {m' : Str → Option Value} {news' new : List (Addr × Obj)} {s : Shared} {R : Result → Shared → Prop} {Post : Value → List (Addr × Obj) → Prop} {v : Value} {tk' : Nat}
    (hret : ∀ (v : Value) (h' : Heap) (tk' : Nat) (new : List (Addr × Obj)), (∀ b o, g.get? b = some o → h'.get? b = some o) → (∀ q ∈ new, h'.get? q.1 = some q.2 ∧ g.get? q.1 = none) → Post v new →
      R (.ok (.ret v)) { s with heap := h', toks := tk' })
    (F : Fr g L' h' m') (N : News g L' h' news') (hs : ∀ q ∈ new, q ∈ news') (hp : Post v new) : R (.ok (.ret v)) { s with heap := h', toks := tk' } :=
  hret v h' tk' new F.keep (fun q hq => ⟨(N q (hs q hq)).1, (N q (hs q hq)).2.2⟩) hp
end
end Mine
end
local macro_rules | `(tactic| walk_at "m_fillK") => `(tactic| (have hh : PySem.Challenge.rw_ga0004_01.name = PySem.Challenge.rw_ga0004_01.name ∧ Mine.hd.heap_39 = Mine.hd.heap_39 := (by k_fill; exact ⟨rfl, rfl⟩); clear hh))
local macro_rules | `(tactic| walk_at "m_entP") => `(tactic| (
  refine' Mine.entryK ?kp ?sz ?X ?T ?own ?ho ?hcd ?room ?bind ?loc ?_ ?cell ?co ?gen ?kk
  (case kp => k_asm)
  (case sz => k_asm)
  (case X => k_asm)
  (case T => k_asm)
  (case own => k_asm)
  (case ho => k_is)
  (case hcd => k_is)
  (case room => ktr_room)
  (case bind => exact BindsTo.of_eq rfl)
  (case loc => exact locs rfl)
  (case cell => decide)
  (case co => exact rfl)
  (case gen => exact rfl)
  (case kk => exact rfl)
  k_whole
  intro L' h' F' N' lt'
  (try k_lt lt')
  (try dsimp only)
  (try k_fold)))
local macro_rules | `(tactic| walk_at "m_entC") => `(tactic| (
  refine' Mine.entryKC ?kp ?sz ?X ?T ?own ?ho ?hcd ?room ?bind ?loc ?nd ?_ ?co ?gen ?kk
  (case kp => k_asm)
  (case sz => k_asm)
  (case X => k_asm)
  (case T => k_asm)
  (case own => k_asm)
  (case ho => k_is)
  (case hcd => k_is)
  (case room => ktr_room)
  (case bind => exact BindsTo.of_eq rfl)
  (case loc => exact rfl)
  (case nd => decide +kernel)
  (case co => exact rfl)
  (case gen => exact rfl)
  (case kk => exact rfl)
  k_whole
  intro L' h' tk' cells' F' N' Y' lt'
  (try k_lt lt')
  k_cells Y'
  (try simp only [List.cons_append, List.nil_append] at N')
  (try dsimp only)
  (try k_fold)))
local macro_rules | `(tactic| walk_at "m_sub") => `(tactic| first | exact List.forall_mem_nil _ | (refine' List.forall_mem_cons.mpr ⟨?a, ?b⟩; (case a => k_mem); (case b => walk_at "m_sub")))
local macro_rules | `(tactic| walk_at "m_facts") => `(tactic| first | exact List.forall_mem_nil _ | (refine List.forall_mem_cons.mpr ⟨rfl, ?_⟩; walk_at "m_facts"))
local macro_rules | `(tactic| walk_at "m_ne") => `(tactic| ((try dsimp only); first | with_reducible assumption | (refine Ne.symm ?_; with_reducible assumption) | assumption | (refine Ne.symm ?_; assumption)))
local macro_rules | `(tactic| walk_at "m_all") => `(tactic| first | exact List.forall_mem_nil _ | (refine List.forall_mem_cons.mpr ⟨?_, ?_⟩; (focus walk_at "m_ne"); walk_at "m_all"))
section
namespace Mine
abbrev pairObj (q r : Int) (t1 t2 : Tok) : Obj := { cls := .type "tuple", data := .seq #[Value.int q t1, Value.int r t2] }

def PairPost (q r : Int) (v : Value) (new : List (Addr × Obj)) : Prop := ∃ D t1 t2, v = .ref D ∧ new = [(D, pairObj q r t1 t2)]

theorem e_div2n1n {prog : Program} {w : World} {p : Program} {loose : List Str} {mean : ExcName → Option Value} {mg mb : Str → Option Value}
  (x y n : Int) (tx ty tn : Tok) (hx0 : 0 ≤ x) (hx1 : x < 1152921504606846976) (hy : 0 < y) (hy1 : y < 1000000) (hn : 0 ≤ n) :
  EntryC prog w (Mine.hd.heap_39 w.params) p loose mean mg mb 21 [] [.int x tx, .int y ty, .int n tn] 1 8 (PairPost (x.fdiv y) (x.fmod y)) := by
  walk_at "m_fillK"
  intro dp un gd envs base g s R B kp sz X T hown hd hu hret
  have hbits : ¬ (¬ ((Builtin.Int.intBits x : Nat) : Int) - n ≤ 4000) := by have := PySem.intBits_le_64 (k := x) (by omega) (by omega); omega
  have hy0 : y ≠ 0 := by omega
  walk_at "m_entP"
  k_steps
  exact entry_end hret (by assumption) (by assumption) (by walk_at "m_sub") ⟨_, _, _, rfl, rfl⟩
end Mine
end
section
namespace Mine
/-- the digits of x to the base 2^n, the lowest first, `len` of them -/
def digs (n : Nat) : Nat → Nat → List Int
  | 0, _ => []
  | len + 1, x => ((x % 2 ^ n : Nat) : Int) :: digs n len (x / 2 ^ n)
theorem digs_length (n : Nat) : ∀ (len x : Nat), (digs n len x).length = len
  | 0, _ => rfl
  | len + 1, x => by show (digs n len (x / 2 ^ n)).length + 1 = len + 1; rw [digs_length]
theorem digs_one {n x : Nat} (h : x < 2 ^ n) : digs n 1 x = [(x : Int)] := by
  show [((x % 2 ^ n : Nat) : Int)] = _
  rw [Nat.mod_eq_of_lt h]
theorem digs_add (n : Nat) : ∀ (a b x : Nat), digs n (a + b) x = digs n a x ++ digs n b (x / 2 ^ (a * n))
  | 0, b, x => by simp [digs]
  | a + 1, b, x => by
    rw [Nat.add_right_comm]
    show _ :: digs n (a + b) (x / 2 ^ n) = _ :: (digs n a (x / 2 ^ n) ++ _)
    rw [digs_add n a b, Nat.div_div_eq_div_mul, ← Nat.pow_add, Nat.add_mul, Nat.one_mul, Nat.add_comm n]
theorem digs_mod (n : Nat) : ∀ (a x : Nat), digs n a (x % 2 ^ (a * n)) = digs n a x
  | 0, _ => rfl
  | a + 1, x => by
    show ((x % 2 ^ ((a + 1) * n) % 2 ^ n : Nat) : Int) :: digs n a (x % 2 ^ ((a + 1) * n) / 2 ^ n) = _ :: _
    have e : 2 ^ ((a + 1) * n) = 2 ^ n * 2 ^ (a * n) := by rw [← Nat.pow_add, Nat.add_mul, Nat.one_mul, Nat.add_comm]
    rw [e, Nat.mod_mul_right_mod, Nat.mod_mul_right_div_self, digs_mod n a]
def fillL (ns ds : List Int) (lo : Nat) : List Int := ns.take lo ++ ds ++ ns.drop (lo + ds.length)
theorem fillL_length {ns ds : List Int} {lo : Nat} (h : lo + ds.length ≤ ns.length) : (fillL ns ds lo).length = ns.length := by
  unfold fillL
  simp only [List.length_append, List.length_take, List.length_drop]
  omega
theorem fillL_fillL {ns d1 d2 : List Int} {lo : Nat} (h : lo + d1.length + d2.length ≤ ns.length) : fillL (fillL ns d1 lo) d2 (lo + d1.length) = fillL ns (d1 ++ d2) lo := by
  unfold fillL
  have hl : (ns.take lo).length = lo := by rw [List.length_take]; omega
  have e1 : (ns.take lo ++ d1 ++ ns.drop (lo + d1.length)).take (lo + d1.length) = ns.take lo ++ d1 := by
    rw [List.take_append_of_le_length (by simp; omega)]
    rw [List.take_of_length_le (by simp; omega)]
  have e2 : (ns.take lo ++ d1 ++ ns.drop (lo + d1.length)).drop (lo + d1.length + d2.length) = ns.drop (lo + (d1 ++ d2).length) := by
    rw [List.drop_append, List.drop_of_length_le (by simp; omega), List.nil_append, List.drop_drop, List.length_append, List.length_append, hl]
    congr 1
    omega
  rw [e1, e2]
  simp only [List.append_assoc]
theorem fillL_set {ns : List Int} {x : Int} {lo : Nat} (h : lo < ns.length) : ns.set lo x = fillL ns [x] lo := by
  unfold fillL
  rw [List.set_eq_take_append_cons_drop, if_pos h]
  simp
theorem and_high (x k : Nat) : x &&& (x / 2 ^ k * 2 ^ k) = x / 2 ^ k * 2 ^ k := by
  apply Nat.eq_of_testBit_eq
  intro i
  rw [Nat.testBit_and, ← Nat.shiftLeft_eq, Nat.testBit_shiftLeft, ← Nat.shiftRight_eq_div_pow, Nat.testBit_shiftRight]
  by_cases h : i ≥ k
  · have : k + (i - k) = i := by omega
    rw [this]
    cases hx : x.testBit i <;> simp
  · simp [h]
theorem bitAnd_nat (x y : Nat) : Builtin.bitAnd (x : Int) (y : Int) = ((x &&& y : Nat) : Int) := by
  unfold Builtin.bitAnd
  have h1 : decide ((0 : Int) ≤ (x : Int)) = true := decide_eq_true (by omega)
  have h2 : decide ((0 : Int) ≤ (y : Int)) = true := decide_eq_true (by omega)
  rw [h1, h2]
  simp
theorem xor_high (x k : Nat) : Builtin.bitXor (x : Int) (((x / 2 ^ k * 2 ^ k : Nat) : Int)) = ((x % 2 ^ k : Nat) : Int) := by
  rw [PyProof.Rows.bitXor_and, bitAnd_nat, and_high]
  have := Nat.div_add_mod x (2 ^ k)
  rw [Nat.mul_comm] at this
  omega
/-- what `upper` and `lower` come to -/
theorem upper_eq {x : Int} (h : 0 ≤ x) (k : Nat) : x.fdiv (2 ^ k) = ((x.toNat / 2 ^ k : Nat) : Int) := by
  obtain ⟨n, rfl⟩ := Int.eq_ofNat_of_zero_le h
  rw [Int.fdiv_eq_ediv_of_nonneg _ (by exact_mod_cast Nat.zero_le _)]
  simp
theorem lower_eq {x : Int} (h : 0 ≤ x) (k : Nat) : Builtin.bitXor x (x.fdiv (2 ^ k) * 2 ^ k) = ((x.toNat % 2 ^ k : Nat) : Int) := by
  rw [upper_eq h]
  obtain ⟨n, rfl⟩ := Int.eq_ofNat_of_zero_le h
  have : (((n : Int).toNat / 2 ^ k : Nat) : Int) * 2 ^ k = ((n / 2 ^ k * 2 ^ k : Nat) : Int) := by push_cast; simp
  rw [this]
  exact xor_high n k
end Mine
end
section
namespace Mine
def stAt (b : List Stmt) (i : Nat) : Stmt := (b[i]?).getD (.Pass ⟨0, 0, 0, 0⟩)
def bodyOf : Stmt → List Stmt
  | .FunctionDef (body := b) .. => b
  | _ => []
def paramsOf : Stmt → Arguments
  | .FunctionDef (args := a) .. => a
  | _ => { posonlyargs := [], args := [], vararg := none, kwonlyargs := [], kw_defaults := [], kwarg := none, defaults := [] }
def scopeOf : Stmt → Scope
  | .FunctionDef (scope := a) .. => a
  | _ => { kind := .module, names := [], isGenerator := false, isCoroutine := false, more := [] }
def iSt1 : Stmt := stAt (bodyOf (stAt PySem.Challenge.pw_ga0004_01.main.body 4)) 1
def iB1 : List Stmt := bodyOf iSt1
def iP1 : Arguments := paramsOf iSt1
def iS1 : Scope := scopeOf iSt1
def iQ1 : Str := Str.ofString "_int2digits.<locals>.inner"

abbrev iFo1 (cn ci cd : Addr) (doc pm : Value) (c : Addr) (ct : Value) : Obj :=
  fnMade (Str.ofString "inner") iQ1 iP1 iB1 iS1 [(Str.ofString "n", cn), (Str.ofString "inner", ci), (Str.ofString "a_digits", cd)] doc pm c ct

abbrev own1 (f c D cn ci cd : Addr) (fo oc oD on oi od : Obj) : List (Addr × Obj) := [(f, fo), (c, oc), (D, oD), (cd, od), (ci, oi), (cn, on)]

def ShOk (a n : Int) : Prop := 0 ≤ n ∧ n ≤ 1000000 ∧ a.natAbs < 2 ^ 64
section
variable {prog : Program} {w : World} {A : Around} {E : Value → Shared → Prop} {s : Shared}
theorem lsh_by {a n : Int} {t u : Tok} {Q : Value → Shared → Prop} (h : ShOk a n) (hQ : Q (.int (a * 2 ^ n.toNat) s.toks) { s with toks := s.toks + 1 }) :
    wpAny (model prog w) A (binaryOp .LShift (.int a t) (.int n u)) Q E s := lshift_int_small h.1 h.2.1 h.2.2 hQ
theorem rsh_by {a n : Int} {t u : Tok} {Q : Value → Shared → Prop} (h : ShOk a n) (hQ : Q (.int (a.fdiv (2 ^ n.toNat)) s.toks) { s with toks := s.toks + 1 }) :
    wpAny (model prog w) A (binaryOp .RShift (.int a t) (.int n u)) Q E s := rshift_int h.1 hQ
end

def Ok1 (n : Int) (len : Nat) (lo hi : Int) (NL : Nat) (x : Int) : Prop :=
  0 ≤ lo ∧ lo + (len : Int) = hi ∧ 0 < len ∧ hi ≤ (NL : Int) ∧ NL ≤ 64 ∧ 0 ≤ x ∧ x < 1152921504606846976 ∧ x.toNat < 2 ^ (len * n.toNat)

def IH1 (prog : Program) (w : World) (p : Program) (loose : List Str) (mean : ExcName → Option Value) (mg mb : Str → Option Value)
   (f c D cn ci cd : Addr) (fo oc on oi od : Obj) (n : Int) (NL : Nat) (len : Nat) : Prop :=
   ∀ (x lo hi : Int) (tx tl th : Tok) (vs : List Value) (ns : List Int) (kk : Nat), IntsAre vs ns → ns.length = NL → Ok1 n len lo hi NL x →
     EntryC prog w (Mine.hd.heap_39 w.params) p loose mean mg mb f (own1 f c D cn ci cd fo oc (listOf vs.toArray kk) on oi od) [.int x tx, .int lo tl, .int hi th] (2 * len) (16 * len)
       (fun v new => v = .none ∧ ∃ vs', new = own1 f c D cn ci cd fo oc (listOf vs'.toArray kk) on oi od ∧ IntsAre vs' (fillL ns (digs n.toNat len x.toNat) lo.toNat))

theorem use_inner1 {prog : Program} {w : World} {p : Program} {loose : List Str} {mean : ExcName → Option Value} {mg mb : Str → Option Value}
   {f c D cn ci cd : Addr} {fo oc on oi od : Obj} {n : Int} {NL len len' : Nat}
   {dp un : Nat} {gd : Option (List Code)} {en : Str} {cs : Scope} {a : Addr} {ccd : Value} {cl : List (Str × Addr)} {outer : List Env} {A₀ : Around} {base h₀ : Heap} {L : Addr} {m : Str → Option Value} {s : Shared} {Q E : Value → Shared → Prop}
   {x lo hi : Int} {tx tl th : Tok} {vs : List Value} {ns : List Int} {kk : Nat}
   (H : ∀ len' < len, IH1 prog w p loose mean mg mb f c D cn ci cd fo oc on oi od n NL len')
   (B : Below A₀ base outer h₀) (F : Fr h₀ L s.heap m) (X : (Mine.hd.heap_39 w.params).In h₀) (N : News h₀ L s.heap (own1 f c D cn ci cd fo oc (listOf vs.toArray kk) on oi od)) (T : Top p loose mean mg mb h₀) (hk : cs.kind = .function)
   (hI : IntsAre vs ns) (hl : ns.length = NL) (ok : Ok1 n len' lo hi NL x) (hlt : len' < len) (hd : dp + 2 * len' < recursionLimit) (hu : un + 16 * len' < cLine)
   (k : ∀ vs' h' tk', IntsAre vs' (fillL ns (digs n.toNat len' x.toNat) lo.toNat) → (fillL ns (digs n.toNat len' x.toNat) lo.toNat).length = NL → Fr h₀ L h' m → News h₀ L h' (own1 f c D cn ci cd fo oc (listOf vs'.toArray kk) on oi od) → Q .none { s with heap := h', toks := tk' }) :
   wpAny (model prog w) (ktrTop dp un gd en cs L a ccd cl outer) (call (.ref f) [.int x tx, .int lo tl, .int hi th]) Q E s := by
  refine use_entry (rest := []) (H len' hlt x lo hi tx tl th vs ns kk hI hl ok) B F X N T hk (fun _ h => h) (fun _ h => nomatch h) (fun _ h => nomatch h) hd hu ?_
  rintro v h' tk' new ⟨rfl, vs', rfl, hI'⟩ F' N' _
  refine k vs' h' tk' hI' ?_ F' (by rw [List.append_nil] at N'; exact N')
  obtain ⟨o1, o2, o3, o4, o5, o6, o7, o8⟩ := ok
  rw [fillL_length, hl]
  rw [digs_length]
  omega

theorem ok1_split {n : Int} {len : Nat} {lo hi : Int} {NL : Nat} {x : Int} (hn : 0 < n) (hn1 : n < 100) (ok : Ok1 n len lo hi NL x) (h1 : lo + 1 ≠ hi) :
    ∃ a b : Nat, a + b = len ∧ a < len ∧ b < len ∧ (lo + hi).fdiv (2 ^ Int.toNat 1) = lo + a ∧
      ShOk x (((lo + hi).fdiv (2 ^ Int.toNat 1) - lo) * n) ∧
      ShOk (x.fdiv (2 ^ (((lo + hi).fdiv (2 ^ Int.toNat 1) - lo) * n).toNat)) (((lo + hi).fdiv (2 ^ Int.toNat 1) - lo) * n) ∧
      Ok1 n a lo ((lo + hi).fdiv (2 ^ Int.toNat 1)) NL (Builtin.bitXor x (x.fdiv (2 ^ (((lo + hi).fdiv (2 ^ Int.toNat 1) - lo) * n).toNat) * 2 ^ (((lo + hi).fdiv (2 ^ Int.toNat 1) - lo) * n).toNat)) ∧
      Ok1 n b ((lo + hi).fdiv (2 ^ Int.toNat 1)) hi NL (x.fdiv (2 ^ (((lo + hi).fdiv (2 ^ Int.toNat 1) - lo) * n).toNat)) ∧
      digs n.toNat len x.toNat = digs n.toNat a (Builtin.bitXor x (x.fdiv (2 ^ (((lo + hi).fdiv (2 ^ Int.toNat 1) - lo) * n).toNat) * 2 ^ (((lo + hi).fdiv (2 ^ Int.toNat 1) - lo) * n).toNat)).toNat ++
        digs n.toNat b (x.fdiv (2 ^ (((lo + hi).fdiv (2 ^ Int.toNat 1) - lo) * n).toNat)).toNat := by
  obtain ⟨o1, o2, o3, o4, o5, o6, o7, o8⟩ := ok
  have hM : (lo + hi).fdiv (2 ^ Int.toNat 1) = lo + ((len / 2 : Nat) : Int) := by
    rw [Int.fdiv_eq_ediv_of_nonneg _ (by decide)]
    show (lo + hi) / 2 = _
    omega
  have hk : (((lo + hi).fdiv (2 ^ Int.toNat 1) - lo) * n).toNat = len / 2 * n.toNat := by
    rw [hM, show lo + ((len / 2 : Nat) : Int) - lo = ((len / 2 : Nat) : Int) by omega]
    obtain ⟨m, rfl⟩ := Int.eq_ofNat_of_zero_le (Int.le_of_lt hn)
    rw [← Int.natCast_mul]
    rfl
  have hs0 : (((lo + hi).fdiv (2 ^ Int.toNat 1) - lo) * n) = ((len / 2 * n.toNat : Nat) : Int) := by
    rw [hM, show lo + ((len / 2 : Nat) : Int) - lo = ((len / 2 : Nat) : Int) by omega]
    obtain ⟨m, rfl⟩ := Int.eq_ofNat_of_zero_le (Int.le_of_lt hn)
    rw [← Int.natCast_mul]
    rfl
  have hb : len / 2 * n.toNat ≤ 6400 := by
    have h2 : len / 2 ≤ 64 := by omega
    have h3 : n.toNat ≤ 100 := by omega
    exact Nat.mul_le_mul h2 h3
  have hup := upper_eq o6 (len / 2 * n.toNat)
  have hlow := lower_eq o6 (len / 2 * n.toNat)
  have hdl : x.toNat / 2 ^ (len / 2 * n.toNat) ≤ x.toNat := Nat.div_le_self _ _
  have hml : x.toNat % 2 ^ (len / 2 * n.toNat) ≤ x.toNat := Nat.mod_le _ _
  have hmlt : x.toNat % 2 ^ (len / 2 * n.toNat) < 2 ^ (len / 2 * n.toNat) := Nat.mod_lt _ (Nat.two_pow_pos _)
  have hdlt : x.toNat / 2 ^ (len / 2 * n.toNat) < 2 ^ ((len - len / 2) * n.toNat) := by
    rw [Nat.div_lt_iff_lt_mul (Nat.two_pow_pos _), ← Nat.pow_add, ← Nat.add_mul, Nat.sub_add_cancel (by omega)]
    exact o8
  have hdg : digs n.toNat len x.toNat = digs n.toNat (len / 2) (x.toNat % 2 ^ (len / 2 * n.toNat)) ++ digs n.toNat (len - len / 2) (x.toNat / 2 ^ (len / 2 * n.toNat)) := by
    have := digs_add n.toNat (len / 2) (len - len / 2) x.toNat
    rw [Nat.add_sub_cancel' (by omega)] at this
    rw [this, digs_mod]
  rw [hk, hlow, hup, hs0, hM]
  generalize x.toNat / 2 ^ (len / 2 * n.toNat) = d at *
  generalize x.toNat % 2 ^ (len / 2 * n.toNat) = r at *
  have h64 : (2 : Nat) ^ 64 = 18446744073709551616 := by decide
  refine ⟨len / 2, len - len / 2, by omega, by omega, by omega, rfl, ⟨by omega, by omega, by omega⟩, ⟨by omega, by omega, by rw [Int.natAbs_natCast]; omega⟩,
    ⟨o1, rfl, by omega, by omega, o5, by omega, by omega, by rw [Int.toNat_natCast]; exact hmlt⟩, ⟨by omega, by omega, by omega, o4, o5, by omega, by omega, by rw [Int.toNat_natCast]; exact hdlt⟩, ?_⟩
  rw [Int.toNat_natCast, Int.toNat_natCast]
  exact hdg

theorem base_eq {n x lo hi : Int} {len NL : Nat} {ns : List Int} (hl : ns.length = NL) (ok : Ok1 n len lo hi NL x) (hb : lo + 1 = hi) : ns.set lo.toNat x = fillL ns (digs n.toNat len x.toNat) lo.toNat := by
  obtain ⟨o1, o2, o3, o4, o5, o6, o7, o8⟩ := ok
  have h1 : len = 1 := by omega
  subst h1
  rw [Nat.one_mul] at o8
  rw [digs_one o8, fillL_set (by omega), Int.toNat_of_nonneg o6]
theorem step_eq {n x u v lo M hi : Int} {len a b NL : Nat} {ns : List Int} (hl : ns.length = NL) (ok : Ok1 n len lo hi NL x) (hab : a + b = len) (hM : M = lo + a) (hdg : digs n.toNat len x.toNat = digs n.toNat a u.toNat ++ digs n.toNat b v.toNat) :
    fillL (fillL ns (digs n.toNat a u.toNat) lo.toNat) (digs n.toNat b v.toNat) M.toNat = fillL ns (digs n.toNat len x.toNat) lo.toNat := by
  obtain ⟨o1, o2, o3, o4, o5, o6, o7, o8⟩ := ok
  have : M.toNat = lo.toNat + (digs n.toNat a u.toNat).length := by rw [digs_length]; omega
  rw [this, fillL_fillL (by rw [digs_length, digs_length]; omega), hdg]

local macro_rules | `(tactic| walk_at "binaryOp LShift int int") => `(tactic| (k_dflt (refine' Mine.lsh_by ?k1 ?_; (case k1 => assumption); k_whole)))
local macro_rules | `(tactic| walk_at "binaryOp RShift int int") => `(tactic| (k_dflt (refine' Mine.rsh_by ?k1 ?_; (case k1 => assumption); k_whole)))
local macro_rules | `(tactic| walk_at "call ref") => `(tactic| (k_dflt (refine' Mine.use_inner1 ?H ?B ?F ?X ?N ?T ?kk ?I ?l ?ok ?lt ?d ?u ?_; (case H => assumption); (case B => k_asm); (case F => k_asm); (case X => k_asm); (case N => k_asm); (case T => k_asm); (case kk => rfl); (case I => with_reducible assumption); (case l => with_reducible assumption); (case ok => assumption); (case lt => assumption); (case d => ktr_room); (case u => ktr_units); k_whole; intro vs' h' tk' hI' hl' F' N')))

theorem e_inner1 {prog : Program} {w : World} {p : Program} {loose : List Str} {mean : ExcName → Option Value} {mg mb : Str → Option Value}
   {f c D cn ci cd : Addr} {oc on oi od : Obj} {doc pm ct : Value} {n : Int} {tn : Tok} {cvs : Array Value} {ctk : Tok} {NL : Nat}
   (hD : @Ne Nat f D ∧ @Ne Nat c D ∧ @Ne Nat cn D ∧ @Ne Nat ci D ∧ @Ne Nat cd D)
   (hn : 0 < n) (hn1 : n < 100) (hoc : oc.data = .fields cvs) (hov : cvs[1]? = some (.str iQ1 ctk))
   (hcn : on.data = .cell (some (.int n tn))) (hci : oi.data = .cell (some (.ref f))) (hcd : od.data = .cell (some (.ref D))) :
   ∀ len, IH1 prog w p loose mean mg mb f c D cn ci cd (iFo1 cn ci cd doc pm c ct) oc on oi od n NL len := by
  intro len
  induction len using Nat.strongRecOn with
  | ind len IH => ?_
  walk_at "m_fillK"
  intro x lo hi tx tl th vs ns kk hI hl ok dp un gd envs base g s R B kp sz X T hown hd hu hret
  have C1 : CodeHd g 34 30 := codeHd_of_K X (by kernel_rfl)
  have hcr : s.heap.CodeRec (.ref c) iQ1 := ⟨c, oc, cvs, ctk, rfl, (hown (c, oc) (by k_mem)).1, hoc, hov⟩
  refine' entry_plain (own := own1 f c D cn ci cd (iFo1 cn ci cd doc pm c ct) oc (listOf vs.toArray kk) on oi od) kp sz T hown (hown (f, _) (List.Mem.head _)).1 rfl hcr ?room ?bind ?loc ?_ ?cell ?co ?gen ?kk
  (case room => omega)
  (case bind => exact BindsTo.of_eq rfl)
  (case loc => exact locs rfl)
  (case cell => decide +kernel)
  (case co => exact rfl)
  (case gen => exact rfl)
  (case kk => exact rfl)
  k_whole
  repeat (conv in (iB1) => whnf)
  repeat (conv in (iS1) => whnf)
  intro L' h' F' N' lt'
  (try dsimp only)
  (try k_fold)
  have ok0 := ok
  obtain ⟨o1, o2, o3, o4, o5, o6, o7, o8⟩ := ok0
  by_cases hb : lo + 1 = hi
  · k_steps
    · refine entry_end hret (by assumption) (by assumption) (fun _ h => h) ⟨rfl, _, rfl, ?_⟩
      rw [← base_eq hl ok hb]
      assumption
    all_goals exact absurd hb (by assumption)
  · obtain ⟨a, b, hab, ha, hb', hM, s1, s2, k1, k2, hdg⟩ := ok1_split hn hn1 ok hb
    k_steps
    · exact absurd (by assumption) hb
    · refine entry_end hret (by assumption) (by assumption) (fun _ h => h) ⟨rfl, _, rfl, ?_⟩
      rw [← step_eq hl ok hab hM hdg]
      assumption
end Mine
end
section
namespace Mine
theorem nd_nonneg {x n : Int} (hn : 0 < n) : 0 ≤ (((Builtin.Int.intBits x : Nat) : Int) + n - 1).fdiv n := by
  rw [Int.fdiv_eq_ediv_of_nonneg _ (by omega)]
  exact Int.ediv_nonneg (by omega) (by omega)
theorem nd_le {x n : Int} (hx0 : 0 ≤ x) (hx : x < 18446744073709551616) (hn : 0 < n) : (((Builtin.Int.intBits x : Nat) : Int) + n - 1).fdiv n ≤ 64 := by
  have hb := PySem.intBits_le_64 (k := x) (by omega) (by omega)
  rw [Int.fdiv_eq_ediv_of_nonneg _ (by omega)]
  have : (((Builtin.Int.intBits x : Nat) : Int) + n - 1) / n < 65 := by
    refine Int.ediv_lt_of_lt_mul hn ?_
    have : (64 : Int) ≤ 64 * n := by omega
    omega
  omega
def ndig (x n : Int) : Nat := ((((Builtin.Int.intBits x : Nat) : Int) + n - 1).fdiv n).toNat
def adigs (x n : Int) : List Int := digs n.toNat (ndig x n) x.toNat
theorem ndig_cover {x n : Int} (hx0 : 0 ≤ x) (hn : 0 < n) : x.toNat < 2 ^ (ndig x n * n.toNat) := by
  obtain ⟨m, rfl⟩ := Int.eq_ofNat_of_zero_le hx0
  obtain ⟨k, rfl⟩ := Int.eq_ofNat_of_zero_le (Int.le_of_lt hn)
  have hb : m < 2 ^ (Builtin.Int.intBits (m : Int)) := by
    unfold Builtin.Int.intBits
    by_cases h : m = 0
    · subst h; simp
    · rw [if_neg (by simpa using h)]
      simpa using Nat.lt_log2_self
  refine Nat.lt_of_lt_of_le hb (Nat.pow_le_pow_right (by decide) ?_)
  unfold ndig
  rw [Int.fdiv_eq_ediv_of_nonneg _ (by omega)]
  generalize Builtin.Int.intBits (m : Int) = b
  have e : ((b : Int) + (k : Int) - 1) = ((b + k - 1 : Nat) : Int) := by omega
  rw [e]
  show b ≤ (((b + k - 1 : Nat) : Int) / (k : Int)).toNat * k
  rw [← Int.natCast_ediv, Int.toNat_natCast]
  have hk : 0 < k := by omega
  have h1 := Nat.div_add_mod (b + k - 1) k
  have h2 := Nat.mod_lt (b + k - 1) hk
  rw [Nat.mul_comm] at h1
  omega
theorem ndig_zero {n : Int} (hn : 0 < n) : ndig 0 n = 0 := by
  unfold ndig
  rw [Int.fdiv_eq_ediv_of_nonneg _ (by omega), Int.ediv_eq_zero_of_lt (by unfold Builtin.Int.intBits; simp; omega) (by unfold Builtin.Int.intBits; simp; omega)]
  rfl

theorem adigs_zero {n : Int} (hn : 0 < n) : adigs 0 n = [] := by
  unfold adigs
  rw [ndig_zero hn]
  rfl

abbrev tab1 (c : Addr) : Obj := tabObj #[rawInt 32, rawInt 4, .ref c]
abbrev tab2 (c : Addr) : Obj := tabObj #[rawInt 47, rawInt 4, .ref c]
def CodeOk (q : Str) (oc : Obj) : Prop := ∃ cvs t, oc.data = .fields cvs ∧ (cvs : Array Value)[1]? = some (.str q t)

theorem use_i1 {prog : Program} {w : World} {p : Program} {loose : List Str} {mean : ExcName → Option Value} {mg mb : Str → Option Value}
   {f c D cn ci cd : Addr} {oc on oi od : Obj} {doc pm ct : Value} {n : Int} {tn : Tok}
   {dp un : Nat} {gd : Option (List Code)} {en : Str} {cs : Scope} {a : Addr} {ccd : Value} {cl : List (Str × Addr)} {outer : List Env} {A₀ : Around} {base h₀ : Heap} {L : Addr} {m : Str → Option Value} {s : Shared} {Q E : Value → Shared → Prop}
   {x : Int} {hi : Nat} {tx tl th : Tok} {vs : List Value} {ns : List Int} {kk : Nat} {news rest : List (Addr × Obj)}
   (B : Below A₀ base outer h₀) (F : Fr h₀ L s.heap m) (X : (Mine.hd.heap_39 w.params).In h₀) (N : News h₀ L s.heap news) (T : Top p loose mean mg mb h₀) (hk : cs.kind = .function)
   (hsub : ∀ q ∈ own1 f c D cn ci cd (iFo1 cn ci cd doc pm c ct) oc (listOf vs.toArray kk) on oi od, q ∈ news) (hrest : ∀ q ∈ rest, q ∈ news)
   (hdis : ∀ q ∈ rest, @Ne Nat q.1 f ∧ @Ne Nat q.1 c ∧ @Ne Nat q.1 D ∧ @Ne Nat q.1 cd ∧ @Ne Nat q.1 ci ∧ @Ne Nat q.1 cn)
   (hD : @Ne Nat f D ∧ @Ne Nat c D ∧ @Ne Nat cn D ∧ @Ne Nat ci D ∧ @Ne Nat cd D)
   (hcn : on.data = .cell (some (.int n tn))) (hci : oi.data = .cell (some (.ref f))) (hcd : od.data = .cell (some (.ref D)))
   (hoc : CodeOk iQ1 oc) (hn : 0 < n) (hn1 : n < 100)
   (hI : IntsAre vs ns) (hl : ns.length = hi) (hhi : hi = ndig x n) (hx0 : 0 ≤ x) (hx1 : x < 1152921504606846976) (hne : x ≠ 0) (hd : dp + 128 < recursionLimit) (hu : un + 1024 < cLine)
   (k : ∀ vs' h' tk', IntsAre vs' (adigs x n) → Fr h₀ L h' m → News h₀ L h' (own1 f c D cn ci cd (iFo1 cn ci cd doc pm c ct) oc (listOf vs'.toArray kk) on oi od ++ rest) → Q .none { s with heap := h', toks := tk' }) :
   wpAny (model prog w) (ktrTop dp un gd en cs L a ccd cl outer) (call (.ref f) [.int x tx, .int 0 tl, .int (hi : Int) th]) Q E s := by
  obtain ⟨cvs, ctk, hoc, hov⟩ := hoc
  have h64 : (ndig x n : Int) ≤ 64 := by
    have h0 := nd_nonneg (x := x) hn
    have h1 := nd_le hx0 (by omega) hn
    unfold ndig
    omega
  have hcov := ndig_cover hx0 hn
  have hpos : 0 < ndig x n := by
    rcases Nat.eq_zero_or_pos (ndig x n) with e | e
    · rw [e, Nat.zero_mul] at hcov; omega
    · exact e
  have ok : Ok1 n (ndig x n) 0 (hi : Int) hi x := ⟨Int.le_refl _, by omega, hpos, Int.le_refl _, by omega, hx0, hx1, hcov⟩
  refine use_entry (e_inner1 hD hn hn1 hoc hov hcn hci hcd (ndig x n) x 0 hi tx tl th vs ns kk hI hl ok) B F X N T hk hsub hrest (fun q hq q' hq' => ?_) (by omega) (by omega) ?_
  · obtain ⟨e1, e2, e3, e4, e5, e6⟩ := hdis q hq
    rcases List.mem_cons.mp hq' with rfl | hq'
    · exact e1
    rcases List.mem_cons.mp hq' with rfl | hq'
    · exact e2
    rcases List.mem_cons.mp hq' with rfl | hq'
    · exact e3
    rcases List.mem_cons.mp hq' with rfl | hq'
    · exact e4
    rcases List.mem_cons.mp hq' with rfl | hq'
    · exact e5
    rcases List.mem_cons.mp hq' with rfl | hq'
    · exact e6
    · cases hq'
  · rintro v h' tk' new ⟨rfl, vs', rfl, hI'⟩ F' N' _
    refine k vs' h' tk' ?_ F' N'
    have e : fillL ns (digs n.toNat (ndig x n) x.toNat) (Int.toNat 0) = adigs x n := by
      show ns.take 0 ++ adigs x n ++ ns.drop (0 + (adigs x n).length) = _
      rw [List.take_zero, List.nil_append, List.drop_of_length_le, List.append_nil]
      unfold adigs
      rw [digs_length]; omega
    rw [← e]
    exact hI'

def Own30 : Option (Addr × Obj) → List (Addr × Obj)
  | none => [(30, tabObj #[])]
  | some (c, oc) => [(30, tab1 c), (c, oc)]
def St30 : Option (Addr × Obj) → Prop
  | none => True
  | some (c, oc) => CodeOk iQ1 oc ∧ @Ne Nat c 30

theorem e_int2digits {prog : Program} {w : World} {p : Program} {loose : List Str} {mean : ExcName → Option Value} {mg mb : Str → Option Value}
  (x n : Int) (tx tn : Tok) (hx0 : 0 ≤ x) (hx1 : x < 1152921504606846976) (hn : 0 < n) (hn1 : n < 100) (st : Option (Addr × Obj)) (hst : St30 st) :
  EntryC prog w (Mine.hd.heap_39 w.params) p loose mean mg mb 35 (Own30 st) [.int x tx, .int n tn] 140 1200
    (fun v new => ∃ D vs c oc, v = .ref D ∧ new = [(D, listOf vs.toArray 0), (30, tab1 c), (c, oc)] ∧ CodeOk iQ1 oc ∧ @Ne Nat c 30 ∧ @Ne Nat D 30 ∧ @Ne Nat c D ∧ IntsAre vs (adigs x n) ∧ (∀ q, st = some q → (c, oc) = q)) := by
  walk_at "m_fillK"
  intro dp un gd envs base g s R B kp sz X T hown hd hu hret
  have C1 : CodeHd g 34 30 := codeHd_of_K X (by kernel_rfl)
  have hq0 : 0 ≤ (((Builtin.Int.intBits x : Nat) : Int) + n - 1).fdiv n := nd_nonneg hn
  have hq1 : (((Builtin.Int.intBits x : Nat) : Int) + n - 1).fdiv n ≤ 64 := nd_le hx0 (by omega) hn
  rcases st with _ | ⟨c, oc⟩
  · have hown : ∀ q ∈ [((30 : Addr), tabObj #[])], s.heap.get? q.1 = some q.2 ∧ g.get? q.1 = none := hown
    walk_at "m_entC"
    k_steps
    · refine' use_i1 (rest := [(30, tab1 _)]) ?B ?F ?X ?N ?T ?kk ?sub ?rest ?dis ?D ?cn ?ci ?cd ?oc hn hn1 ?I ?l ?hi hx0 hx1 ?ne ?d ?u ?_
      (case B => k_asm)
      (case F => k_asm)
      (case X => k_asm)
      (case N => k_asm)
      (case T => k_asm)
      (case kk => rfl)
      (case sub => walk_at "m_sub")
      (case rest => walk_at "m_sub")
      (case dis => (refine List.forall_mem_cons.mpr ⟨?_, List.forall_mem_nil _⟩; dsimp only; refine ⟨?_, ?_, ?_, ?_, ?_, ?_⟩ <;> omega))
      (case D => (refine ⟨?_, ?_, ?_, ?_, ?_⟩ <;> omega))
      (case cn => assumption)
      (case ci => assumption)
      (case cd => assumption)
      (case oc => exact ⟨_, _, by assumption, by assumption⟩)
      (case I => assumption)
      (case l => assumption)
      (case hi => (unfold ndig; omega))
      (case ne => assumption)
      (case d => ktr_room)
      (case u => ktr_units)
      intro vs' h' tk' hI' F' N'
      (try simp only [List.cons_append, List.nil_append] at N')
      k_steps
      try dsimp only
      refine entry_end (new := [(_, listOf vs'.toArray 0), (30, tab1 _), (_, _)]) hret (by assumption) (by assumption) (by walk_at "m_sub") ⟨_, vs', _, _, rfl, rfl, ?_, ?_, ?_, ?_, hI', ?_⟩
      · exact ⟨_, _, by assumption, by assumption⟩
      · omega
      · omega
      · omega
      · exact fun q h => nomatch h
    · have hx : x = 0 := by assumption
      subst hx
      have hz := ndig_zero hn
      unfold ndig at hz
      try dsimp only
      refine entry_end (new := [(_, listOf _ 0), (30, tab1 _), (_, _)]) hret (by assumption) (by assumption) (by walk_at "m_sub") ⟨_, _, _, _, rfl, rfl, ?_, ?_, ?_, ?_, ?_, ?_⟩
      · exact ⟨_, _, by assumption, by assumption⟩
      · omega
      · omega
      · omega
      · rw [hz, adigs_zero hn]
        exact .nil
      · exact fun q h => nomatch h
  · have hown : ∀ q ∈ [((30 : Addr), tab1 c), (c, oc)], s.heap.get? q.1 = some q.2 ∧ g.get? q.1 = none := hown
    obtain ⟨⟨cvs, ctk, hoc, hov⟩, hc30⟩ := hst
    walk_at "m_entC"
    k_steps
    · refine' use_i1 (rest := [(30, tab1 _)]) ?B ?F ?X ?N ?T ?kk ?sub ?rest ?dis ?D ?cn ?ci ?cd ?oc hn hn1 ?I ?l ?hi hx0 hx1 ?ne ?d ?u ?_
      (case B => k_asm)
      (case F => k_asm)
      (case X => k_asm)
      (case N => k_asm)
      (case T => k_asm)
      (case kk => rfl)
      (case sub => walk_at "m_sub")
      (case rest => walk_at "m_sub")
      (case dis => (refine List.forall_mem_cons.mpr ⟨?_, List.forall_mem_nil _⟩; dsimp only; refine ⟨?_, ?_, ?_, ?_, ?_, ?_⟩ <;> omega))
      (case D => (refine ⟨?_, ?_, ?_, ?_, ?_⟩ <;> omega))
      (case cn => assumption)
      (case ci => assumption)
      (case cd => assumption)
      (case oc => exact ⟨_, _, hoc, hov⟩)
      (case I => assumption)
      (case l => assumption)
      (case hi => (unfold ndig; omega))
      (case ne => assumption)
      (case d => ktr_room)
      (case u => ktr_units)
      intro vs' h' tk' hI' F' N'
      (try simp only [List.cons_append, List.nil_append] at N')
      k_steps
      try dsimp only
      refine entry_end (new := [(_, listOf vs'.toArray 0), (30, tab1 _), (_, _)]) hret (by assumption) (by assumption) (by walk_at "m_sub") ⟨_, vs', _, _, rfl, rfl, ?_, ?_, ?_, ?_, hI', ?_⟩
      · exact ⟨_, _, hoc, hov⟩
      · omega
      · omega
      · omega
      · exact fun q h => Option.some.inj h
    · have hx : x = 0 := by assumption
      subst hx
      have hz := ndig_zero hn
      unfold ndig at hz
      try dsimp only
      refine entry_end (new := [(_, listOf _ 0), (30, tab1 _), (_, _)]) hret (by assumption) (by assumption) (by walk_at "m_sub") ⟨_, _, _, _, rfl, rfl, ?_, ?_, ?_, ?_, ?_, ?_⟩
      · exact ⟨_, _, hoc, hov⟩
      · omega
      · omega
      · omega
      · rw [hz, adigs_zero hn]
        exact .nil
      · exact fun q h => Option.some.inj h
end Mine
end
section
namespace Mine
/-- the number whose digits to the base 2^n these are, the lowest first -/
def undig (n : Nat) : List Int → Int
  | [] => 0
  | d :: r => d + 2 ^ n * undig n r
theorem undig_append (n : Nat) : ∀ (a b : List Int), undig n (a ++ b) = undig n a + 2 ^ (a.length * n) * undig n b
  | [], b => by simp [undig]
  | d :: r, b => by
    show d + 2 ^ n * undig n (r ++ b) = d + 2 ^ n * undig n r + 2 ^ ((r.length + 1) * n) * undig n b
    rw [undig_append n r b, Int.mul_add, Nat.add_mul, Nat.one_mul, Nat.add_comm, Int.pow_add, ← Int.mul_assoc, ← Int.add_assoc]
theorem undig_nonneg {n : Nat} : ∀ {l : List Int}, (∀ d ∈ l, 0 ≤ d) → 0 ≤ undig n l
  | [], _ => Int.le_refl _
  | d :: r, h => by
    have h1 := h d (.head _)
    have h2 := undig_nonneg (n := n) fun d hd => h d (.tail _ hd)
    have h3 : (0 : Int) ≤ 2 ^ n * undig n r := Int.mul_nonneg (Int.pow_nonneg (by decide)) h2
    show 0 ≤ d + 2 ^ n * undig n r
    omega
def seg (ns : List Int) (lo len : Nat) : List Int := (ns.drop lo).take len
theorem seg_add (ns : List Int) (lo a b : Nat) : seg ns lo (a + b) = seg ns lo a ++ seg ns (lo + a) b := by
  unfold seg
  rw [List.take_add, List.drop_drop]
theorem seg_length {ns : List Int} {lo a : Nat} (h : lo + a ≤ ns.length) : (seg ns lo a).length = a := by
  unfold seg
  rw [List.length_take, List.length_drop]; omega
theorem seg_nonneg {ns : List Int} {lo a : Nat} (h : ∀ d ∈ ns, 0 ≤ d) : ∀ d ∈ seg ns lo a, 0 ≤ d := fun d hd => h d (List.mem_of_mem_drop (List.mem_of_mem_take hd))
theorem seg_one {ns : List Int} {lo n : Nat} (h : lo < ns.length) : undig n (seg ns lo 1) = ns.getD lo 0 := by
  unfold seg
  rw [List.drop_eq_getElem_cons h]
  show ns[lo] + 2 ^ n * undig n [] = _
  rw [List.getD_eq_getElem?_getD, List.getElem?_eq_getElem h]
  show ns[lo] + 2 ^ n * 0 = ns[lo]
  omega
theorem seg_all (ns : List Int) : seg ns 0 ns.length = ns := by
  unfold seg
  rw [List.drop_zero, List.take_length]

def Ok2 (n : Int) (len : Nat) (lo hi : Int) (ns : List Int) : Prop :=
  0 ≤ lo ∧ lo + (len : Int) = hi ∧ 0 < len ∧ hi ≤ (ns.length : Int) ∧ ns.length ≤ 64 ∧ (∀ d ∈ ns, 0 ≤ d) ∧ undig n.toNat (seg ns lo.toNat len) < 1152921504606846976
def val2 (n : Int) (ns : List Int) (lo : Int) (len : Nat) : Int := undig n.toNat (seg ns lo.toNat len)

theorem ok2_split {n : Int} {len : Nat} {lo hi : Int} {ns : List Int} (hn : 0 < n) (hn1 : n < 100) (ok : Ok2 n len lo hi ns) (h1 : lo + 1 ≠ hi) :
    ∃ a b : Nat, a + b = len ∧ a < len ∧ b < len ∧
      ShOk (val2 n ns ((lo + hi).fdiv (2 ^ Int.toNat 1)) b) (((lo + hi).fdiv (2 ^ Int.toNat 1) - lo) * n) ∧
      Ok2 n a lo ((lo + hi).fdiv (2 ^ Int.toNat 1)) ns ∧ Ok2 n b ((lo + hi).fdiv (2 ^ Int.toNat 1)) hi ns ∧
      val2 n ns ((lo + hi).fdiv (2 ^ Int.toNat 1)) b * 2 ^ (((lo + hi).fdiv (2 ^ Int.toNat 1) - lo) * n).toNat + val2 n ns lo a = val2 n ns lo len := by
  obtain ⟨o1, o2, o3, o4, o5, o6, o7⟩ := ok
  have hM : (lo + hi).fdiv (2 ^ Int.toNat 1) = lo + ((len / 2 : Nat) : Int) := by
    rw [Int.fdiv_eq_ediv_of_nonneg _ (by decide)]
    show (lo + hi) / 2 = _
    omega
  have hs0 : (((lo + hi).fdiv (2 ^ Int.toNat 1) - lo) * n) = ((len / 2 * n.toNat : Nat) : Int) := by
    rw [hM, show lo + ((len / 2 : Nat) : Int) - lo = ((len / 2 : Nat) : Int) by omega]
    obtain ⟨m, rfl⟩ := Int.eq_ofNat_of_zero_le (Int.le_of_lt hn)
    rw [← Int.natCast_mul]
    rfl
  have hb : len / 2 * n.toNat ≤ 6400 := by
    have h2 : len / 2 ≤ 64 := by omega
    have h3 : n.toNat ≤ 100 := by omega
    exact Nat.mul_le_mul h2 h3
  have hMn : ((lo + ((len / 2 : Nat) : Int))).toNat = lo.toNat + len / 2 := by omega
  have hu := undig_append n.toNat (seg ns lo.toNat (len / 2)) (seg ns (lo.toNat + len / 2) (len - len / 2))
  rw [← seg_add, Nat.add_sub_cancel' (by omega), seg_length (by omega)] at hu
  have p1 : 0 ≤ undig n.toNat (seg ns lo.toNat (len / 2)) := undig_nonneg (seg_nonneg o6)
  have p2 : 0 ≤ undig n.toNat (seg ns (lo.toNat + len / 2) (len - len / 2)) := undig_nonneg (seg_nonneg o6)
  have p3 : (1 : Int) ≤ 2 ^ (len / 2 * n.toNat) := by exact_mod_cast Nat.one_le_two_pow
  have p4 : undig n.toNat (seg ns (lo.toNat + len / 2) (len - len / 2)) ≤ 2 ^ (len / 2 * n.toNat) * undig n.toNat (seg ns (lo.toNat + len / 2) (len - len / 2)) := by
    have := Int.mul_le_mul_of_nonneg_right p3 p2
    omega
  unfold val2
  rw [hs0, hM, Int.toNat_natCast, hMn]
  have h64 : (2 : Nat) ^ 64 = 18446744073709551616 := by decide
  refine ⟨len / 2, len - len / 2, by omega, by omega, by omega, ⟨by omega, by omega, by omega⟩, ⟨o1, rfl, by omega, by omega, o5, o6, by omega⟩, ⟨by omega, by omega, by omega, o4, o5, o6, ?_⟩, ?_⟩
  · rw [hMn]; omega
  · rw [hu, Int.mul_comm]; omega
end Mine
end
section
namespace Mine
def iSt2 : Stmt := stAt (bodyOf (stAt PySem.Challenge.pw_ga0004_01.main.body 5)) 0
def iB2 : List Stmt := bodyOf iSt2
def iP2 : Arguments := paramsOf iSt2
def iS2 : Scope := scopeOf iSt2
def iQ2 : Str := Str.ofString "_digits2int.<locals>.inner"

abbrev iFo2 (cn ci cd : Addr) (doc pm : Value) (c : Addr) (ct : Value) : Obj :=
  fnMade (Str.ofString "inner") iQ2 iP2 iB2 iS2 [(Str.ofString "n", cn), (Str.ofString "inner", ci), (Str.ofString "digits", cd)] doc pm c ct

def IH2 (prog : Program) (w : World) (p : Program) (loose : List Str) (mean : ExcName → Option Value) (mg mb : Str → Option Value)
   (f c D cn ci cd : Addr) (fo oc on oi od : Obj) (n : Int) (vs : List Value) (ns : List Int) (kk : Nat) (len : Nat) : Prop :=
   ∀ (lo hi : Int) (tl th : Tok), Ok2 n len lo hi ns →
     EntryC prog w (Mine.hd.heap_39 w.params) p loose mean mg mb f (own1 f c D cn ci cd fo oc (listOf vs.toArray kk) on oi od) [.int lo tl, .int hi th] (2 * len) (16 * len)
       (fun v new => (∃ t, v = .int (val2 n ns lo len) t) ∧ new = own1 f c D cn ci cd fo oc (listOf vs.toArray kk) on oi od)

theorem use_inner2 {prog : Program} {w : World} {p : Program} {loose : List Str} {mean : ExcName → Option Value} {mg mb : Str → Option Value}
   {f c D cn ci cd : Addr} {fo oc on oi od : Obj} {n : Int} {len len' : Nat}
   {dp un : Nat} {gd : Option (List Code)} {en : Str} {cs : Scope} {a : Addr} {ccd : Value} {cl : List (Str × Addr)} {outer : List Env} {A₀ : Around} {base h₀ : Heap} {L : Addr} {m : Str → Option Value} {s : Shared} {Q E : Value → Shared → Prop}
   {lo hi : Int} {tl th : Tok} {vs : List Value} {ns : List Int} {kk : Nat}
   (H : ∀ len' < len, IH2 prog w p loose mean mg mb f c D cn ci cd fo oc on oi od n vs ns kk len')
   (B : Below A₀ base outer h₀) (F : Fr h₀ L s.heap m) (X : (Mine.hd.heap_39 w.params).In h₀) (N : News h₀ L s.heap (own1 f c D cn ci cd fo oc (listOf vs.toArray kk) on oi od)) (T : Top p loose mean mg mb h₀) (hk : cs.kind = .function)
   (ok : Ok2 n len' lo hi ns) (hlt : len' < len) (hd : dp + 2 * len' < recursionLimit) (hu : un + 16 * len' < cLine)
   (k : ∀ t h' tk', Fr h₀ L h' m → News h₀ L h' (own1 f c D cn ci cd fo oc (listOf vs.toArray kk) on oi od) → Q (.int (val2 n ns lo len') t) { s with heap := h', toks := tk' }) :
   wpAny (model prog w) (ktrTop dp un gd en cs L a ccd cl outer) (call (.ref f) [.int lo tl, .int hi th]) Q E s := by
  refine use_entry (rest := []) (H len' hlt lo hi tl th ok) B F X N T hk (fun _ h => h) (fun _ h => nomatch h) (fun _ h => nomatch h) hd hu ?_
  rintro v h' tk' new ⟨⟨t, rfl⟩, rfl⟩ F' N' _
  exact k t h' tk' F' (by rw [List.append_nil] at N'; exact N')

theorem base2_eq {n lo hi : Int} {len : Nat} {ns : List Int} (ok : Ok2 n len lo hi ns) (hb : lo + 1 = hi) : ns.getD lo.toNat 0 = val2 n ns lo len := by
  obtain ⟨o1, o2, o3, o4, o5, o6, o7⟩ := ok
  have h1 : len = 1 := by omega
  subst h1
  exact (seg_one (by omega)).symm
theorem int_post {P : Prop} {x y : Int} {t : Tok} (h : x = y) (hp : P) : (∃ t', Value.int x t = .int y t') ∧ P := ⟨⟨t, h ▸ rfl⟩, hp⟩

local macro_rules | `(tactic| walk_at "binaryOp LShift int int") => `(tactic| (k_dflt (refine' Mine.lsh_by ?k1 ?_; (case k1 => assumption); k_whole)))
local macro_rules | `(tactic| walk_at "call ref") => `(tactic| (k_dflt (refine' Mine.use_inner2 ?H ?B ?F ?X ?N ?T ?kk ?ok ?lt ?d ?u ?_; (case H => assumption); (case B => k_asm); (case F => k_asm); (case X => k_asm); (case N => k_asm); (case T => k_asm); (case kk => rfl); (case ok => assumption); (case lt => assumption); (case d => ktr_room); (case u => ktr_units); k_whole; intro t' h' tk' F' N')))

theorem e_inner2 {prog : Program} {w : World} {p : Program} {loose : List Str} {mean : ExcName → Option Value} {mg mb : Str → Option Value}
   {f c D cn ci cd : Addr} {oc on oi od : Obj} {doc pm ct : Value} {n : Int} {tn : Tok} {cvs : Array Value} {ctk : Tok} {vs : List Value} {ns : List Int} {kk : Nat}
   (hn : 0 < n) (hn1 : n < 100) (hoc : oc.data = .fields cvs) (hov : cvs[1]? = some (.str iQ2 ctk))
   (hcn : on.data = .cell (some (.int n tn))) (hci : oi.data = .cell (some (.ref f))) (hcd : od.data = .cell (some (.ref D))) (hI : IntsAre vs ns) :
   ∀ len, IH2 prog w p loose mean mg mb f c D cn ci cd (iFo2 cn ci cd doc pm c ct) oc on oi od n vs ns kk len := by
  intro len
  induction len using Nat.strongRecOn with
  | ind len IH => ?_
  walk_at "m_fillK"
  intro lo hi tl th ok dp un gd envs base g s R B kp sz X T hown hd hu hret
  have C1 : CodeHd g 34 30 := codeHd_of_K X (by kernel_rfl)
  have hcr : s.heap.CodeRec (.ref c) iQ2 := ⟨c, oc, cvs, ctk, rfl, (hown (c, oc) (by k_mem)).1, hoc, hov⟩
  refine' entry_plain (own := own1 f c D cn ci cd (iFo2 cn ci cd doc pm c ct) oc (listOf vs.toArray kk) on oi od) kp sz T hown (hown (f, _) (List.Mem.head _)).1 rfl hcr ?room ?bind ?loc ?_ ?cell ?co ?gen ?kk
  (case room => omega)
  (case bind => exact BindsTo.of_eq rfl)
  (case loc => exact locs rfl)
  (case cell => decide +kernel)
  (case co => exact rfl)
  (case gen => exact rfl)
  (case kk => exact rfl)
  k_whole
  repeat (conv in (iB2) => whnf)
  repeat (conv in (iS2) => whnf)
  intro L' h' F' N' lt'
  (try dsimp only)
  (try k_fold)
  have ok0 := ok
  obtain ⟨o1, o2, o3, o4, o5, o6, o7⟩ := ok0
  by_cases hb : lo + 1 = hi
  · k_steps
    · exact entry_end hret (by assumption) (by assumption) (fun _ h => h) (int_post (base2_eq ok hb) rfl)
    all_goals exact absurd hb (by assumption)
  · obtain ⟨a, b, hab, ha, hb', s1, k1, k2, hdg⟩ := ok2_split hn hn1 ok hb
    k_steps
    · exact absurd (by assumption) hb
    · exact entry_end hret (by assumption) (by assumption) (fun _ h => h) (int_post hdg rfl)
end Mine
end
section
namespace Mine
def Own37 : Option (Addr × Obj) → List (Addr × Obj)
  | none => [(37, tabObj #[])]
  | some (c, oc) => [(37, tab2 c), (c, oc)]
def St37 : Option (Addr × Obj) → Prop
  | none => True
  | some (c, oc) => CodeOk iQ2 oc ∧ @Ne Nat c 37

theorem int_ex {x y : Int} {t : Tok} (h : x = y) : ∃ t', Value.int x t = .int y t' := ⟨t, h ▸ rfl⟩
theorem use_i2 {prog : Program} {w : World} {p : Program} {loose : List Str} {mean : ExcName → Option Value} {mg mb : Str → Option Value}
   {f c D cn ci cd : Addr} {oc on oi od : Obj} {doc pm ct : Value} {n : Int} {tn : Tok}
   {dp un : Nat} {gd : Option (List Code)} {en : Str} {cs : Scope} {a : Addr} {ccd : Value} {cl : List (Str × Addr)} {outer : List Env} {A₀ : Around} {base h₀ : Heap} {L : Addr} {m : Str → Option Value} {s : Shared} {Q E : Value → Shared → Prop}
   {tl th : Tok} {vs : List Value} {ns : List Int} {kk : Nat} {news rest : List (Addr × Obj)}
   (B : Below A₀ base outer h₀) (F : Fr h₀ L s.heap m) (X : (Mine.hd.heap_39 w.params).In h₀) (N : News h₀ L s.heap news) (T : Top p loose mean mg mb h₀) (hk : cs.kind = .function)
   (hsub : ∀ q ∈ own1 f c D cn ci cd (iFo2 cn ci cd doc pm c ct) oc (listOf vs.toArray kk) on oi od, q ∈ news) (hrest : ∀ q ∈ rest, q ∈ news)
   (hdis : ∀ q ∈ rest, @Ne Nat q.1 f ∧ @Ne Nat q.1 c ∧ @Ne Nat q.1 D ∧ @Ne Nat q.1 cd ∧ @Ne Nat q.1 ci ∧ @Ne Nat q.1 cn)
   (hcn : on.data = .cell (some (.int n tn))) (hci : oi.data = .cell (some (.ref f))) (hcd : od.data = .cell (some (.ref D)))
   (hoc : CodeOk iQ2 oc) (hn : 0 < n) (hn1 : n < 100)
   (hI : IntsAre vs ns) (hl : ns.length ≤ 64) (hnn : ∀ d ∈ ns, 0 ≤ d) (hlt : undig n.toNat ns < 1152921504606846976) (hne : ns.length ≠ 0) (hd : dp + 128 < recursionLimit) (hu : un + 1024 < cLine)
   (k : ∀ t h' tk', Fr h₀ L h' m → News h₀ L h' (own1 f c D cn ci cd (iFo2 cn ci cd doc pm c ct) oc (listOf vs.toArray kk) on oi od ++ rest) → Q (.int (undig n.toNat ns) t) { s with heap := h', toks := tk' }) :
   wpAny (model prog w) (ktrTop dp un gd en cs L a ccd cl outer) (call (.ref f) [.int 0 tl, .int (ns.length : Int) th]) Q E s := by
  obtain ⟨cvs, ctk, hoc, hov⟩ := hoc
  have e : val2 n ns 0 ns.length = undig n.toNat ns := by unfold val2; rw [show Int.toNat 0 = 0 from rfl, seg_all]
  have ok : Ok2 n ns.length 0 (ns.length : Int) ns := ⟨Int.le_refl _, by omega, by omega, Int.le_refl _, hl, hnn, by have := e; unfold val2 at this; rw [this]; exact hlt⟩
  refine use_entry (e_inner2 hn hn1 hoc hov hcn hci hcd hI ns.length 0 ns.length tl th ok) B F X N T hk hsub hrest (fun q hq q' hq' => ?_) (by omega) (by omega) ?_
  · obtain ⟨e1, e2, e3, e4, e5, e6⟩ := hdis q hq
    rcases List.mem_cons.mp hq' with rfl | hq'
    · exact e1
    rcases List.mem_cons.mp hq' with rfl | hq'
    · exact e2
    rcases List.mem_cons.mp hq' with rfl | hq'
    · exact e3
    rcases List.mem_cons.mp hq' with rfl | hq'
    · exact e4
    rcases List.mem_cons.mp hq' with rfl | hq'
    · exact e5
    rcases List.mem_cons.mp hq' with rfl | hq'
    · exact e6
    · cases hq'
  · rintro v h' tk' new ⟨⟨t, rfl⟩, rfl⟩ F' N' _
    rw [e]
    exact k t h' tk' F' N'

theorem e_digits2int {prog : Program} {w : World} {p : Program} {loose : List Str} {mean : ExcName → Option Value} {mg mb : Str → Option Value}
  (n : Int) (tn : Tok) (hn : 0 < n) (hn1 : n < 100) (D : Addr) (vs : List Value) (ns : List Int) (kk : Nat) (hI : IntsAre vs ns) (hl64 : ns.length ≤ 64) (hnn : ∀ d ∈ ns, 0 ≤ d) (hlt : undig n.toNat ns < 1152921504606846976)
  (st : Option (Addr × Obj)) (hst : St37 st) (hD37 : @Ne Nat D 37) (hDc : ∀ q, st = some q → @Ne Nat D q.1) :
  EntryC prog w (Mine.hd.heap_39 w.params) p loose mean mg mb 42 ((D, listOf vs.toArray kk) :: Own37 st) [.ref D, .int n tn] 140 1200
    (fun v new => ∃ c oc, (∃ t, v = .int (undig n.toNat ns) t) ∧ new = [(37, tab2 c), (c, oc)] ∧ CodeOk iQ2 oc ∧ @Ne Nat c 37 ∧ (∀ q, st = some q → (c, oc) = q)) := by
  walk_at "m_fillK"
  intro dp un gd envs base g s R B kp sz X T hown hd hu hret
  have C1 : CodeHd g 41 37 := codeHd_of_K X (by kernel_rfl)
  rcases st with _ | ⟨c, oc⟩
  · have hown : ∀ q ∈ [(D, listOf vs.toArray kk), ((37 : Addr), tabObj #[])], s.heap.get? q.1 = some q.2 ∧ g.get? q.1 = none := hown
    walk_at "m_entC"
    k_steps
    · refine' use_i2 (rest := [(37, tab2 _)]) ?B ?F ?X ?N ?T ?kk ?sub ?rest ?dis ?cn ?ci ?cd ?oc hn hn1 hI hl64 hnn hlt ?ne ?d ?u ?_
      (case B => k_asm)
      (case F => k_asm)
      (case X => k_asm)
      (case N => k_asm)
      (case T => k_asm)
      (case kk => rfl)
      (case sub => walk_at "m_sub")
      (case rest => walk_at "m_sub")
      (case dis => (refine List.forall_mem_cons.mpr ⟨?_, List.forall_mem_nil _⟩; dsimp only; refine ⟨?_, ?_, ?_, ?_, ?_, ?_⟩ <;> omega))
      (case cn => assumption)
      (case ci => assumption)
      (case cd => assumption)
      (case oc => exact ⟨_, _, by assumption, by assumption⟩)
      (case ne => omega)
      (case d => ktr_room)
      (case u => ktr_units)
      intro t' h' tk' F' N'
      (try simp only [List.cons_append, List.nil_append] at N')
      k_steps
      try dsimp only
      refine entry_end (new := [(37, tab2 _), (_, _)]) hret (by assumption) (by assumption) (by walk_at "m_sub") ⟨_, _, ⟨_, rfl⟩, rfl, ?_, ?_, ?_⟩
      · exact ⟨_, _, by assumption, by assumption⟩
      · omega
      · exact fun q h => nomatch h
    · try dsimp only
      have hz : ns = [] := List.eq_nil_of_length_eq_zero (by omega)
      refine entry_end (new := [(37, tab2 _), (_, _)]) hret (by assumption) (by assumption) (by walk_at "m_sub") ⟨_, _, int_ex ?_, rfl, ?_, ?_, ?_⟩
      rotate_left
      · exact ⟨_, _, by assumption, by assumption⟩
      · omega
      · exact fun q h => nomatch h
      · rw [hz]
        rfl
  · have hown : ∀ q ∈ [(D, listOf vs.toArray kk), ((37 : Addr), tab2 c), (c, oc)], s.heap.get? q.1 = some q.2 ∧ g.get? q.1 = none := hown
    obtain ⟨⟨cvs, ctk, hoc, hov⟩, hc37⟩ := hst
    have hDc : @Ne Nat D c := hDc _ rfl
    walk_at "m_entC"
    k_steps
    · refine' use_i2 (rest := [(37, tab2 _)]) ?B ?F ?X ?N ?T ?kk ?sub ?rest ?dis ?cn ?ci ?cd ?oc hn hn1 hI hl64 hnn hlt ?ne ?d ?u ?_
      (case B => k_asm)
      (case F => k_asm)
      (case X => k_asm)
      (case N => k_asm)
      (case T => k_asm)
      (case kk => rfl)
      (case sub => walk_at "m_sub")
      (case rest => walk_at "m_sub")
      (case dis => (refine List.forall_mem_cons.mpr ⟨?_, List.forall_mem_nil _⟩; dsimp only; refine ⟨?_, ?_, ?_, ?_, ?_, ?_⟩ <;> omega))
      (case cn => assumption)
      (case ci => assumption)
      (case cd => assumption)
      (case oc => exact ⟨_, _, hoc, hov⟩)
      (case ne => omega)
      (case d => ktr_room)
      (case u => ktr_units)
      intro t' h' tk' F' N'
      (try simp only [List.cons_append, List.nil_append] at N')
      k_steps
      try dsimp only
      refine entry_end (new := [(37, tab2 _), (_, _)]) hret (by assumption) (by assumption) (by walk_at "m_sub") ⟨_, _, ⟨_, rfl⟩, rfl, ?_, ?_, ?_⟩
      · exact ⟨_, _, hoc, hov⟩
      · omega
      · exact fun q h => Option.some.inj h
    · try dsimp only
      have hz : ns = [] := List.eq_nil_of_length_eq_zero (by omega)
      refine entry_end (new := [(37, tab2 _), (_, _)]) hret (by assumption) (by assumption) (by walk_at "m_sub") ⟨_, _, int_ex ?_, rfl, ?_, ?_, ?_⟩
      rotate_left
      · exact ⟨_, _, hoc, hov⟩
      · omega
      · exact fun q h => Option.some.inj h
      · rw [hz]
        rfl
end Mine
end
section
namespace Mine
/-- a mark at which the walk stops -/
structure Stop (P : Prop) : Prop where
  go : P
theorem stop_any {P : Prop} (h : Stop P) : P := h.go
section
variable {prog : Program} {w : World} {A : Around} {E : Value → Shared → Prop} {s : Shared}
theorem stop_call {f : Addr} {vs : List Value} {Q : Value → Shared → Prop} (h : Stop (wpAny (model prog w) A (call (.ref f) vs) Q E s)) : wpAny (model prog w) A (call (.ref f) vs) Q E s := h.go
theorem stop_iter {v : Value} {Q : Value → Shared → Prop} (h : Stop (wpAny (model prog w) A (pyIter v) Q E s)) : wpAny (model prog w) A (pyIter v) Q E s := h.go
theorem stop_while {t : Expr} {b o : List Stmt} {p : Pos} {env : Env} {Q : Flow → Shared → Prop} (h : Stop (wpAny (model prog w) A (exec (.While t b o p) env) Q E s)) : wpAny (model prog w) A (exec (.While t b o p) env) Q E s := h.go

theorem kstB_self {m : Str → Option Value} {ps : List (Str × Value)} (h : ∀ q ∈ ps, m q.1 = some q.2) : kstB m ps = m := funext fun _ => kstB_eq h fun _ => rfl
theorem fr_kst {h₀ h : Heap} {L : Addr} {m : Str → Option Value} {ps : List (Str × Value)} (hm : ∀ q ∈ ps, m q.1 = some q.2) (F : Fr h₀ L h m) : Fr h₀ L h (kstB m ps) := by rw [kstB_self hm]; exact F
theorem fr_kstx {h₀ h : Heap} {L : Addr} {m : Str → Option Value} {ps : List (Str × Value)} {x : Str} {v : Value} (hm : ∀ q ∈ ps, m q.1 = some q.2) (F : Fr h₀ L h (fun y => if y = x then some v else m y)) : Fr h₀ L h (fun y => if y = x then some v else kstB m ps y) := by rw [kstB_self hm]; exact F

theorem app_my {h₀ : Heap} {L D : Addr} {m : Str → Option Value} {news news' : List (Addr × Obj)} {qs : List Value} {n : Nat} {v : Value} {Q : Value → Shared → Prop} (F : Fr h₀ L s.heap m) (N : News h₀ L s.heap news) (U : Upd D (listOf qs.toArray n) (listOf (qs ++ [v]).toArray (n + 1)) news news') (hz : qs.length ≤ 1000)
    (h : ∀ h', Fr h₀ L h' m → News h₀ L h' news' → Q .none { s with heap := h' }) : wpAny (model prog w) A (call (.builtin "list.append") [.ref D, v]) Q E s := by
  have e : (qs ++ [v]).toArray = qs.toArray.push v := by simp
  rw [e] at U
  exact append_K F N U h (by rw [sizeLine_eq, List.size_toArray]; omega)
theorem rev_my {h₀ : Heap} {L D : Addr} {m : Str → Option Value} {news news' : List (Addr × Obj)} {qs : List Value} {n : Nat} {Q : Value → Shared → Prop} (F : Fr h₀ L s.heap m) (N : News h₀ L s.heap news) (U : Upd D (listOf qs.toArray n) (listOf qs.reverse.toArray n) news news') (hz : qs.length ≤ 1000)
    (h : ∀ h', Fr h₀ L h' m → News h₀ L h' news' → Q .none { s with heap := h' }) : wpAny (model prog w) A (call (.builtin "list.reverse") [.ref D]) Q E s :=
  kl_reverse F N (by simp) U (by rw [sizeLine_eq]; simp; omega) h

variable {env : Env} {h₀ : Heap} {x : Str} {body : List Stmt} {Q : Flow → Shared → Prop}
theorem unrPost_mono {L : Addr} {s₁ s₂ : Shared} {I : Addr} {it : Obj} {r r' : (Str → Option Value) → List (Addr × Obj) → Prop} {f : Flow} (h : UnrPost h₀ L s₁ I it r Q f s₂) (hr : ∀ m n, r m n → r' m n) : UnrPost h₀ L s₁ I it r' Q f s₂ := by
  cases f with
  | ret v => exact h
  | brk => exact h
  | next => obtain ⟨h', tk, m', n', e, F, N, o, q⟩ := h; exact ⟨h', tk, m', n', e, F, N, o, hr _ _ q⟩
  | cont => obtain ⟨h', tk, m', n', e, F, N, o, q⟩ := h; exact ⟨h', tk, m', n', e, F, N, o, hr _ _ q⟩
theorem revRest_of {I : Addr} {lp : Addr × Obj} (Inv : List Value → (Str → Option Value) → List (Addr × Obj) → Prop)
    (step : ∀ v r m news, Inv (v :: r) m news → ∀ (it : Obj) h tk, it.cls = .type "list_reverseiterator" → Fr h₀ env.locals h (fun y => if y = x then some v else m y) → News h₀ env.locals h ((I, it) :: news) →
      wpAny (model prog w) A (execs body env) (UnrPost h₀ env.locals { s with heap := h, toks := tk } I it (fun m' n' => lp ∈ n' ∧ Inv r m' n') Q) E { s with heap := h, toks := tk })
    (done : ∀ m news, Inv [] m news → ∀ h tk, Fr h₀ env.locals h m → News h₀ env.locals h news → Q .next { s with heap := h, toks := tk }) :
    ∀ l m news, Inv l m news → RevRest prog w A E h₀ env x body Q s I lp l m news
  | [], m, news, h => done m news h
  | v :: r, m, news, h => fun it hh tk hc F N => wpAny_mono (step v r m news h it hh tk hc F N) (fun f s₂ p => unrPost_mono p fun m' n' q => ⟨q.1, revRest_of Inv step done r m' n' q.2⟩) fun _ _ e => e
theorem rangeRest_of {I : Addr} {a₀ : Int} {n : Nat} (J : Nat → (Str → Option Value) → List (Addr × Obj) → Prop)
    (step : ∀ i m news, i < n → J i m news → ∀ t h tk, Fr h₀ env.locals h (fun y => if y = x then some (.int (a₀ + (i : Int)) t) else m y) →
      News h₀ env.locals h ((I, itR (a₀ + ((i + 1 : Nat) : Int)) ((n : Int) - ((i + 1 : Nat) : Int))) :: news) →
      wpAny (model prog w) A (execs body env) (UnrPost h₀ env.locals { s with heap := h, toks := tk } I (itR (a₀ + ((i + 1 : Nat) : Int)) ((n : Int) - ((i + 1 : Nat) : Int))) (J (i + 1)) Q) E { s with heap := h, toks := tk })
    (done : ∀ m news, J n m news → ∀ h tk, Fr h₀ env.locals h m → News h₀ env.locals h news → Q .next { s with heap := h, toks := tk }) :
    ∀ k i m news, i + k = n → J i m news → RangeRest prog w A E h₀ env x body Q s I a₀ n k i m news
  | 0, i, m, news, e, h => done m news (by rw [Nat.add_zero] at e; rw [← e]; exact h)
  | k + 1, i, m, news, e, h => fun t hh tk F N => wpAny_mono (step i m news (by omega) h t hh tk F N) (fun f s₂ p => unrPost_mono p fun m' n' q => rangeRest_of J step done k (i + 1) m' n' (by omega) q) fun _ _ e => e
theorem listRest_of {I : Addr} {lp : Addr × Obj} (Inv : List Value → (Str → Option Value) → List (Addr × Obj) → Prop)
    (step : ∀ v r m news, Inv (v :: r) m news → ∀ (it : Obj) h tk, it.cls = .type "list_iterator" → Fr h₀ env.locals h (fun y => if y = x then some v else m y) → News h₀ env.locals h ((I, it) :: news) →
      wpAny (model prog w) A (execs body env) (UnrPost h₀ env.locals { s with heap := h, toks := tk } I it (fun m' n' => lp ∈ n' ∧ Inv r m' n') Q) E { s with heap := h, toks := tk })
    (done : ∀ m news, Inv [] m news → ∀ h tk, Fr h₀ env.locals h m → News h₀ env.locals h news → Q .next { s with heap := h, toks := tk }) :
    ∀ l m news, Inv l m news → ListRest prog w A E h₀ env x body Q s I lp l m news
  | [], m, news, h => done m news h
  | v :: r, m, news, h => fun it hh tk hc F N => wpAny_mono (step v r m news h it hh tk hc F N) (fun f s₂ p => unrPost_mono p fun m' n' q => ⟨q.1, listRest_of Inv step done r m' n' q.2⟩) fun _ _ e => e
def PostT (h₀ : Heap) (L : Addr) (s₁ : Shared) (I : Addr) (it : Obj) (rest : (Str → Option Value) → List (Addr × Obj) → Prop) (f : Flow) (s₂ : Shared) : Prop := f = .next ∧ UnrEnd h₀ L s₁ I it rest s₂
theorem own_is {a : Addr} {o : Obj} {h : Heap} {own : List (Addr × Obj)} (hs : ∀ p ∈ own, p.1 ∈ [a]) (hg : ∀ p ∈ own, h.get? p.1 = some p.2) (ho : h.get? a = some o) : ∀ p ∈ own, p = (a, o) := by
  rintro ⟨b, ob⟩ hp
  have e : b = a := List.mem_singleton.mp (hs _ hp)
  subst e
  cases (hg _ hp).symm.trans ho
  rfl
theorem led_swap {h₀ h : Heap} {L : Addr} {l l' news : List (Addr × Obj)} (N : News h₀ L h (l ++ news)) (hl : ∀ p ∈ l', p ∈ l) : News h₀ L h (l' ++ news) :=
  fun p hp => N p ((List.mem_append.mp hp).elim (fun q => List.mem_append_left _ (hl p q)) (List.mem_append_right _))
theorem iter_rangeT {target : Expr} {r : Addr} {a₀ b₀ : Int} {t₀ u₀ v₀ : Tok} {n : Nat} {m₀ : Str → Option Value} {news : List (Addr × Obj)} (J : Nat → (Str → Option Value) → List (Addr × Obj) → Prop)
    (hh : A.handled = none) (hr : IsRange s.heap r a₀ b₀ 1 t₀ u₀ v₀) (hsmall : Builtin.Range.small a₀ b₀ 1 = true) (hn : Builtin.Range.rangeSize a₀ b₀ 1 = (n : Int)) (F : Fr h₀ env.locals s.heap m₀) (N : News h₀ env.locals s.heap news)
    (hgo : ∀ it v, letOwnedTupleGo target it v = pure ()) (h0 : J 0 m₀ news)
    (turn : ∀ i m₁ news₁ I it (s₁ : Shared) t, i < n → J i m₁ news₁ → (∀ p ∈ news₁, @Ne Nat p.1 I) → Fr h₀ env.locals s₁.heap m₁ → News h₀ env.locals s₁.heap ((I, it) :: news₁) →
      wpAny (model prog w) A (assign target env (.int (a₀ + (i : Int)) t)) (fun _ s₃ => wpAny (model prog w) A (execs body env) (PostT h₀ env.locals s₁ I it (J (i + 1))) E s₃) E s₁)
    (done : ∀ m₁ news₁ h tk, J n m₁ news₁ → Fr h₀ env.locals h m₁ → News h₀ env.locals h news₁ → Q .next { s with heap := h, toks := tk }) :
    wpAny (model prog w) A (pyIter (.ref r)) (fun it s₂ => LoopAtT prog w A h₀ env target body Q E it s₂) E s := by
  have hit : ∀ (k : Nat) (h : Heap), IsRangeIter h s.heap.objs.size (a₀ + (k : Int) * 1) ((n : Int) - (k : Int)) 1 → h.get? s.heap.objs.size = some (itR (a₀ + (k : Int)) ((n : Int) - (k : Int))) := fun k h q => by
    rw [Int.mul_one] at q
    exact q
  refine wpAny_pyIter_range hr hsmall ⟨_, _, _, n, _, _, m₀, news, J, rfl, (Walks.range hh s.heap.objs.size a₀ 1 n).bound, ?off, ?new, ?sep, ?st, F.push _, ?led, ?go, h0, ?step, ?last⟩
  case off => exact fun hm => Nat.ne_of_lt F.ns.lt (List.mem_singleton.mp hm)
  case new => exact fun b hb => (List.mem_singleton.mp hb).symm ▸ next_is_new F
  case sep => exact fun p hp hm => Nat.ne_of_lt (Heap.lt_size (N p hp).1) (List.mem_singleton.mp hm)
  case st =>
    show IsRangeIter _ _ _ _ _
    rw [hn]
    simpa using Heap.get?_push_size _ rfl
  case led => exact fun p hp => ⟨Heap.get?_push_of_some _ (N p hp).1, (N p hp).2⟩
  case go =>
    intro i s' v Q' _ hq
    rw [hgo]
    exact wpAny_pure hq
  case step =>
    intro i v m₁ news₁ s₁ own hi hP hJ hoff hown hget hall hst F₁ N₁
    obtain ⟨-, t, rfl⟩ := hP
    have hI := hit (i + 1) _ hst
    have hin := hall _ (List.mem_singleton_self _) (next_is_new F) _ hI
    have T := turn i m₁ news₁ _ _ s₁ t hi hJ (fun p hp e => hoff p hp (List.mem_singleton.mpr e)) F₁ (led_swap (l' := [(_, _)]) N₁ fun p hp => (List.mem_singleton.mp hp).symm ▸ hin)
    rw [Int.mul_one]
    refine wpAny_mono T (fun _ s₃ q => wpAny_mono q (fun f s₄ r => ?_) fun _ _ e => e) fun _ _ e => e
    obtain ⟨hf, h', tk, m', news', e, F', N', ho, hJ'⟩ := r
    exact ⟨hf, h', tk, m', news', e, F', led_swap (l := [(_, _)]) N' fun p hp => List.mem_singleton.mpr (own_is hown hget hI p hp), fun p hp hm => ho p hp (List.mem_singleton.mp hm), hJ'⟩
  case last => exact fun h' tk m' news' F' N' _ hJ => done m' news' h' tk hJ F' N'
theorem ws2_intro {L : Addr} {h' : Heap} {m₂ : Str → Option Value} {news₂ : List (Addr × Obj)} {J : Nat → (Str → Option Value) → List (Addr × Obj) → Prop} {n n' tk : Nat} (F : Fr h₀ L h' m₂) (N : News h₀ L h' news₂) (hn : n' < n) (hJ : J n' m₂ news₂) :
    WhileStep2 h₀ L s J Q n .next { s with heap := h', toks := tk } := ⟨h', tk, m₂, news₂, n', rfl, F, N, hn, hJ⟩
theorem compRestT_of {L : Addr} {m : Str → Option Value} {ct elt : Expr} {scope : Scope} {cl : List (Str × Addr)} {S : List (Addr × Obj) → Prop} {P : Nat → Value → Prop} {Fin : List Value → List (Addr × Obj) → Prop} {n : Nat} (Inv : Nat → List Value → List (Addr × Obj) → Prop)
    (step : ∀ i ys news, i < n → Inv i ys news → ∀ v I oI C oC D m₂ h tk (E' : Value → Shared → Prop), P i v → LCg.NsObj oC m₂ → m₂ x = some v → Fr h₀ L h m → News h₀ L h ((I, oI) :: (C, oC) :: (D, LCg.lst ys) :: news) → LCg.Off3 I C D news → ((@Ne Nat I C) ∧ (@Ne Nat I D) ∧ (@Ne Nat C D)) →
      wpAny (model prog w) A (isTrue ct (compEnvC scope cl C env) (eval ct (compEnvC scope cl C env))) (fun ok s' => if ok = true then
        wpAny (model prog w) A (eval elt (compEnvC scope cl C env)) (LCg.CompEnd h₀ L m { s with heap := h, toks := tk } I oI C oC D (LCg.lst ys) S (fun y news' => Inv (i + 1) (ys ++ [y]) news')) E' s'
        else LCg.CompEnd h₀ L m { s with heap := h, toks := tk } I oI C oC D (LCg.lst ys) S (fun _ news' => Inv (i + 1) ys news') Value.none s') E' { s with heap := h, toks := tk })
    (done : ∀ ys news, Inv n ys news → Fin ys news) :
    ∀ k i ys news, i + k = n → Inv i ys news → LCt.CompRestT prog w A h₀ L m env ct elt x scope cl s S P Fin k i ys news
  | 0, i, ys, news, e, h => done ys news (by rw [Nat.add_zero] at e; rw [← e]; exact h)
  | k + 1, i, ys, news, e, h => fun v I oI C oC D m₂ hh tk E' hP hN hx F N off hne => wpAny_mono (step i ys news (by omega) h v I oI C oC D m₂ hh tk E' hP hN hx F N off hne) (fun ok s' q => by
      cases ok with
      | true =>
        simp only [if_true] at q ⊢
        refine wpAny_mono q (fun y s₂ r => ?_) fun _ _ e => e
        obtain ⟨h', tk', n', e', F', N', o', hS, r'⟩ := r
        exact ⟨h', tk', n', e', F', N', o', hS, compRestT_of Inv step done k (i + 1) _ n' (by omega) r'⟩
      | false =>
        simp only [Bool.false_eq_true, if_false] at q ⊢
        obtain ⟨h', tk', n', e', F', N', o', hS, r'⟩ := q
        exact ⟨h', tk', n', e', F', N', o', hS, compRestT_of Inv step done k (i + 1) _ n' (by omega) r'⟩) fun _ _ e => e
theorem comp_stop {L : Addr} {m : Str → Option Value} {ct elt iter : Expr} {px : Pos} {scope : Scope} {cl : List (Str × Addr)} {pos : Pos} {Q : Value → Shared → Prop} (F₀ : Fr h₀ L s.heap m)
    (hclos : closureFor scope env = pure cl) (hcell : ∀ y ∈ scope.names, y.2 ≠ .cell) (hkind : scope.kind = .function)
    (hnames : ∀ y ∈ scope.names, y.2 = .local → scope.names.lookup y.1 = some .local) (hx : scope.names.lookup x = some .local)
    (h : wpAny (model prog w) A (eval iter env) (fun xv s₁ => Stop (LCt.CompSrcT prog w A h₀ L m env ct elt x scope cl (fun s₂ => LCg.FinE h₀ L m s₂ Q) xv s₁)) E s)
    (hs : ∀ x, foldedSetIterable iter env x = pure x := by intro _; rfl) :
    wpAny (model prog w) A (eval (.ListComp elt [⟨.Name x px, iter, [ct], 0⟩] scope pos) env) Q E s :=
  LCt.ListComp_T F₀ hclos hcell hkind hnames hx (wpAny_mono h (fun _ _ q => q.go) fun _ _ e => e) hs
theorem sub1 {a : Addr × Obj} {l l' : List (Addr × Obj)} (h : ∀ q ∈ l, q ∈ l') : ∀ q ∈ a :: l, q ∈ a :: l' := fun q hq => (List.mem_cons.mp hq).elim (fun e => e ▸ List.mem_cons_self ..) fun hq => List.mem_cons_of_mem _ (h q hq)
theorem sub2 {a b : Addr × Obj} {l l' : List (Addr × Obj)} (h : ∀ q ∈ l, q ∈ l') : ∀ q ∈ a :: b :: l, q ∈ a :: b :: l' := sub1 (sub1 h)
theorem sub3 {a b c : Addr × Obj} {l l' : List (Addr × Obj)} (h : ∀ q ∈ l, q ∈ l') : ∀ q ∈ a :: b :: c :: l, q ∈ a :: b :: c :: l' := sub1 (sub2 h)
theorem subT {l l' l'' : List (Addr × Obj)} (h : ∀ q ∈ l, q ∈ l') (h' : ∀ q ∈ l', q ∈ l'') : ∀ q ∈ l, q ∈ l'' := fun q hq => h' q (h q hq)
theorem off3_nat {I C D : Addr} {l : List (Addr × Obj)} (x : LCg.Off3 I C D l) : ∀ p ∈ l, @Ne Nat p.1 I ∧ @Ne Nat p.1 C ∧ @Ne Nat p.1 D := fun p hp => LCg.Off3.mem x p hp
theorem off3_of_nat {I C D : Addr} {l : List (Addr × Obj)} (h : ∀ p ∈ l, @Ne Nat p.1 I ∧ @Ne Nat p.1 C ∧ @Ne Nat p.1 D) : LCg.Off3 I C D l := LCg.Off3.of fun p hp => h p hp
theorem ne_own {rest own : List (Addr × Obj)} {x : Addr × Obj} (h : ∀ q ∈ rest, ∀ q' ∈ x :: own, @Ne Nat q.1 q'.1) : ∀ q' ∈ own, ∀ q ∈ rest, @Ne Nat q'.1 q.1 := fun q' hq' q hq => (h q hq q' (List.mem_cons_of_mem _ hq')).symm
theorem off3_cons {a b c : Addr × Obj} {l : List (Addr × Obj)} {P : Addr × Obj → Prop} (ha : P a) (hb : P b) (hc : P c) (hl : ∀ q ∈ l, P q) : ∀ q ∈ a :: b :: c :: l, P q :=
  List.forall_mem_cons.mpr ⟨ha, List.forall_mem_cons.mpr ⟨hb, List.forall_mem_cons.mpr ⟨hc, hl⟩⟩⟩
theorem off1_nat {D : Addr} : ∀ {l : List (Addr × Obj)}, LCg.Off1 D l → ∀ p ∈ l, @Ne Nat p.1 D
  | [], _, _, h => nomatch h
  | _ :: _, x, p, h => by
    rcases List.mem_cons.mp h with rfl | h
    · exact x.1
    · exact off1_nat x.2 p h
theorem led_list {P : Prop} {L D : Addr} {h : Heap} {ws : List Value} {n : Nat} {r : List (Addr × Obj)} (_N : News h₀ L h ((D, listOf ws.toArray n) :: r)) (k : ∀ D' ws', D' = D → ws' = ws → P) : P := k D ws rfl rfl
theorem led_last {P : Prop} {L a b c d e f : Addr} {h : Heap} {oa ob oc od oe of o : Obj} {r : List (Addr × Obj)} (_N : News h₀ L h ((a, oa) :: (b, ob) :: (c, oc) :: (d, od) :: (e, oe) :: (f, of) :: r)) (k : ∀ o', o' = oa → P) : P := k oa rfl
theorem led3o {P : Prop} {L c : Addr} {h : Heap} {a b : Addr × Obj} {o : Obj} {r : List (Addr × Obj)} (_N : News h₀ L h (a :: b :: (c, o) :: r)) (k : ∀ o', o' = o → P) : P := k o rfl
theorem frL {P : Prop} {L : Addr} {h : Heap} {m : Str → Option Value} (_F : Fr h₀ L h m) (k : ∀ L', L' = L → P) : P := k L rfl
theorem led2 {P : Prop} {L I l : Addr} {h : Heap} {a b : Obj} {r : List (Addr × Obj)} (_N : News h₀ L h ((I, a) :: (l, b) :: r)) (k : ∀ I' l', I' = I → l' = l → P) : P := k I l rfl rfl
theorem led1 {P : Prop} {L I : Addr} {h : Heap} {a : Obj} {r : List (Addr × Obj)} (_N : News h₀ L h ((I, a) :: r)) (k : ∀ I', I' = I → P) : P := k I rfl
end
end Mine
end
section
namespace Mine
theorem bits_pos {y : Int} (hy : 0 < y) : 0 < ((Builtin.Int.intBits y : Nat) : Int) := by
  unfold Builtin.Int.intBits
  rw [if_neg (by simp; omega)]
  omega
theorem bits_le {y : Int} (hy : 0 < y) (hy1 : y < 1000) : ((Builtin.Int.intBits y : Nat) : Int) ≤ 10 := by
  unfold Builtin.Int.intBits
  rw [if_neg (by simp; omega)]
  have h0 : y.natAbs ≠ 0 := by omega
  have : y.natAbs.log2 < 10 := (Nat.log2_lt h0).mpr (by have : (2 : Nat) ^ 10 = 1024 := by decide
                                                        omega)
  omega
theorem lt_bits {y : Int} (hy : 0 < y) : y < 2 ^ (Builtin.Int.intBits y) := by
  unfold Builtin.Int.intBits
  rw [if_neg (by simp; omega)]
  have := Nat.lt_log2_self (n := y.natAbs)
  have e : ((2 ^ (y.natAbs.log2 + 1) : Nat) : Int) = 2 ^ (y.natAbs.log2 + 1) := by push_cast; rfl
  rw [← e]
  omega
theorem digs_bound (n : Nat) : ∀ (len x : Nat), ∀ d ∈ digs n len x, 0 ≤ d ∧ d < 2 ^ n
  | 0, _, _, h => nomatch h
  | len + 1, x, d, h => by
    rcases List.mem_cons.mp h with rfl | h
    · have := Nat.mod_lt x (Nat.two_pow_pos n)
      refine ⟨by omega, ?_⟩
      exact_mod_cast this
    · exact digs_bound n len _ d h
theorem undig_digs (n : Nat) : ∀ (len x : Nat), x < 2 ^ (len * n) → undig n (digs n len x) = x
  | 0, x, h => by
    have : x = 0 := by simpa using h
    subst this; rfl
  | len + 1, x, h => by
    show ((x % 2 ^ n : Nat) : Int) + 2 ^ n * undig n (digs n len (x / 2 ^ n)) = x
    rw [undig_digs n len (x / 2 ^ n) (by rw [Nat.div_lt_iff_lt_mul (Nat.two_pow_pos n), ← Nat.pow_add]; rw [Nat.add_mul, Nat.one_mul] at h; exact h)]
    have := Nat.div_add_mod x (2 ^ n)
    have e : ((2 ^ n : Nat) : Int) = 2 ^ n := by push_cast; rfl
    rw [← e, ← Int.natCast_mul]
    omega
/-- what holds between the turns of _divmod_pos's loop -/
def LI (x y : Int) (N : Nat) (rs : List Int) (rv : Int) (qn : List Int) : Prop :=
  0 ≤ rv ∧ rv < y ∧ (∀ d ∈ rs, 0 ≤ d ∧ d < 2 ^ N) ∧ (∀ d ∈ qn, 0 ≤ d) ∧ rs.length + qn.length ≤ 64 ∧
    (undig N qn.reverse * y + rv) * 2 ^ (rs.length * N) + undig N rs.reverse = x
theorem LI_init {x y : Int} (hx0 : 0 ≤ x) (hx1 : x < 1152921504606846976) (hy : 0 < y) :
    LI x y (((Builtin.Int.intBits y : Nat) : Int).toNat) (adigs x ((Builtin.Int.intBits y : Nat) : Int)).reverse 0 [] := by
  have hb := bits_pos hy
  refine ⟨Int.le_refl _, hy, fun d hd => digs_bound _ _ _ d (List.mem_reverse.mp hd), (fun _ h => nomatch h), ?_, ?_⟩
  · unfold adigs
    rw [List.length_reverse, digs_length]
    have h0 := nd_nonneg (x := x) hb
    have h1 := nd_le (x := x) hx0 (by omega) hb
    unfold ndig
    show _ + 0 ≤ 64
    omega
  · rw [List.reverse_reverse]
    unfold adigs
    rw [undig_digs _ _ _ (ndig_cover hx0 hb)]
    show (0 * y + 0) * _ + _ = x
    rw [Int.zero_mul, Int.zero_add, Int.zero_mul]
    omega
theorem LI_step {x y : Int} {N : Nat} {d rv : Int} {rs qn : List Int} (hy : 0 < y) (hy1 : y < 1000) (hN : N ≤ 10) (h : LI x y N (d :: rs) rv qn) :
    0 ≤ rv * 2 ^ N + d ∧ rv * 2 ^ N + d < 1152921504606846976 ∧ LI x y N rs ((rv * 2 ^ N + d).fmod y) (qn ++ [(rv * 2 ^ N + d).fdiv y]) := by
  obtain ⟨h1, h2, h3, h4, h5, h6⟩ := h
  have hd := h3 d (.head _)
  have p0 : (0 : Int) < 2 ^ N := Int.pow_pos (by decide)
  have p1 : (2 : Int) ^ N ≤ 1024 := by
    have := Nat.pow_le_pow_right (n := 2) (by decide) hN
    exact_mod_cast this
  have m0 : 0 ≤ rv * 2 ^ N := Int.mul_nonneg h1 (Int.le_of_lt p0)
  have m1 : rv * 2 ^ N ≤ 1000 * 1024 := Int.mul_le_mul (by omega) p1 (Int.le_of_lt p0) (by decide)
  have c0 : 0 ≤ rv * 2 ^ N + d := by omega
  refine ⟨c0, by omega, ?_⟩
  rw [Int.fmod_eq_emod_of_nonneg _ (Int.le_of_lt hy), Int.fdiv_eq_ediv_of_nonneg _ (Int.le_of_lt hy)]
  have e1 := Int.mul_ediv_add_emod (rv * 2 ^ N + d) y
  have e2 := Int.emod_nonneg (rv * 2 ^ N + d) (Int.ne_of_gt hy)
  have e3 := Int.emod_lt_of_pos (rv * 2 ^ N + d) hy
  have e4 : 0 ≤ (rv * 2 ^ N + d) / y := Int.ediv_nonneg c0 (Int.le_of_lt hy)
  refine ⟨e2, e3, fun z hz => h3 z (.tail _ hz), fun z hz => ?_, ?_, ?_⟩
  · rcases List.mem_append.mp hz with hz | hz
    · exact h4 z hz
    · rw [List.mem_singleton.mp hz]; exact e4
  · simp only [List.length_cons, List.length_append, List.length_nil] at h5 ⊢
    omega
  · rw [List.reverse_append, List.reverse_cons, List.reverse_nil, List.nil_append, List.singleton_append]
    rw [List.reverse_cons, undig_append, List.length_reverse] at h6
    have e5 : undig N [d] = d := by show d + 2 ^ N * 0 = d; omega
    have e6 : (2 : Int) ^ ((d :: rs).length * N) = 2 ^ N * 2 ^ (rs.length * N) := by
      rw [List.length_cons, Nat.add_mul, Nat.one_mul, Nat.add_comm, Int.pow_add]
    rw [e5, e6] at h6
    show ((_ + 2 ^ N * undig N qn.reverse) * y + _) * 2 ^ (rs.length * N) + _ = x
    rw [← h6]
    generalize undig N qn.reverse = Qv at *
    generalize undig N rs.reverse = W at *
    generalize (2 : Int) ^ (rs.length * N) = P at *
    generalize (2 : Int) ^ N = M at *
    generalize (rv * M + d) / y = q at *
    generalize (rv * M + d) % y = r at *
    have : (q + M * Qv) * y + r = (Qv * y + rv) * M + d := by
      have a1 : (q + M * Qv) * y = y * q + M * (Qv * y) := by rw [Int.add_mul, Int.mul_comm q y, Int.mul_assoc]
      have a2 : (Qv * y + rv) * M = M * (Qv * y) + rv * M := by rw [Int.add_mul, Int.mul_comm (Qv * y) M]
      rw [a1, a2]
      omega
    rw [this, Int.add_mul, Int.mul_assoc (Qv * y + rv) M P, Int.mul_comm d P]
    omega
theorem LI_done {x y rv : Int} {N : Nat} {qn : List Int} (hy : 0 < y) (h : LI x y N [] rv qn) : undig N qn.reverse = x.fdiv y ∧ rv = x.fmod y := by
  obtain ⟨h1, h2, _, h4, _, h6⟩ := h
  have e : undig N qn.reverse * y + rv = x := by
    have : (2 : Int) ^ (([] : List Int).length * N) = 1 := by simp
    rw [this] at h6
    have : undig N ([] : List Int).reverse = 0 := rfl
    rw [this] at h6
    omega
  rw [Int.fmod_eq_emod_of_nonneg _ (Int.le_of_lt hy), Int.fdiv_eq_ediv_of_nonneg _ (Int.le_of_lt hy), ← e]
  constructor
  · rw [Int.add_comm, Int.add_mul_ediv_right _ _ (Int.ne_of_gt hy), Int.ediv_eq_zero_of_lt h1 h2, Int.zero_add]
  · rw [Int.add_comm, Int.add_mul_emod_self_right, Int.emod_eq_of_lt h1 h2]
end Mine
end
section
local macro_rules | `(tactic| walk_at "binaryOp LShift int int") => `(tactic| (k_dflt (refine' Mine.lsh_by ?k1 ?_; (case k1 => assumption); k_whole)))
local macro_rules | `(tactic| walk_at "call ref") => `(tactic| (refine' Mine.stop_call ?_))
local macro_rules | `(tactic| walk_at "pyIter ref") => `(tactic| (refine' Mine.stop_iter ?_))
local macro_rules | `(tactic| walk_at "exec For Name Call cons nil") => `(tactic| ((rename Fr _ _ _ _ => lF9); (with_unfolding_all refine' For_invVF lF9 ?k1 ?k2 ?_; (case k1 => exact rfl); (case k2 => exact rfl); k_whole)))
local macro_rules | `(tactic| walk_at "call builtin:list.append") => `(tactic| (k_dflt (refine' Mine.app_my ?F ?N ?U ?z ?_; (case F => k_asm); (case N => k_asm); (case U => k_upd); (case z => omega); k_whole); intro h' F' N'; (try k_sweep)))
local macro_rules | `(tactic| walk_at "call builtin:list.reverse") => `(tactic| (k_dflt (refine' Mine.rev_my ?F ?N ?U ?z ?_; (case F => k_asm); (case N => k_asm); (case U => k_upd); (case z => omega); k_whole); intro h' F' N'; (try k_sweep)))
local macro_rules | `(tactic| walk_at "m_ctx") => `(tactic| (
  (case B => k_asm)
  (case F => k_asm)
  (case X => k_asm)
  (case N => k_asm)
  (case T => k_asm)
  (case kk => rfl)
  (case d => ktr_room)
  (case u => ktr_units)))
namespace Mine
theorem ints_app {a b : List Value} {c d : List Int} (h : IntsAre a c) (h' : IntsAre b d) : IntsAre (a ++ b) (c ++ d) := IntsAre.append h h'
theorem ints_reverse : ∀ {vs : List Value} {ns : List Int}, IntsAre vs ns → IntsAre vs.reverse ns.reverse
  | _, _, .nil => .nil
  | _, _, .cons i t h => by
    rw [List.reverse_cons, List.reverse_cons]
    exact ints_app (ints_reverse h) (.cons i t .nil)

def OwnT : Option (Addr × Obj × Addr × Obj) → List (Addr × Obj)
  | none => [(30, tabObj #[]), (37, tabObj #[])]
  | some (c1, oc1, c2, oc2) => [(30, tab1 c1), (37, tab2 c2), (c1, oc1), (c2, oc2)]
def StT : Option (Addr × Obj × Addr × Obj) → Prop
  | none => True
  | some (c1, oc1, c2, oc2) => CodeOk iQ1 oc1 ∧ CodeOk iQ2 oc2 ∧ @Ne Nat c1 30 ∧ @Ne Nat c1 37 ∧ @Ne Nat c2 30 ∧ @Ne Nat c2 37 ∧ @Ne Nat c1 c2
def PairT (st : Option (Addr × Obj × Addr × Obj)) (q r : Int) (v : Value) (new : List (Addr × Obj)) : Prop :=
  ∃ D t1 t2 c1 oc1 c2 oc2, v = .ref D ∧ new = (D, pairObj q r t1 t2) :: OwnT (some (c1, oc1, c2, oc2)) ∧ StT (some (c1, oc1, c2, oc2)) ∧
    (@Ne Nat D 30 ∧ @Ne Nat D 37 ∧ @Ne Nat D c1 ∧ @Ne Nat D c2) ∧ ∀ q, st = some q → (c1, oc1, c2, oc2) = q

theorem e_divmod_pos {prog : Program} {w : World} {p : Program} {loose : List Str} {mean : ExcName → Option Value} {mg mb : Str → Option Value}
  (x y : Int) (tx ty : Tok) (hx0 : 0 ≤ x) (hx1 : x < 1152921504606846976) (hy : 0 < y) (hy1 : y < 1000) (st : Option (Addr × Obj × Addr × Obj)) (hst : StT st) :
  EntryC prog w (Mine.hd.heap_39 w.params) p loose mean mg mb 49 (OwnT st) [.int x tx, .int y ty] 160 1500 (PairT st (x.fdiv y) (x.fmod y)) := by
  walk_at "m_fillK"
  intro dp un gd envs base g s R B kp sz X T hown hd hu hret
  have hn0 : 0 < ((Builtin.Int.intBits y : Nat) : Int) := bits_pos hy
  have hn10 : ((Builtin.Int.intBits y : Nat) : Int) ≤ 10 := bits_le hy hy1
  have hn1 : ((Builtin.Int.intBits y : Nat) : Int) < 100 := by omega
  rcases st with _ | ⟨c1, oc1, c2, oc2⟩
  · have hown : ∀ q ∈ [((30 : Addr), tabObj #[]), (37, tabObj #[])], s.heap.get? q.1 = some q.2 ∧ g.get? q.1 = none := hown
    walk_at "m_entP"
    k_steps
    refine ⟨?_⟩
    refine' use_entry (rest := [((37 : Addr), tabObj #[])]) (e_int2digits x _ tx _ hx0 hx1 hn0 hn1 none True.intro) ?B ?F ?X ?N ?T ?kk ?sub ?rest ?dis ?d ?u ?_
    walk_at "m_ctx"
    (case sub => dsimp only [Own30]; walk_at "m_sub")
    (case rest => walk_at "m_sub")
    (case dis => dsimp only [Own30]; simp only [List.forall_mem_cons, List.not_mem_nil, false_implies, implies_true, and_true]; decide)
    rintro v h' tk' new ⟨D, vs, c, oc, rfl, rfl, hoc, hc30, hD30, hcD, hI, -⟩ F' N' hdis
    (try simp only [List.cons_append, List.nil_append] at N')
    simp only [List.forall_mem_cons, List.not_mem_nil, false_implies, implies_true, and_true] at hdis
    k_steps
    refine ⟨?_⟩
    (rename News _ _ _ _ => lN)
    refine led2 lN fun I lq eI el => ?_
    subst eI
    subst el
    (rename Fr _ _ _ _ => lF)
    refine' iter_revUnr (ax := D) (lo := listOf vs.toArray 0) (vs := vs) rfl lF lN ?off ?mem rfl rfl (revRest_of (fun rest m news => Stop (∃ (rs : List Int) (rv : Int) (tn tr : Tok) (qs : List Value) (qn : List Int) (kq : Nat), IntsAre rest rs ∧
        (∀ q ∈ [(Str.ofString "b", Value.int y ty), (Str.ofString "n", Value.int ((Builtin.Int.intBits y : Nat) : Int) tn), (Str.ofString "q_digits", Value.ref lq), (Str.ofString "r", Value.int rv tr)], m q.1 = some q.2) ∧ IntsAre qs qn ∧
        (∀ q ∈ [(lq, listOf qs.toArray kq), (D, listOf vs.toArray 0), (30, tab1 c), (c, oc), ((37 : Addr), tabObj #[])], q ∈ news) ∧ LI x y (((Builtin.Int.intBits y : Nat) : Int).toNat) rs rv qn)) ?step ?done _ _ _ ?init)
    (case init => exact ⟨⟨_, 0, _, _, [], [], 0, ints_reverse hI, List.forall_mem_cons.mpr ⟨rfl, List.forall_mem_cons.mpr ⟨rfl, List.forall_mem_cons.mpr ⟨rfl, List.forall_mem_cons.mpr ⟨rfl, List.forall_mem_nil _⟩⟩⟩⟩, .nil, fun _ h => h, LI_init hx0 hx1 hy⟩⟩)
    (case off => k_offL)
    (case mem => k_mem)
    (case step =>
      rintro v r m news ⟨⟨rs, rv, tn, tr, qs, qn, kq, hR, hm, hQ, hsub, hL⟩⟩ it h tk hc F N
      replace N := kst_newsOf N (l' := [(I, it), (lq, listOf qs.toArray kq), (D, listOf vs.toArray 0), (30, tab1 c), (c, oc), ((37 : Addr), tabObj #[])]) (fun q hq => (List.mem_cons.mp hq).elim (fun e => e ▸ List.mem_cons_self ..) fun hq => List.mem_cons_of_mem _ (hsub q hq))
      cases hR with
      | cons d td hR' => ?_
      replace F := fr_kstx hm F
      dsimp only [kstB] at F
      obtain ⟨c0, c1, hL'⟩ := LI_step hy hy1 (by omega) hL
      have h64 : (2 : Nat) ^ 64 = 18446744073709551616 := by decide
      have hl1 := hL.1
      have hl2 := hL.2.1
      have hq1 := hL.2.2.2.2.1
      have hq2 : qs.length = qn.length := hQ.length
      have hq3 : qs.length ≤ 64 := by omega
      have hsh : ShOk rv ((Builtin.Int.intBits y : Nat) : Int) := ⟨by omega, by omega, by omega⟩
      k_steps
      refine ⟨?_⟩
      refine' use_entry (rest := [(I, it), (lq, listOf qs.toArray kq), (D, listOf vs.toArray 0), (30, tab1 c), (c, oc), ((37 : Addr), tabObj #[])]) (e_div2n1n _ y _ _ ty tn c0 c1 hy (by omega) (by omega)) ?B ?F ?X ?N ?T ?kk ?sub ?rest ?dis ?d ?u ?_
      walk_at "m_ctx"
      (case sub => exact List.forall_mem_nil _)
      (case rest => walk_at "m_sub")
      (case dis => exact fun _ _ _ h => nomatch h)
      rintro v h' tk' new ⟨D2, t1, t2, rfl, rfl⟩ F' N' hdis2
      (try simp only [List.cons_append, List.nil_append] at N')
      simp only [List.forall_mem_cons, List.not_mem_nil, false_implies, implies_true, and_true] at hdis2
      k_steps
      exact ⟨⟨_, _, _, _, _, _, _, hR', List.forall_mem_cons.mpr ⟨rfl, List.forall_mem_cons.mpr ⟨rfl, List.forall_mem_cons.mpr ⟨rfl, List.forall_mem_cons.mpr ⟨rfl, List.forall_mem_nil _⟩⟩⟩⟩, ints_app hQ (.cons _ _ .nil), by walk_at "m_sub", hL'⟩⟩)
    (case done =>
      rintro m news ⟨⟨rs, rv, tn, tr, qs, qn, kq, hR, hm, hQ, hsub, hL⟩⟩ h tk F N
      replace N := kst_newsOf N hsub
      cases hR
      replace F := fr_kst hm F
      dsimp only [kstB] at F
      obtain ⟨hq, hr⟩ := LI_done hy hL
      have hq1 := hL.2.2.2.2.1
      have hq2 : qs.length = qn.length := hQ.length
      have hq3 : qs.length ≤ 64 := by rw [List.length_nil] at hq1; omega
      have hnn : ∀ d ∈ qn.reverse, 0 ≤ d := fun d hd => hL.2.2.2.1 d (List.mem_reverse.mp hd)
      have hxy : x.fdiv y ≤ x := by rw [Int.fdiv_eq_ediv_of_nonneg _ (Int.le_of_lt hy)]; exact Int.ediv_le_self _ hx0
      have eD := e_digits2int (prog := prog) (w := w) (p := p) (loose := loose) (mean := mean) (mg := mg) (mb := mb) ((Builtin.Int.intBits y : Nat) : Int) tn hn0 hn1 lq qs.reverse qn.reverse kq (ints_reverse hQ) (by rw [List.length_reverse]; omega) hnn (by rw [hq]; omega) none True.intro (by omega) (fun q h => nomatch h)
      rw [hq] at eD
      subst hr
      try dsimp only
      k_steps
      refine ⟨?_⟩
      refine' use_entry (rest := [(30, tab1 c), (c, oc)]) eD ?B ?F ?X ?N ?T ?kk ?sub ?rest ?dis ?d ?u ?_
      walk_at "m_ctx"
      (case sub => dsimp only [Own37]; walk_at "m_sub")
      (case rest => walk_at "m_sub")
      (case dis => dsimp only [Own37]; simp only [List.forall_mem_cons, List.not_mem_nil, false_implies, implies_true, and_true]; omega)
      rintro v h' tk' new ⟨d2, od2, ⟨t, rfl⟩, rfl, hod2, hd37, -⟩ F' N' hdis3
      (try simp only [List.cons_append, List.nil_append] at N')
      simp only [List.forall_mem_cons, List.not_mem_nil, false_implies, implies_true, and_true] at hdis3
      k_steps
      try dsimp only
      refine entry_end (new := (_, pairObj _ _ _ _) :: OwnT (some (c, oc, d2, od2))) hret (by assumption) (by assumption) (by dsimp only [OwnT]; walk_at "m_sub") ⟨_, _, _, c, oc, d2, od2, rfl, rfl, ⟨hoc, hod2, ?_⟩, ?_, ?_⟩
      · omega
      · omega
      · exact fun q h => nomatch h)
  · have hown : ∀ q ∈ [((30 : Addr), tab1 c1), (37, tab2 c2), (c1, oc1), (c2, oc2)], s.heap.get? q.1 = some q.2 ∧ g.get? q.1 = none := hown
    obtain ⟨k1, k2, k3, k4, k5, k6, k7⟩ := hst
    walk_at "m_entP"
    k_steps
    refine ⟨?_⟩
    refine' use_entry (rest := [((37 : Addr), tab2 c2), (c2, oc2)]) (e_int2digits x _ tx _ hx0 hx1 hn0 hn1 (some (c1, oc1)) ⟨k1, k3⟩) ?B ?F ?X ?N ?T ?kk ?sub ?rest ?dis ?d ?u ?_
    walk_at "m_ctx"
    (case sub => dsimp only [Own30]; walk_at "m_sub")
    (case rest => walk_at "m_sub")
    (case dis => dsimp only [Own30]; simp only [List.forall_mem_cons, List.not_mem_nil, false_implies, implies_true, and_true]; omega)
    rintro v h' tk' new ⟨D, vs, c, oc, rfl, rfl, hoc, hc30, hD30, hcD, hI, hs1⟩ F' N' hdis
    (try simp only [List.cons_append, List.nil_append] at N')
    simp only [List.forall_mem_cons, List.not_mem_nil, false_implies, implies_true, and_true] at hdis
    k_steps
    refine ⟨?_⟩
    (rename News _ _ _ _ => lN)
    refine led2 lN fun I lq eI el => ?_
    subst eI
    subst el
    (rename Fr _ _ _ _ => lF)
    refine' iter_revUnr (ax := D) (lo := listOf vs.toArray 0) (vs := vs) rfl lF lN ?off ?mem rfl rfl (revRest_of (fun rest m news => Stop (∃ (rs : List Int) (rv : Int) (tn tr : Tok) (qs : List Value) (qn : List Int) (kq : Nat), IntsAre rest rs ∧
        (∀ q ∈ [(Str.ofString "b", Value.int y ty), (Str.ofString "n", Value.int ((Builtin.Int.intBits y : Nat) : Int) tn), (Str.ofString "q_digits", Value.ref lq), (Str.ofString "r", Value.int rv tr)], m q.1 = some q.2) ∧ IntsAre qs qn ∧
        (∀ q ∈ [(lq, listOf qs.toArray kq), (D, listOf vs.toArray 0), (30, tab1 c), (c, oc), ((37 : Addr), tab2 c2), (c2, oc2)], q ∈ news) ∧ LI x y (((Builtin.Int.intBits y : Nat) : Int).toNat) rs rv qn)) ?step ?done _ _ _ ?init)
    (case init => exact ⟨⟨_, 0, _, _, [], [], 0, ints_reverse hI, List.forall_mem_cons.mpr ⟨rfl, List.forall_mem_cons.mpr ⟨rfl, List.forall_mem_cons.mpr ⟨rfl, List.forall_mem_cons.mpr ⟨rfl, List.forall_mem_nil _⟩⟩⟩⟩, .nil, fun _ h => h, LI_init hx0 hx1 hy⟩⟩)
    (case off => k_offL)
    (case mem => k_mem)
    (case step =>
      rintro v r m news ⟨⟨rs, rv, tn, tr, qs, qn, kq, hR, hm, hQ, hsub, hL⟩⟩ it h tk hc F N
      replace N := kst_newsOf N (l' := [(I, it), (lq, listOf qs.toArray kq), (D, listOf vs.toArray 0), (30, tab1 c), (c, oc), ((37 : Addr), tab2 c2), (c2, oc2)]) (fun q hq => (List.mem_cons.mp hq).elim (fun e => e ▸ List.mem_cons_self ..) fun hq => List.mem_cons_of_mem _ (hsub q hq))
      cases hR with
      | cons d td hR' => ?_
      replace F := fr_kstx hm F
      dsimp only [kstB] at F
      obtain ⟨c0, c1, hL'⟩ := LI_step hy hy1 (by omega) hL
      have h64 : (2 : Nat) ^ 64 = 18446744073709551616 := by decide
      have hl1 := hL.1
      have hl2 := hL.2.1
      have hq1 := hL.2.2.2.2.1
      have hq2 : qs.length = qn.length := hQ.length
      have hq3 : qs.length ≤ 64 := by omega
      have hsh : ShOk rv ((Builtin.Int.intBits y : Nat) : Int) := ⟨by omega, by omega, by omega⟩
      k_steps
      refine ⟨?_⟩
      refine' use_entry (rest := [(I, it), (lq, listOf qs.toArray kq), (D, listOf vs.toArray 0), (30, tab1 c), (c, oc), ((37 : Addr), tab2 c2), (c2, oc2)]) (e_div2n1n _ y _ _ ty tn c0 c1 hy (by omega) (by omega)) ?B ?F ?X ?N ?T ?kk ?sub ?rest ?dis ?d ?u ?_
      walk_at "m_ctx"
      (case sub => exact List.forall_mem_nil _)
      (case rest => walk_at "m_sub")
      (case dis => exact fun _ _ _ h => nomatch h)
      rintro v h' tk' new ⟨D2, t1, t2, rfl, rfl⟩ F' N' hdis2
      (try simp only [List.cons_append, List.nil_append] at N')
      simp only [List.forall_mem_cons, List.not_mem_nil, false_implies, implies_true, and_true] at hdis2
      k_steps
      exact ⟨⟨_, _, _, _, _, _, _, hR', List.forall_mem_cons.mpr ⟨rfl, List.forall_mem_cons.mpr ⟨rfl, List.forall_mem_cons.mpr ⟨rfl, List.forall_mem_cons.mpr ⟨rfl, List.forall_mem_nil _⟩⟩⟩⟩, ints_app hQ (.cons _ _ .nil), by walk_at "m_sub", hL'⟩⟩)
    (case done =>
      rintro m news ⟨⟨rs, rv, tn, tr, qs, qn, kq, hR, hm, hQ, hsub, hL⟩⟩ h tk F N
      replace N := kst_newsOf N hsub
      cases hR
      replace F := fr_kst hm F
      dsimp only [kstB] at F
      obtain ⟨hq, hr⟩ := LI_done hy hL
      have hq1 := hL.2.2.2.2.1
      have hq2 : qs.length = qn.length := hQ.length
      have hq3 : qs.length ≤ 64 := by rw [List.length_nil] at hq1; omega
      have hnn : ∀ d ∈ qn.reverse, 0 ≤ d := fun d hd => hL.2.2.2.1 d (List.mem_reverse.mp hd)
      have hxy : x.fdiv y ≤ x := by rw [Int.fdiv_eq_ediv_of_nonneg _ (Int.le_of_lt hy)]; exact Int.ediv_le_self _ hx0
      have eD := e_digits2int (prog := prog) (w := w) (p := p) (loose := loose) (mean := mean) (mg := mg) (mb := mb) ((Builtin.Int.intBits y : Nat) : Int) tn hn0 hn1 lq qs.reverse qn.reverse kq (ints_reverse hQ) (by rw [List.length_reverse]; omega) hnn (by rw [hq]; omega) (some (c2, oc2)) ⟨k2, k6⟩ (by omega) (fun q h => by cases h; show @Ne Nat lq c2; omega)
      rw [hq] at eD
      subst hr
      try dsimp only
      k_steps
      refine ⟨?_⟩
      refine' use_entry (rest := [(30, tab1 c), (c, oc)]) eD ?B ?F ?X ?N ?T ?kk ?sub ?rest ?dis ?d ?u ?_
      walk_at "m_ctx"
      (case sub => dsimp only [Own37]; walk_at "m_sub")
      (case rest => walk_at "m_sub")
      (case dis => dsimp only [Own37]; simp only [List.forall_mem_cons, List.not_mem_nil, false_implies, implies_true, and_true]; omega)
      rintro v h' tk' new ⟨d2, od2, ⟨t, rfl⟩, rfl, hod2, hd37, hs2⟩ F' N' hdis3
      (try simp only [List.cons_append, List.nil_append] at N')
      simp only [List.forall_mem_cons, List.not_mem_nil, false_implies, implies_true, and_true] at hdis3
      k_steps
      try dsimp only
      refine entry_end (new := (_, pairObj _ _ _ _) :: OwnT (some (c, oc, d2, od2))) hret (by assumption) (by assumption) (by dsimp only [OwnT]; walk_at "m_sub") ⟨_, _, _, c, oc, d2, od2, rfl, rfl, ⟨hoc, hod2, ?_⟩, ?_, ?_⟩
      · omega
      · omega
      · exact fun q h => by cases h; cases hs1 _ rfl; cases hs2 _ rfl; rfl)
end Mine
end
section
local macro_rules | `(tactic| walk_at "call ref") => `(tactic| (refine' Mine.stop_call ?_))
local macro_rules | `(tactic| walk_at "m_ctx") => `(tactic| (
  (case B => k_asm)
  (case F => k_asm)
  (case X => k_asm)
  (case N => k_asm)
  (case T => k_asm)
  (case kk => rfl)
  (case d => ktr_room)
  (case u => ktr_units)))
namespace Mine
theorem e_int_divmod {prog : Program} {w : World} {p : Program} {loose : List Str} {mean : ExcName → Option Value} {mg mb : Str → Option Value}
  (x y : Int) (tx ty : Tok) (hx0 : 0 ≤ x) (hx1 : x < 1152921504606846976) (hy : 0 < y) (hy1 : y < 1000) (st : Option (Addr × Obj × Addr × Obj)) (hst : StT st) :
  EntryC prog w (Mine.hd.heap_39 w.params) p loose mean mg mb 56 (OwnT st) [.int x tx, .int y ty] 170 1600 (PairT st (x.fdiv y) (x.fmod y)) := by
  walk_at "m_fillK"
  intro dp un gd envs base g s R B kp sz X T hown hd hu hret
  have h1 : ¬ (y = 0) := by omega
  have h2 : ¬ (y < 0) := by omega
  have h3 : ¬ (x < 0) := by omega
  refine' Mine.entryK ?kp ?sz ?X ?T ?own ?ho ?hcd ?room ?bind ?loc ?_ ?cell ?co ?gen ?kk
  (case kp => k_asm)
  (case sz => k_asm)
  (case X => k_asm)
  (case T => k_asm)
  (case own => k_asm)
  (case ho => k_is)
  (case hcd => k_is)
  (case room => ktr_room)
  (case bind => exact BindsTo.of_eq rfl)
  (case loc => exact locs rfl)
  (case cell => decide)
  (case co => exact rfl)
  (case gen => exact rfl)
  (case kk => exact rfl)
  k_whole
  intro L' h' F' N' lt'
  (try dsimp only)
  (try k_fold)
  k_steps
  · exact absurd (by assumption) h1
  · refine ⟨?_⟩
    refine' use_entry (rest := []) (e_divmod_pos x y tx ty hx0 hx1 hy hy1 st hst) ?B ?F ?X ?N ?T ?kk (fun _ h => h) (fun _ h => nomatch h) (fun _ h => nomatch h) ?d ?u ?_
    walk_at "m_ctx"
    intro v h' tk' new hp F' N' _
    k_steps
    rw [List.append_nil] at N'
    exact entry_end hret F' N' (fun _ h => h) hp
end Mine
end
section
local macro_rules | `(tactic| walk_at "call ref") => `(tactic| (refine' Mine.stop_call ?_))
local macro_rules | `(tactic| walk_at "exec While Compare cons nil") => `(tactic| (refine' Mine.stop_while ?_))
local macro_rules | `(tactic| walk_at "m_entD") => `(tactic| (
  refine' Mine.entryK ?kp ?sz ?X ?T ?own ?ho ?hcd ?room ?bind ?loc ?_ ?cell ?co ?gen ?kk
  (case kp => k_asm)
  (case sz => k_asm)
  (case X => k_asm)
  (case T => k_asm)
  (case own => k_asm)
  (case ho => k_is)
  (case hcd => k_is)
  (case room => ktr_room)
  (case bind => (refine' kp_binds ?kx ?ke; (case kx => exact Frag.In.keeps (by k_asm) (by k_asm)); (case ke => exact fun _ => rfl)))
  (case loc => exact locs rfl)
  (case cell => decide)
  (case co => exact rfl)
  (case gen => exact rfl)
  (case kk => exact rfl)
  k_whole
  intro L' h' F' N' lt'
  (try k_lt lt')
  (try dsimp only)
  (try k_fold)))
namespace Mine
theorem mid_facts {lo hi : Int} (h : lo < hi) : lo ≤ (lo + hi).fdiv 2 ∧ (lo + hi).fdiv 2 < hi := by
  rw [Int.fdiv_eq_ediv_of_nonneg _ (by decide)]
  omega
theorem e_bisect_right {prog : Program} {w : World} {p : Program} {loose : List Str} {mean : ExcName → Option Value} {mg mb : Str → Option Value}
  (l : Addr) (vs : List Value) (ns : List Int) (kk : Nat) (x : Int) (tx : Tok) (r : Nat) (hI : IntsAre vs ns) (hl : ns.length ≤ 100) (hr : r ≤ ns.length) (hx : ∀ i : Nat, i < ns.length → (x < ns.getD i 0 ↔ r ≤ i)) :
  EntryC prog w (Mine.hd.heap_39 w.params) p loose mean mg mb 65 [(l, listOf vs.toArray kk)] [.ref l, .int x tx] 10 100
    (fun v new => (∃ t, v = .int (r : Int) t) ∧ new = [(l, listOf vs.toArray kk)]) := by
  walk_at "m_fillK"
  intro dp un gd envs base g s R B kp sz X T hown hd hu hret
  walk_at "m_entD"
  k_steps
  refine ⟨?_⟩
  (rename Fr _ _ _ _ => lF)
  (rename News _ _ _ _ => lN)
  refine' While_inv2 (fun n m news => Stop (∃ (lo hi : Int) (tl th : Tok),
      (∀ q ∈ [(Str.ofString "a", Value.ref l), (Str.ofString "x", Value.int x tx), (Str.ofString "lo", Value.int lo tl), (Str.ofString "hi", Value.int hi th)], m q.1 = some q.2) ∧
      (∀ q ∈ [(l, listOf vs.toArray kk)], q ∈ news) ∧ 0 ≤ lo ∧ lo ≤ r ∧ r ≤ hi ∧ hi ≤ ns.length ∧ n = (hi - lo).toNat)) lF lN ?init ?turn
  (case init => exact ⟨⟨0, ns.length, _, _, by walk_at "m_facts", fun _ h => h, by omega, by omega, by omega, by omega, rfl⟩⟩)
  (case turn =>
    rintro n m₁ news₁ h₁ tk₁ F N ⟨⟨lo, hi, tl, th, hm, hsub, h0, h1, h2, h3, h4⟩⟩
    replace N := kst_newsOf N hsub
    replace F := fr_kst hm F
    dsimp only [kstB] at F
    by_cases hlt : lo < hi
    · obtain ⟨m1, m2⟩ := mid_facts hlt
      have hM := hx ((lo + hi).fdiv 2).toNat (by omega)
      have m3 : 0 ≤ (lo + hi).fdiv 2 := by omega
      have m4 : (lo + hi).fdiv 2 < ns.length := by omega
      k_steps
      · refine ws2_intro (by assumption) (by assumption) ?_ ⟨⟨_, _, _, _, by walk_at "m_facts", by walk_at "m_sub", ?_, ?_, ?_, ?_, rfl⟩⟩ <;> omega
      · refine ws2_intro (by assumption) (by assumption) ?_ ⟨⟨_, _, _, _, by walk_at "m_facts", by walk_at "m_sub", ?_, ?_, ?_, ?_, rfl⟩⟩ <;> omega
    · k_steps
      dsimp only
      exact entry_end hret (by assumption) (by assumption) (fun _ h => h) (int_post (by omega) rfl))
theorem e_bisect_left {prog : Program} {w : World} {p : Program} {loose : List Str} {mean : ExcName → Option Value} {mg mb : Str → Option Value}
  (l : Addr) (vs : List Value) (ns : List Int) (kk : Nat) (x : Int) (tx t0 : Tok) (r : Nat) (hI : IntsAre vs ns) (hl : ns.length ≤ 100) (hr : r ≤ ns.length) (hx : ∀ i : Nat, i < ns.length → (ns.getD i 0 < x ↔ i < r)) :
  EntryC prog w (Mine.hd.heap_39 w.params) p loose mean mg mb 83 [(l, listOf vs.toArray kk)] [.ref l, .int x tx, .int 0 t0, .none] 10 100
    (fun v new => (∃ t, v = .int (r : Int) t) ∧ new = [(l, listOf vs.toArray kk)]) := by
  walk_at "m_fillK"
  intro dp un gd envs base g s R B kp sz X T hown hd hu hret
  walk_at "m_entD"
  k_steps
  refine ⟨?_⟩
  (rename Fr _ _ _ _ => lF)
  (rename News _ _ _ _ => lN)
  refine' While_inv2 (fun n m news => Stop (∃ (lo hi : Int) (tl th : Tok),
      (∀ q ∈ [(Str.ofString "a", Value.ref l), (Str.ofString "x", Value.int x tx), (Str.ofString "lo", Value.int lo tl), (Str.ofString "hi", Value.int hi th)], m q.1 = some q.2) ∧
      (∀ q ∈ [(l, listOf vs.toArray kk)], q ∈ news) ∧ 0 ≤ lo ∧ lo ≤ r ∧ r ≤ hi ∧ hi ≤ ns.length ∧ n = (hi - lo).toNat)) lF lN ?init ?turn
  (case init => exact ⟨⟨0, ns.length, _, _, by walk_at "m_facts", fun _ h => h, by omega, by omega, by omega, by omega, rfl⟩⟩)
  (case turn =>
    rintro n m₁ news₁ h₁ tk₁ F N ⟨⟨lo, hi, tl, th, hm, hsub, h0, h1, h2, h3, h4⟩⟩
    replace N := kst_newsOf N hsub
    replace F := fr_kst hm F
    dsimp only [kstB] at F
    by_cases hlt : lo < hi
    · obtain ⟨m1, m2⟩ := mid_facts hlt
      have hM := hx ((lo + hi).fdiv 2).toNat (by omega)
      have m3 : 0 ≤ (lo + hi).fdiv 2 := by omega
      have m4 : (lo + hi).fdiv 2 < ns.length := by omega
      k_steps
      · refine ws2_intro (by assumption) (by assumption) ?_ ⟨⟨_, _, _, _, by walk_at "m_facts", by walk_at "m_sub", ?_, ?_, ?_, ?_, rfl⟩⟩ <;> omega
      · refine ws2_intro (by assumption) (by assumption) ?_ ⟨⟨_, _, _, _, by walk_at "m_facts", by walk_at "m_sub", ?_, ?_, ?_, ?_, rfl⟩⟩ <;> omega
    · k_steps
      dsimp only
      exact entry_end hret (by assumption) (by assumption) (fun _ h => h) (int_post (by omega) rfl))
end Mine
end
section
local macro_rules | `(tactic| walk_at "call ref") => `(tactic| (refine' Mine.stop_call ?_))
local macro_rules | `(tactic| walk_at "m_ctx") => `(tactic| (
  (case B => k_asm)
  (case F => k_asm)
  (case X => k_asm)
  (case N => k_asm)
  (case T => k_asm)
  (case kk => rfl)
  (case d => ktr_room)
  (case u => ktr_units)))
local macro_rules | `(tactic| walk_at "m_entD") => `(tactic| (
  refine' Mine.entryK ?kp ?sz ?X ?T ?own ?ho ?hcd ?room ?bind ?loc ?_ ?cell ?co ?gen ?kk
  (case kp => k_asm)
  (case sz => k_asm)
  (case X => k_asm)
  (case T => k_asm)
  (case own => k_asm)
  (case ho => k_is)
  (case hcd => k_is)
  (case room => ktr_room)
  (case bind => (refine' kp_binds ?kx ?ke; (case kx => exact Frag.In.keeps (by k_asm) (by k_asm)); (case ke => exact fun _ => rfl)))
  (case loc => exact locs rfl)
  (case cell => decide)
  (case co => exact rfl)
  (case gen => exact rfl)
  (case kk => exact rfl)
  k_whole
  intro L' h' F' N' lt'
  (try k_lt lt')
  (try dsimp only)
  (try k_fold)))
namespace Mine
theorem ins_my {prog : Program} {w : World} {A : Around} {E : Value → Shared → Prop} {s : Shared} {h₀ : Heap} {L D : Addr} {m : Str → Option Value} {news news' : List (Addr × Obj)} {qs : List Value} {n k : Nat} {u : Tok} {v : Value} {Q : Value → Shared → Prop} (F : Fr h₀ L s.heap m) (N : News h₀ L s.heap news)
    (hk : k = qs.length) (U : Upd D (listOf qs.toArray n) (listOf (qs ++ [v]).toArray (n + 1)) news news') (hz : qs.length ≤ 1000)
    (h : ∀ h', Fr h₀ L h' m → News h₀ L h' news' → Q .none { s with heap := h' }) : wpAny (model prog w) A (call (.builtin "list.insert") [.ref D, .int (k : Int) u, v]) Q E s := by
  subst hk
  refine kl_insert F N (by unfold Builtin.List.listFitsIndex; simp; omega) ?_ U (by rw [sizeLine_eq]; simp; omega) h
  rw [List.toList_toArray]
  unfold kl_ins
  rw [if_neg (show ¬ ((qs.length : Int) < 0) by omega)]
  simp
theorem e_insort {prog : Program} {w : World} {p : Program} {loose : List Str} {mean : ExcName → Option Value} {mg mb : Str → Option Value}
  (l : Addr) (vs : List Value) (ns : List Int) (kk : Nat) (x : Int) (tx : Tok) (hI : IntsAre vs ns) (hl : ns.length ≤ 100) (hx : ∀ d ∈ ns, d < x) :
  EntryC prog w (Mine.hd.heap_39 w.params) p loose mean mg mb 74 [(l, listOf vs.toArray kk)] [.ref l, .int x tx] 20 200
    (fun v new => v = .none ∧ ∃ kk', new = [(l, listOf (vs ++ [Value.int x tx]).toArray kk')]) := by
  walk_at "m_fillK"
  intro dp un gd envs base g s R B kp sz X T hown hd hu hret
  have hx2 : ∀ i : Nat, i < ns.length → (ns.getD i 0 < x ↔ i < ns.length) := fun i hi => by
    have : ns.getD i 0 < x := hx _ (by rw [List.getD_eq_getElem?_getD, List.getElem?_eq_getElem hi]; exact List.getElem_mem hi)
    exact ⟨fun _ => hi, fun _ => this⟩
  have hle : ns.length = vs.length := hI.length.symm
  walk_at "m_entD"
  k_steps
  refine ⟨?_⟩
  refine' use_entry (rest := []) (e_bisect_left l vs ns kk x tx _ ns.length hI hl (Nat.le_refl _) hx2) ?B ?F ?X ?N ?T ?kk (fun _ h => h) (fun _ h => nomatch h) (fun _ h => nomatch h) ?d ?u ?_
  walk_at "m_ctx"
  rintro v h' tk' new ⟨⟨t, rfl⟩, rfl⟩ F' N' _
  rw [List.append_nil] at N'
  k_steps
  refine' Mine.ins_my ?F ?N ?l ?U ?z ?_
  (case F => k_asm)
  (case N => k_asm)
  (case U => k_upd)
  (case l => assumption)
  (case z => omega)
  intro h' F' N'
  k_steps
  refine entry_end (new := [(l, listOf (vs ++ [Value.int x tx]).toArray _)]) hret (by assumption) (by assumption) (by walk_at "m_sub") ⟨rfl, _, rfl⟩
end Mine
end
section
local macro_rules | `(tactic| walk_at "call ref") => `(tactic| (refine' Mine.stop_call ?_))
local macro_rules | `(tactic| walk_at "pyIter ref") => `(tactic| (refine' Mine.stop_iter ?_))
local macro_rules | `(tactic| walk_at "exec For Name Call cons nil") => `(tactic| ((rename Fr _ _ _ _ => lF9); (with_unfolding_all refine' For_invTF lF9 ?_ ?k1; (case k1 => (intro _; rfl)); k_whole)))
local macro_rules | `(tactic| walk_at "eval ListComp") => `(tactic| (k_dflt (refine Mine.comp_stop (F₀ := by k_asm) (by with_unfolding_all rfl) (by decide) (by rfl) (by decide) (by rfl) ?_)))
local macro_rules | `(tactic| walk_at "CompEnd") => `(tactic| (refine' Mine.stop_any ?_))
local macro_rules | `(tactic| walk_at "m_ctx") => `(tactic| (
  (case B => k_asm)
  (case F => k_asm)
  (case X => k_asm)
  (case N => k_asm)
  (case T => k_asm)
  (case kk => rfl)
  (case d => ktr_room)
  (case u => ktr_units)))
namespace Mine
def P10 : List Int := [2, 3, 5, 7, 11, 13, 17, 19, 23, 29]
def pB (k : Nat) : List Int := P10.filter fun d => decide (d < (k : Int))
theorem own4 (st : Option (Addr × Obj × Addr × Obj)) : ∃ o1 o2 c1 oc1 c2 oc2, (∀ q ∈ OwnT st, q ∈ [((30 : Addr), o1), (37, o2), (c1, oc1), (c2, oc2)]) ∧ (∀ q ∈ [((30 : Addr), o1), (37, o2), (c1, oc1), (c2, oc2)], q ∈ OwnT st) := by
  rcases st with _ | ⟨c1, oc1, c2, oc2⟩
  · exact ⟨_, _, 30, _, 37, _, by dsimp only [OwnT]; walk_at "m_sub", by dsimp only [OwnT]; walk_at "m_sub"⟩
  · exact ⟨_, _, c1, oc1, c2, oc2, by dsimp only [OwnT]; walk_at "m_sub", by dsimp only [OwnT]; walk_at "m_sub"⟩
theorem ints_at {vs : List Value} {ns : List Int} (h : IntsAre vs ns) {i : Nat} {v : Value} (hv : vs[i]? = some v) : ∃ d t, v = .int d t ∧ ns[i]? = some d := by
  have hl := h.length
  have hi : i < vs.length := by
    rcases Nat.lt_or_ge i vs.length with q | q
    · exact q
    · rw [List.getElem?_eq_none q] at hv; cases hv
  have hi' : i < ns.length := by omega
  have hn : ns[i]? = some ns[i] := List.getElem?_eq_getElem hi'
  obtain ⟨t, ht⟩ := h.get i ns[i] hn
  rw [hv] at ht
  exact ⟨ns[i], t, Option.some.inj ht, hn⟩
theorem pB_pos {k : Nat} {d : Int} (h : d ∈ pB k) : 2 ≤ d ∧ d ≤ 29 ∧ d < k := by
  unfold pB at h
  obtain ⟨h1, h2⟩ := List.mem_filter.mp h
  have h3 : ∀ d ∈ P10, 2 ≤ d ∧ d ≤ 29 := by decide
  exact ⟨(h3 d h1).1, (h3 d h1).2, by simpa using h2⟩
theorem pB_item {vs : List Value} {k i : Nat} (h : IntsAre vs (pB k)) {v : Value} (hv : vs.toArray[i]? = some v) : ∃ d t, v = .int d t ∧ 2 ≤ d ∧ d ≤ 29 ∧ (pB k)[i]? = some d := by
  obtain ⟨d, t, e, hd⟩ := ints_at h (by simpa using hv)
  have := pB_pos (List.mem_of_getElem? hd)
  exact ⟨d, t, e, this.1, this.2.1, hd⟩
theorem take_snoc {l : List Int} {j : Nat} {d : Int} (h : l[j]? = some d) : l.take (j + 1) = l.take j ++ [d] := by rw [List.take_add_one, h]; rfl
theorem pB_len (k : Nat) : (pB k).length ≤ 10 := List.length_filter_le ..
theorem pB_step : ∀ i : Nat, i < 29 → ((pB (i + 2)).filter (fun d => decide (((2 : Int) + (i : Int)).fmod d = 0)) = [] → pB (i + 3) = pB (i + 2) ++ [2 + (i : Int)]) ∧
    (¬ (pB (i + 2)).filter (fun d => decide (((2 : Int) + (i : Int)).fmod d = 0)) = [] → pB (i + 3) = pB (i + 2)) := by decide +kernel
theorem pB_ne : ∀ i : Nat, i < 29 → 1 ≤ i → 1 ≤ (pB (i + 2)).length := by decide +kernel
def PrimesPost (v : Value) (new : List (Addr × Obj)) : Prop := ∃ l vs kf c1 oc1 c2 oc2, v = .ref l ∧ new = (l, listOf (vs : List Value).toArray kf) :: OwnT (some (c1, oc1, c2, oc2)) ∧ IntsAre vs P10 ∧ StT (some (c1, oc1, c2, oc2)) ∧ ∀ q ∈ OwnT (some (c1, oc1, c2, oc2)), @Ne Nat q.1 l
set_option maxHeartbeats 8000000 in
theorem e_primes {prog : Program} {w : World} {p : Program} {loose : List Str} {mean : ExcName → Option Value} {mg mb : Str → Option Value}
  (t30 : Tok) :
  EntryC prog w (Mine.hd.heap_39 w.params) p loose mean mg mb 88 (OwnT none) [.int 30 t30] 300 3000 PrimesPost := by
  walk_at "m_fillK"
  intro dp un gd envs base g s R B kp sz X T hown hd hu hret
  have hown : ∀ q ∈ [((30 : Addr), tabObj #[]), (37, tabObj #[])], s.heap.get? q.1 = some q.2 ∧ g.get? q.1 = none := hown
  walk_at "m_entC"
  (rename Fr _ _ _ _ => lF0)
  refine frL lF0 fun Lf eL => ?_
  subst eL
  k_steps
  refine ⟨?_⟩
  (rename News _ _ _ _ => lN)
  refine led1 lN fun lf eI => ?_
  subst eI
  (rename Fr _ _ _ _ => lF)
  refine' iter_rangeT (n := 29) (fun i m news => Stop (∃ (vs : List Value) (kf : Nat) (on : Obj) (ov : Option Value) (st : Option (Addr × Obj × Addr × Obj)),
      (∀ q ∈ [(Str.ofString "found", Value.ref lf)], m q.1 = some q.2) ∧ (∀ q ∈ (lf, listOf vs.toArray kf) :: (Lf + 1, on) :: OwnT st, q ∈ news) ∧ on.data = .cell ov ∧ StT st ∧ (∀ q ∈ OwnT st, @Ne Nat q.1 lf ∧ @Ne Nat q.1 (Lf + 1)) ∧ IntsAre vs (pB (i + 2)) ∧ (2 ≤ i → st.isSome = true))) rfl ?hr ?hs ?hn lF lN ?hgo ?h0 ?turn ?done
  (case hr => assumption)
  (case hs => decide)
  (case hn => rfl)
  (case hgo => intro _ _; rfl)
  (case h0 => exact ⟨⟨[], 0, _, _, none, by walk_at "m_facts", fun _ h => h, by assumption, True.intro, by dsimp only [OwnT]; simp only [List.forall_mem_cons, List.not_mem_nil, false_implies, implies_true, and_true]; omega, .nil, fun h => by omega⟩⟩)
  (case turn =>
    rintro i m₁ news₁ I it ⟨hp, gn, dr, tk, os⟩ t hi ⟨⟨vs, kf, on, ov, st, hm, hsub, hon, hst, hap, hI, hsm⟩⟩ hof F N
    obtain ⟨st0, hst0⟩ : ∃ st0, st0 = st := ⟨st, rfl⟩
    obtain ⟨o1, o2, c1, oc1, c2, oc2, h4, h4'⟩ := own4 st
    have hap4 := fun q hq => hap q (h4' q hq)
    have hof4 := fun q hq => hof q (hsub q hq)
    have hof5 := fun q hq => hof q (hsub q (List.mem_cons_of_mem _ (List.mem_cons_of_mem _ (h4' q hq))))
    simp only [List.forall_mem_cons, List.not_mem_nil, false_implies, implies_true, and_true] at hap4 hof4 hof5
    replace N := kst_newsOf N (sub1 (subT (sub2 h4') hsub))
    replace F := fr_kst hm F
    dsimp only [kstB] at F
    dsimp only at F N
    k_steps
    (rename News _ _ _ _ => lN2)
    refine led3o lN2 fun on2 eo => ?_
    subst eo
    (rename Fr _ _ _ _ => lF2)
    have hd2 : on2.data = .cell (some (.int (2 + (i : Int)) t)) := by assumption
    refine ⟨?_⟩
    refine LCt.CompSrcT.ledger rfl lF2 lN2 (ax := lf) (its := vs.toArray) (k := kf) (by k_mem) ?szC fun gg => ?restC
    (case restC =>
      refine compRestT_of (fun j ys news => Stop (∃ (st : Option (Addr × Obj × Addr × Obj)),
        (∀ q ∈ (I, it) :: (lf, listOf vs.toArray kf) :: (Lf + 1, on2) :: OwnT st, q ∈ news) ∧ StT st ∧ (∀ q ∈ OwnT st, @Ne Nat q.1 lf ∧ @Ne Nat q.1 (Lf + 1) ∧ @Ne Nat q.1 I) ∧
        IntsAre ys (((pB (i + 2)).take j).filter fun d => decide (((2 : Int) + (i : Int)).fmod d = 0)) ∧ (st0.isSome = true ∨ 1 ≤ j → st.isSome = true))) ?stepC ?doneC _ 0 [] _ (Nat.zero_add _) ?initC
      (case initC => exact ⟨⟨st, fun q hq => by
        rcases List.mem_cons.mp hq with rfl | hq
        · k_mem
        rcases List.mem_cons.mp hq with rfl | hq
        · k_mem
        rcases List.mem_cons.mp hq with rfl | hq
        · k_mem
        exact List.mem_cons_of_mem _ (List.mem_cons_of_mem _ (List.mem_cons_of_mem _ (h4 q hq))), hst, fun q hq => ⟨(hap q hq).1, (hap q hq).2, hof q (hsub q (List.mem_cons_of_mem _ (List.mem_cons_of_mem _ hq)))⟩, .nil, fun h => h.elim (fun h => hst0 ▸ h) fun h => by omega⟩⟩)
      (case stepC =>
        rintro j ys news hj ⟨⟨st2, hsub2, hst2, hap2, hI2, -⟩⟩ v Ic oI C oC D m₂ h tk E' hP hNs hm2 F N off3 hne
        obtain ⟨d, td, rfl, hd2, hd29, hjd⟩ := pB_item hI hP
        have hoff := off3_nat off3
        obtain ⟨p1, p2, b1, oc3, b2, oc4, h5, h5'⟩ := own4 st2
        replace N := kst_newsOf N (sub3 (subT (sub3 h5') hsub2))
        k_steps
        refine ⟨?_⟩
        refine' use_entry (rest := [(Ic, oI), (C, oC), (D, LCg.lst ys), (I, it), (lf, listOf vs.toArray kf), (Lf + 1, on2)]) (e_int_divmod (2 + (i : Int)) d t td (by omega) (by omega) (by omega) (by omega) st2 hst2) ?B ?F ?X ?N ?T ?kk ?sub ?rest ?dis ?d ?u ?_
        walk_at "m_ctx"
        (case sub => exact fun q hq => List.mem_append_right [(Ic, oI), (C, oC), (D, LCg.lst ys), (I, it), (lf, listOf vs.toArray kf), (Lf + 1, on2)] (h5 q hq))
        (case rest => walk_at "m_sub")
        (case dis =>
          intro q hq q' hq'
          have e1 := hap2 q' hq'
          have e2 := hoff q' (hsub2 q' (List.mem_cons_of_mem _ (List.mem_cons_of_mem _ (List.mem_cons_of_mem _ hq'))))
          obtain ⟨a1, a2, a3⟩ := e1
          obtain ⟨b1, b2, b3⟩ := e2
          revert q hq
          walk_at "m_all")
        rintro v h' tk' new ⟨D2, t1, t2, f1, of1, f2, of2, rfl, rfl, hst3, hDD, -⟩ F' N' hdis3
        have hne := ne_own hdis3
        clear hdis3
        dsimp only [OwnT] at N'
        (try simp only [List.cons_append, List.nil_append] at N')
        have hoffI := hoff _ (hsub2 _ (List.mem_cons_self ..))
        have hoffl := hoff _ (hsub2 _ (List.mem_cons_of_mem _ (List.mem_cons_self ..)))
        have hoffn := hoff _ (hsub2 _ (List.mem_cons_of_mem _ (List.mem_cons_of_mem _ (List.mem_cons_self ..))))
        have hO3 : ∀ q ∈ (I, it) :: (lf, listOf vs.toArray kf) :: (Lf + 1, on2) :: OwnT (some (f1, of1, f2, of2)), @Ne Nat q.1 Ic ∧ @Ne Nat q.1 C ∧ @Ne Nat q.1 D :=
          off3_cons hoffI hoffl hoffn fun q hq => ⟨hne q hq (Ic, oI) (by k_mem), hne q hq (C, oC) (by k_mem), hne q hq (D, LCg.lst ys) (by k_mem)⟩
        have hap3 : ∀ q ∈ OwnT (some (f1, of1, f2, of2)), @Ne Nat q.1 lf ∧ @Ne Nat q.1 (Lf + 1) ∧ @Ne Nat q.1 I := fun q hq => ⟨hne q hq (lf, listOf vs.toArray kf) (by k_mem), hne q hq (Lf + 1, on2) (by k_mem), hne q hq (I, it) (by k_mem)⟩
        clear hoffI hoffl hoffn hDD
        k_steps
        · refine ⟨LCg.CompEnd.intro (by assumption) (by assumption) ((I, it) :: (lf, listOf vs.toArray kf) :: (Lf + 1, on2) :: OwnT (some (f1, of1, f2, of2))) ?_ ?_ ?_ ?_⟩
          · dsimp only [OwnT]
            walk_at "m_sub"
          · exact off3_of_nat hO3
          · exact .inr ⟨_, List.mem_cons_of_mem _ (List.mem_cons_self ..), rfl, _, rfl⟩
          · refine ⟨⟨some (f1, of1, f2, of2), fun _ h => h, hst3, hap3, ?_, fun _ => rfl⟩⟩
            · rw [take_snoc hjd, List.filter_append]
              have : List.filter (fun d => decide (((2 : Int) + (i : Int)).fmod d = 0)) [d] = [d] := by
                rw [List.filter_cons, if_pos (decide_eq_true (by assumption))]
                rfl
              rw [this]
              exact ints_app hI2 (.cons _ _ .nil)
        · refine ⟨LCg.CompEnd.intro (by assumption) (by assumption) ((I, it) :: (lf, listOf vs.toArray kf) :: (Lf + 1, on2) :: OwnT (some (f1, of1, f2, of2))) ?_ ?_ ?_ ?_⟩
          · dsimp only [OwnT]
            walk_at "m_sub"
          · exact off3_of_nat hO3
          · exact .inr ⟨_, List.mem_cons_of_mem _ (List.mem_cons_self ..), rfl, _, rfl⟩
          · refine ⟨⟨some (f1, of1, f2, of2), fun _ h => h, hst3, hap3, ?_, fun _ => rfl⟩⟩
            · rw [take_snoc hjd, List.filter_append]
              have : List.filter (fun d => decide (((2 : Int) + (i : Int)).fmod d = 0)) [d] = [] := by
                rw [List.filter_cons, if_neg (by simpa using (by assumption : ¬ ((2 : Int) + (i : Int)).fmod d = 0))]
                rfl
              rw [this, List.append_nil]
              exact hI2)
      (case doneC =>
        rintro ys news ⟨⟨st3, hsub3, hst3, hap3, hI3, hsm3⟩⟩
        intro D h' tk' F' N' o1
        have hoff := off1_nat o1
        obtain ⟨p1, p2, b1, oc3, b2, oc4, h5, h5'⟩ := own4 st3
        replace N' := kst_newsOf N' (sub1 (subT (sub3 h5') hsub3))
        have hsz3 : vs.toArray.size = (pB (i + 2)).length := by rw [List.size_toArray]; exact hI.length
        have hsm4 : 2 ≤ i + 1 → st3.isSome = true := fun h => hsm3 (.inr (by rw [hsz3]; exact pB_ne i hi (by omega)))
        rw [hsz3, List.take_length] at hI3
        k_steps
        · refine ⟨?_⟩
          have hF : (pB (i + 2)).filter (fun d => decide (((2 : Int) + (i : Int)).fmod d = 0)) = [] := of_decide_eq_true (by assumption)
          have hps := (pB_step i hi).1 hF
          refine' use_entry (rest := (I, it) :: (Lf + 1, on2) :: OwnT st3) (e_insort lf vs (pB (i + 2)) kf (2 + (i : Int)) t hI (by have := pB_len (i + 2); omega) (fun d hd => by have := (pB_pos hd).2.2; omega)) ?B ?F ?X ?N ?T ?kk ?sub ?rest ?dis ?d ?u ?_
          walk_at "m_ctx"
          (case sub => walk_at "m_sub")
          (case rest =>
            refine List.forall_mem_cons.mpr ⟨?_, List.forall_mem_cons.mpr ⟨?_, subT h5 ?_⟩⟩
            · k_mem
            · k_mem
            · walk_at "m_sub")
          (case dis =>
            refine List.forall_mem_cons.mpr ⟨?_, List.forall_mem_cons.mpr ⟨?_, fun q hq => ?_⟩⟩
            · refine List.forall_mem_cons.mpr ⟨hof4.1.symm, List.forall_mem_nil _⟩
            · refine List.forall_mem_cons.mpr ⟨?_, List.forall_mem_nil _⟩
              show @Ne Nat (Lf + 1) lf
              omega
            · refine List.forall_mem_cons.mpr ⟨(hap3 q hq).1, List.forall_mem_nil _⟩)
          rintro v h' tk' new ⟨rfl, kk', rfl⟩ F' N' -
          (try simp only [List.cons_append, List.nil_append] at N')
          k_steps
          refine ⟨rfl, UnrEnd.intro (by assumption) (by assumption) ((lf, listOf (vs ++ [Value.int (2 + (i : Int)) t]).toArray kk') :: (Lf + 1, on2) :: OwnT st3) ?_ ?_ ?_⟩
          · refine List.forall_mem_cons.mpr ⟨List.mem_cons_of_mem _ (List.mem_cons_self ..), List.forall_mem_cons.mpr ⟨List.mem_cons_self .., List.forall_mem_cons.mpr ⟨?_, fun q hq => ?_⟩⟩⟩
            · exact List.mem_cons_of_mem _ (List.mem_cons_of_mem _ (List.mem_cons_self ..))
            · exact List.mem_cons_of_mem _ (List.mem_cons_of_mem _ (List.mem_cons_of_mem _ hq))
          · exact List.forall_mem_cons.mpr ⟨hof4.1, List.forall_mem_cons.mpr ⟨hof4.2.1, fun q hq => (hap3 q hq).2.2⟩⟩
          · refine ⟨⟨_, kk', on2, _, st3, by walk_at "m_facts", fun _ h => h, hd2, hst3, fun q hq => ⟨(hap3 q hq).1, (hap3 q hq).2.1⟩, ?_, hsm4⟩⟩
            show IntsAre _ (pB (i + 3))
            rw [hps]
            exact ints_app hI (.cons _ _ .nil)
        · have hF : ¬ (pB (i + 2)).filter (fun d => decide (((2 : Int) + (i : Int)).fmod d = 0)) = [] := of_decide_eq_false (by assumption)
          have hps := (pB_step i hi).2 hF
          refine ⟨rfl, UnrEnd.intro (by assumption) (by assumption) ((lf, listOf vs.toArray kf) :: (Lf + 1, on2) :: OwnT st3) ?_ ?_ ?_⟩
          · refine List.forall_mem_cons.mpr ⟨?_, List.forall_mem_cons.mpr ⟨?_, List.forall_mem_cons.mpr ⟨?_, subT h5 ?_⟩⟩⟩
            · k_mem
            · k_mem
            · k_mem
            · walk_at "m_sub"
          · exact List.forall_mem_cons.mpr ⟨hof4.1, List.forall_mem_cons.mpr ⟨hof4.2.1, fun q hq => (hap3 q hq).2.2⟩⟩
          · refine ⟨⟨_, kf, on2, _, st3, by walk_at "m_facts", fun _ h => h, hd2, hst3, fun q hq => ⟨(hap3 q hq).1, (hap3 q hq).2.1⟩, ?_, hsm4⟩⟩
            show IntsAre _ (pB (i + 3))
            rw [hps]
            exact hI))
    (case szC => rw [sizeLine_eq, List.size_toArray, hI.length]; have := pB_len (i + 2); omega))
  (case done =>
    rintro m₁ news₁ h tk ⟨⟨vs, kf, on, ov, st, hm, hsub, hon, hst, hap, hI, hsm⟩⟩ F N
    obtain ⟨⟨c1, oc1, c2, oc2⟩, rfl⟩ := Option.isSome_iff_exists.mp (hsm (by decide))
    replace N := kst_newsOf N hsub
    replace F := fr_kst hm F
    dsimp only [kstB] at F
    try dsimp only
    k_steps
    rw [show pB (29 + 2) = P10 by decide +kernel] at hI
    exact entry_end hret (by assumption) (by assumption) (sub1 fun q hq => List.mem_cons_of_mem _ hq) ⟨lf, vs, kf, c1, oc1, c2, oc2, rfl, rfl, hI, hst, fun q hq => (hap q hq).1⟩)
end Mine
end
section
local macro_rules | `(tactic| walk_at "call ref") => `(tactic| (refine' Mine.stop_call ?_))
local macro_rules | `(tactic| walk_at "pyIter ref") => `(tactic| (refine' Mine.stop_iter ?_))
local macro_rules | `(tactic| walk_at "exec For Name Call cons nil") => `(tactic| ((rename Fr _ _ _ _ => lF9); (with_unfolding_all refine' For_invVF lF9 ?k1 ?k2 ?_; (case k1 => exact rfl); (case k2 => exact rfl); k_whole)))
local macro_rules | `(tactic| walk_at "m_ctx") => `(tactic| (
  (case B => k_asm)
  (case F => k_asm)
  (case X => k_asm)
  (case N => k_asm)
  (case T => k_asm)
  (case kk => rfl)
  (case d => ktr_room)
  (case u => ktr_units)))
namespace Mine
def wayF (c : Nat) : Nat → Int
  | 0 => 1
  | i + 1 => (wayF c i * (2 * (c : Int) - (i : Int))).fdiv ((i : Int) + 1)
theorem wayF_ok : ∀ c : Nat, c < 15 → ∀ i : Nat, i < c → 0 ≤ wayF c i * (2 * (c : Int) - (i : Int)) ∧ wayF c i * (2 * (c : Int) - (i : Int)) < 1152921504606846976 ∧ (wayF c i * (2 * (c : Int) - (i : Int))).fmod ((i : Int) + 1) = 0 := by decide +kernel

theorem range_small : ∀ c : Nat, c < 15 → Builtin.Range.small 0 (c : Int) 1 = true ∧ Builtin.Range.rangeSize 0 (c : Int) 1 = (c : Int) := by decide +kernel
theorem e_ways {prog : Program} {w : World} {p : Program} {loose : List Str} {mean : ExcName → Option Value} {mg mb : Str → Option Value}
  (c : Nat) (tc : Tok) (hc2 : 2 ≤ c) (hc : c < 15) (st : Option (Addr × Obj × Addr × Obj)) (hst : StT st) :
  EntryC prog w (Mine.hd.heap_39 w.params) p loose mean mg mb 95 (OwnT st) [.int (c : Int) tc] 300 3000
    (fun v new => (∃ t, v = .int (wayF c c) t) ∧ ∃ st', new = OwnT st' ∧ StT st' ∧ ∀ q, st = some q → st' = some q) := by
  walk_at "m_fillK"
  intro dp un gd envs base g s R B kp sz X T hown hd hu hret
  obtain ⟨o1, o2, c1, oc1, c2, oc2, h4, h4'⟩ := own4 st
  replace hown : ∀ q ∈ [((30 : Addr), o1), (37, o2), (c1, oc1), (c2, oc2)], s.heap.get? q.1 = some q.2 ∧ g.get? q.1 = none := fun q hq => hown q (h4' q hq)
  walk_at "m_entP"
  k_steps
  refine ⟨?_⟩
  (rename News _ _ _ _ => lN)
  (rename Fr _ _ _ _ => lF)
  refine' iter_rangeUnr (n := c) rfl ?hr (range_small c hc).1 (range_small c hc).2 lF lN fun I hI => ?rest
  (case hr => assumption)
  (case rest =>
    refine rangeRest_of (fun i m news => Stop (∃ (tf : Tok) (st' : Option (Addr × Obj × Addr × Obj)),
      (∀ q ∈ [(Str.ofString "count", Value.int (c : Int) tc), (Str.ofString "found", Value.int (wayF c i) tf)], m q.1 = some q.2) ∧ (∀ q ∈ OwnT st', q ∈ news) ∧ StT st' ∧ (∀ q, st = some q → st' = some q) ∧ ∀ q ∈ OwnT st', @Ne Nat q.1 I)) ?stepR ?doneR c 0 _ _ (Nat.zero_add _) ?initR
    (case initR => exact ⟨⟨_, st, by walk_at "m_facts", h4, hst, fun _ h => h, fun q hq => Nat.ne_of_lt (hI q (h4 q hq))⟩⟩)
    (case stepR =>
      rintro i m news hi ⟨⟨tf, st', hm, hsub, hst', hss, hap⟩⟩ t h tk F N
      obtain ⟨p1, p2, b1, oc3, b2, oc4, h5, h5'⟩ := own4 st'
      replace N := kst_newsOf N (sub1 (subT h5' hsub))
      replace F := fr_kstx hm F
      dsimp only [kstB] at F
      simp only [Int.zero_add] at F
      obtain ⟨w0, w1, w2⟩ := wayF_ok c hc i hi
      k_steps
      refine ⟨?_⟩
      refine' use_entry (rest := [(I, _)]) (e_int_divmod _ _ _ _ w0 w1 (by omega) (by omega) st' hst') ?B ?F ?X ?N ?T ?kk ?sub ?rest2 ?dis ?d ?u ?_
      walk_at "m_ctx"
      (case sub => exact fun q hq => List.mem_cons_of_mem _ (h5 q hq))
      (case rest2 => walk_at "m_sub")
      (case dis => exact List.forall_mem_cons.mpr ⟨fun q hq => (hap q hq).symm, List.forall_mem_nil _⟩)
      rintro v h' tk' new ⟨D2, t1, t2, f1, of1, f2, of2, rfl, rfl, hst3, hDD, hs3⟩ F' N' hdis3
      have hne := ne_own hdis3
      clear hdis3
      dsimp only [OwnT] at N'
      (try simp only [List.cons_append, List.nil_append] at N')
      have w3 : ¬ (wayF c i * (2 * (c : Int) - (i : Int))).fmod ((i : Int) + 1) ≠ 0 := fun h => h w2
      k_steps
      · exact absurd (by assumption) w3
      · refine UnrEnd.intro (by assumption) (by assumption) (OwnT (some (f1, of1, f2, of2))) ?_ ?_ ?_
        · dsimp only [OwnT]
          walk_at "m_sub"
        · exact fun q hq => hne q hq (I, _) (List.mem_cons_self ..)
        · exact ⟨⟨_, some (f1, of1, f2, of2), by walk_at "m_facts", fun _ h => h, hst3, fun q hq => by rw [← hs3 q (hss q hq)], fun q hq => hne q hq (I, _) (List.mem_cons_self ..)⟩⟩)
    (case doneR =>
      rintro m news ⟨⟨tf, st', hm, hsub, hst', hss, hap⟩⟩ h tk F N
      replace N := kst_newsOf N hsub
      replace F := fr_kst hm F
      dsimp only [kstB] at F
      try dsimp only
      k_steps
      dsimp only
      exact entry_end hret (by assumption) (by assumption) (fun _ h => h) ⟨⟨_, rfl⟩, st', rfl, hst', hss⟩))
end Mine
end
section
namespace Mine
section
variable {prog : Program} {w : World} {p : Program} {loose : List Str} {mean : ExcName → Option Value} {mg mb : Str → Option Value}
   {dp un : Nat} {gd : Option (List Code)} {en : Str} {cs : Scope} {a : Addr} {ccd : Value} {cl : List (Str × Addr)} {outer : List Env} {A₀ : Around} {base h₀ : Heap} {L : Addr} {m : Str → Option Value} {s : Shared} {Q E : Value → Shared → Prop} {news : List (Addr × Obj)}

theorem use_keep {K : Frag} {f : Addr} {own : List (Addr × Obj)} {vs : List Value} {rd ru : Nat} {Post : Value → List (Addr × Obj) → Prop}
    (C : EntryC prog w K p loose mean mg mb f own vs rd ru Post)
    (B : Below A₀ base outer h₀) (F : Fr h₀ L s.heap m) (X : K.In h₀) (N : News h₀ L s.heap news) (T : Top p loose mean mg mb h₀) (hk : cs.kind = .function)
    (hsub : ∀ q ∈ own, q ∈ news) (hpost : ∀ v new, Post v new → ∀ q ∈ own, q ∈ new) (hd : dp + rd < recursionLimit) (hu : un + ru < cLine)
    (k : ∀ (v : Value) (h' : Heap) (tk' : Nat) (new : List (Addr × Obj)), Post v new → Fr h₀ L h' m → News h₀ L h' (new ++ news) → (∀ q ∈ news, q ∈ own ∨ ∀ q' ∈ new, @Ne Nat q.1 q'.1) → Q v { s with heap := h', toks := tk' }) :
    wpAny (model prog w) (ktrTop dp un gd en cs L a ccd cl outer) (call (.ref f) vs) Q E s := by
  have hown : ∀ q ∈ news, q ∈ own ∨ ∀ q' ∈ own, @Ne Nat q.1 q'.1 := fun q hq => by
    rcases Classical.em (∃ q' ∈ own, q.1 = q'.1) with ⟨q', hq', e⟩ | h
    · refine .inl ?_
      have h1 := (N q hq).1
      have h2 := (N q' (hsub q' hq')).1
      rw [e, h2] at h1
      have : q = q' := Prod.ext e (Option.some.inj h1).symm
      rw [this]; exact hq'
    · exact .inr fun q' hq' e => h ⟨q', hq', e⟩
  let rest := news.filter fun q => @decide (q ∉ own) (Classical.propDecidable _)
  have hr : ∀ q, q ∈ rest ↔ q ∈ news ∧ q ∉ own := fun q => by
    show q ∈ news.filter _ ↔ _
    rw [List.mem_filter]
    exact and_congr_right fun _ => @decide_eq_true_iff _ (Classical.propDecidable _)
  refine use_entry (rest := rest) C B F X N T hk hsub (fun q hq => ((hr q).mp hq).1) (fun q hq => ?_) hd hu ?_
  · rcases hown q ((hr q).mp hq).1 with h | h
    · exact absurd h ((hr q).mp hq).2
    · exact h
  · intro v h' tk' new hp F' N' hdis
    refine k v h' tk' new hp F' (fun q hq => ?_) fun q hq => ?_
    · rcases List.mem_append.mp hq with hq | hq
      · exact N' q (List.mem_append_left _ hq)
      · rcases Classical.em (q ∈ own) with ho | ho
        · exact N' q (List.mem_append_left _ (hpost v new hp q ho))
        · exact N' q (List.mem_append_right _ ((hr q).mpr ⟨hq, ho⟩))
    · rcases Classical.em (q ∈ own) with ho | ho
      · exact .inl ho
      · exact .inr (hdis q ((hr q).mpr ⟨hq, ho⟩))

def AllNe (d : Nat) : List (Addr × Obj) → Prop
  | [] => True
  | p :: r => @Ne Nat p.1 d ∧ AllNe d r
theorem allNe_of {d : Nat} : ∀ {l : List (Addr × Obj)}, (∀ p ∈ l, @Ne Nat p.1 d) → AllNe d l
  | [], _ => trivial
  | p :: _, h => ⟨h p (.head _), allNe_of fun q hq => h q (.tail _ hq)⟩

theorem use_idm {c1 c2 : Addr} {oc1 oc2 : Obj} {x y : Int} {tx ty : Tok} (hst : StT (some (c1, oc1, c2, oc2)))
    (B : Below A₀ base outer h₀) (F : Fr h₀ L s.heap m) (X : (Mine.hd.heap_39 w.params).In h₀) (N : News h₀ L s.heap news) (T : Top p loose mean mg mb h₀) (hk : cs.kind = .function)
    (h1 : ((30 : Addr), tab1 c1) ∈ news) (h2 : ((37 : Addr), tab2 c2) ∈ news) (h3 : (c1, oc1) ∈ news) (h4 : (c2, oc2) ∈ news)
    (hx0 : 0 ≤ x) (hx1 : x < 1152921504606846976) (hy : 0 < y) (hy1 : y < 1000) (hd : dp + 170 < recursionLimit) (hu : un + 1600 < cLine)
    (k : ∀ D t1 t2 h' tk', Fr h₀ L h' m → News h₀ L h' ((D, pairObj (x.fdiv y) (x.fmod y) t1 t2) :: news) → AllNe D news → Q (.ref D) { s with heap := h', toks := tk' }) :
    wpAny (model prog w) (ktrTop dp un gd en cs L a ccd cl outer) (call (.ref 56) [.int x tx, .int y ty]) Q E s := by
  refine use_keep (e_int_divmod x y tx ty hx0 hx1 hy hy1 (some (c1, oc1, c2, oc2)) hst) B F X N T hk ?_ ?_ hd hu ?_
  · exact List.forall_mem_cons.mpr ⟨h1, List.forall_mem_cons.mpr ⟨h2, List.forall_mem_cons.mpr ⟨h3, List.forall_mem_cons.mpr ⟨h4, List.forall_mem_nil _⟩⟩⟩⟩
  · rintro v new ⟨D, t1, t2, d1, od1, d2, od2, rfl, rfl, _, _, hs⟩ q hq
    cases hs _ rfl
    exact List.mem_cons_of_mem _ hq
  · rintro v h' tk' new ⟨D, t1, t2, d1, od1, d2, od2, rfl, rfl, _, hD, hs⟩ F' N' hdis
    cases hs _ rfl
    refine k D t1 t2 h' tk' F' (fun q hq => ?_) (allNe_of fun q hq => ?_)
    · rcases List.mem_cons.mp hq with rfl | hq
      · exact N' _ (List.mem_append_left _ (List.mem_cons_self ..))
      · exact N' _ (List.mem_append_right _ hq)
    · rcases hdis q hq with ho | ho
      · have : ∀ q ∈ OwnT (some (c1, oc1, c2, oc2)), @Ne Nat q.1 D := List.forall_mem_cons.mpr ⟨hD.1.symm, List.forall_mem_cons.mpr ⟨hD.2.1.symm, List.forall_mem_cons.mpr ⟨hD.2.2.1.symm, List.forall_mem_cons.mpr ⟨hD.2.2.2.symm, List.forall_mem_nil _⟩⟩⟩⟩
        exact this q ho
      · exact ho _ (List.mem_cons_self ..)

theorem use_ways {c1 c2 : Addr} {oc1 oc2 : Obj} {c : Nat} {tc : Tok} (hst : StT (some (c1, oc1, c2, oc2)))
    (B : Below A₀ base outer h₀) (F : Fr h₀ L s.heap m) (X : (Mine.hd.heap_39 w.params).In h₀) (N : News h₀ L s.heap news) (T : Top p loose mean mg mb h₀) (hk : cs.kind = .function)
    (h1 : ((30 : Addr), tab1 c1) ∈ news) (h2 : ((37 : Addr), tab2 c2) ∈ news) (h3 : (c1, oc1) ∈ news) (h4 : (c2, oc2) ∈ news)
    (hc2 : 2 ≤ c) (hc : c < 15) (hd : dp + 300 < recursionLimit) (hu : un + 3000 < cLine)
    (k : ∀ t h' tk', Fr h₀ L h' m → News h₀ L h' news → Q (.int (wayF c c) t) { s with heap := h', toks := tk' }) :
    wpAny (model prog w) (ktrTop dp un gd en cs L a ccd cl outer) (call (.ref 95) [.int (c : Int) tc]) Q E s := by
  refine use_keep (e_ways c tc hc2 hc (some (c1, oc1, c2, oc2)) hst) B F X N T hk ?_ ?_ hd hu ?_
  · exact List.forall_mem_cons.mpr ⟨h1, List.forall_mem_cons.mpr ⟨h2, List.forall_mem_cons.mpr ⟨h3, List.forall_mem_cons.mpr ⟨h4, List.forall_mem_nil _⟩⟩⟩⟩
  · rintro v new ⟨_, st', rfl, _, hs⟩ q hq
    cases hs _ rfl
    exact hq
  · rintro v h' tk' new ⟨⟨t, rfl⟩, st', rfl, _, hs⟩ F' N' _
    exact k t h' tk' F' fun q hq => N' q (List.mem_append_right _ hq)

def BisOk (ns : List Int) (x : Int) (r : Nat) : Prop := r ≤ ns.length ∧ ∀ i : Nat, i < ns.length → (x < ns.getD i 0 ↔ r ≤ i)
theorem use_bisr {l : Addr} {vs : List Value} {ns : List Int} {kk : Nat} {x : Int} {tx : Tok} {r : Nat} (hI : IntsAre vs ns) (hb : BisOk ns x r) (hl : ns.length ≤ 100)
    (B : Below A₀ base outer h₀) (F : Fr h₀ L s.heap m) (X : (Mine.hd.heap_39 w.params).In h₀) (N : News h₀ L s.heap news) (T : Top p loose mean mg mb h₀) (hk : cs.kind = .function)
    (h1 : (l, listOf vs.toArray kk) ∈ news) (hd : dp + 10 < recursionLimit) (hu : un + 100 < cLine)
    (k : ∀ t h' tk', Fr h₀ L h' m → News h₀ L h' news → Q (.int (r : Int) t) { s with heap := h', toks := tk' }) :
    wpAny (model prog w) (ktrTop dp un gd en cs L a ccd cl outer) (call (.ref 65) [.ref l, .int x tx]) Q E s := by
  refine use_keep (e_bisect_right l vs ns kk x tx r hI hl hb.1 hb.2) B F X N T hk ?_ ?_ hd hu ?_
  · exact List.forall_mem_cons.mpr ⟨h1, List.forall_mem_nil _⟩
  · rintro v new ⟨_, rfl⟩ q hq
    exact hq
  · rintro v h' tk' new ⟨⟨t, rfl⟩, rfl⟩ F' N' _
    exact k t h' tk' F' fun q hq => N' q (List.mem_append_right _ hq)
end

def lowF (c : Nat) : Nat := (P10.filter fun d => decide (d ≤ (c : Int))).length
theorem bis_ok : ∀ c : Nat, c < 29 → (lowF c ≤ 10 ∧ ∀ i : Nat, i < 10 → ((c : Int) < P10.getD i 0 ↔ lowF c ≤ i)) := by decide +kernel
theorem bisOk {c : Nat} (h : c < 29) : BisOk P10 (c : Int) (lowF c) := ⟨(bis_ok c h).1, fun i hi => (bis_ok c h).2 i hi⟩
theorem bisOk2 {c : Nat} (h : c < 15) : BisOk P10 (2 * (c : Int)) (lowF (2 * c)) := by
  have := bisOk (c := 2 * c) (by omega)
  rw [show ((2 * c : Nat) : Int) = 2 * (c : Int) by omega] at this
  exact this
end Mine
end
section
namespace Mine
theorem count_ok (n : Int) : ∃ c : Nat, 2 + n.fmod 13 = (c : Int) ∧ 2 ≤ c ∧ c < 15 := by
  have h0 : 0 ≤ n.fmod 13 := Int.fmod_nonneg_of_pos _ (by decide)
  have h1 : n.fmod 13 < 13 := Int.fmod_lt_of_pos _ (by decide)
  exact ⟨(2 + n.fmod 13).toNat, by omega, by omega, by omega⟩
theorem law1 : ∀ c : Nat, c < 15 → 2 ≤ c → lowF c < lowF (2 * c) ∧ lowF (2 * c) ≤ 10 ∧ (c : Int) < [2, 3, 5, 7, 11, 13, 17, 19, 23, 29].getD ((lowF c : Nat) : Int).toNat 0 ∧
    [2, 3, 5, 7, 11, 13, 17, 19, 23, 29].getD ((lowF c : Nat) : Int).toNat 0 < 2 * (c : Int) := by decide +kernel

def prodF (c : Nat) : Int := (P10.take (lowF c)).foldl (fun x y => x * y) 1
def prun : List Int → Int → Option Int
  | [], a => some a
  | d :: rs, a => if 0 ≤ a ∧ a < 1152921504606846976 ∧ 0 ≤ d ∧ d ≤ 29 then prun rs (a * d) else none
theorem prun_cons {d : Int} {rs : List Int} {a r : Int} (h : prun (d :: rs) a = some r) : 0 ≤ a ∧ a < 1152921504606846976 ∧ 0 ≤ d ∧ d ≤ 29 ∧ prun rs (a * d) = some r := by
  unfold prun at h
  split at h
  · rename_i g
    exact ⟨g.1, g.2.1, g.2.2.1, g.2.2.2, h⟩
  · cases h
def wrun (c : Nat) (d : Int) : Nat → Int → Int → Option Int
  | 0, _, _ => none
  | f + 1, o, p => if p ≤ 2 * (c : Int) then (if ((2 * (c : Int)).fdiv p - 2 * ((c : Int).fdiv p) = 0 ∨ (2 * (c : Int)).fdiv p - 2 * ((c : Int).fdiv p) = 1) then wrun c d f (o + ((2 * (c : Int)).fdiv p - 2 * ((c : Int).fdiv p))) (p * d) else none) else some o
theorem wrun_le {c : Nat} {d : Int} {n : Nat} {o p r : Int} (hp : p ≤ 2 * (c : Int)) (h : wrun c d (n + 1) o p = some r) :
    ((2 * (c : Int)).fdiv p - 2 * ((c : Int).fdiv p) = 0 ∨ (2 * (c : Int)).fdiv p - 2 * ((c : Int).fdiv p) = 1) ∧ wrun c d n (o + ((2 * (c : Int)).fdiv p - 2 * ((c : Int).fdiv p))) (p * d) = some r := by
  unfold wrun at h
  rw [if_pos hp] at h
  split at h
  · rename_i g
    exact ⟨g, h⟩
  · cases h
theorem wrun_gt {c : Nat} {d : Int} {n : Nat} {o p r : Int} (hp : ¬ p ≤ 2 * (c : Int)) (h : wrun c d (n + 1) o p = some r) : o = r := by
  unfold wrun at h
  rw [if_neg hp] at h
  exact Option.some.inj h
theorem wrun_zero {P : Prop} {c : Nat} {d o p r : Int} (h : wrun c d 0 o p = some r) : P := by cases h
abbrev okF (c : Nat) (d o : Int) : Prop := (d * d ≤ 2 * (c : Int) ∨ o ≤ 1) ∧ (d ≤ (c : Int) ∨ o = 1) ∧ ((c : Int) < 3 ∨ 3 * d ≤ 2 * (c : Int) ∨ (c : Int) < d ∨ o = 0)
abbrev bndF (a d o : Int) : Prop := 2 ≤ d ∧ d ≤ 29 ∧ 0 ≤ o ∧ o ≤ 30 ∧ 0 ≤ a ∧ a < 1152921504606846976 ∧ 0 ≤ d ^ o.toNat ∧ d ^ o.toNat < 1152921504606846976
def mrun (c : Nat) : List Int → Int → Option Int
  | [], a => some a
  | d :: rs, a => match wrun c d 6 0 d with
    | none => none
    | some o => if okF c d o ∧ bndF a d o then mrun c rs (a * d ^ o.toNat) else none
theorem mrun_cons {c : Nat} {d : Int} {rs : List Int} {a r : Int} (h : mrun c (d :: rs) a = some r) : ∃ o, wrun c d 6 0 d = some o ∧ okF c d o ∧ bndF a d o ∧ mrun c rs (a * d ^ o.toNat) = some r := by
  unfold mrun at h
  split at h
  · cases h
  · rename_i o ho
    split at h
    · rename_i g
      exact ⟨o, ho, g.1, g.2, h⟩
    · cases h
theorem carry_any {x : Int} (h : x = 0 ∨ x = 1) : ¬ ([0, 1].any fun y => y == x) = false := by
  rcases h with rfl | rfl <;> decide
theorem one_le_mul {p d : Int} (hp : 1 ≤ p) (hd : 2 ≤ d) : 1 ≤ p * d := by
  have h := Int.mul_le_mul hp (by omega : (1 : Int) ≤ d) (by decide) (by omega)
  omega
theorem law2 : ∀ c : Nat, c < 15 → 2 ≤ c → prun (P10.take (lowF c)) 1 = some (prodF c) ∧ prodF c < (4 : Int) ^ ((c : Nat) : Int).toNat ∧
    (lowF c : Int) = ((P10.filter fun d => decide (d ≤ (c : Int))).length : Int) ∧ mrun c (P10.take (lowF (2 * c))) 1 = some (wayF c c) := by decide +kernel
end Mine
end
section
local macro_rules | `(tactic| walk_at "call ref") => `(tactic| (refine' Mine.stop_call ?_))
local macro_rules | `(tactic| walk_at "pyIter ref") => `(tactic| (refine' Mine.stop_iter ?_))
local macro_rules | `(tactic| walk_at "exec While Compare cons nil") => `(tactic| (refine' Mine.stop_while ?_))
local macro_rules | `(tactic| walk_at "exec For") => `(tactic| ((rename Fr _ _ _ _ => lF9); (with_unfolding_all refine' For_invVF lF9 ?k1 ?k2 ?_; (case k1 => exact rfl); (case k2 => exact rfl); k_whole)))
local macro_rules | `(tactic| walk_at "m_ctx") => `(tactic| (
  (case B => k_asm)
  (case F => k_asm)
  (case X => k_asm)
  (case N => k_asm)
  (case T => k_asm)
  (case kk => rfl)
  (case d => first | decide | ktr_room)
  (case u => first | decide | ktr_units)))
local macro_rules | `(tactic| walk_at "call ref") => `(tactic| (k_dflt (refine' Mine.use_bisr ?I ?b ?l ?B ?F ?X ?N ?T ?kk ?m ?d ?u ?_; (case B => k_asm); (case F => k_asm); (case X => k_asm); (case N => k_asm); (case T => k_asm); (case kk => rfl); (case m => k_mem); (case I => with_reducible assumption); (case b => with_reducible assumption); (case l => decide); (case d => decide); (case u => decide); k_whole); intro t' h' tk' F' N'))
local macro_rules | `(tactic| walk_at "call ref") => `(tactic| (k_dflt (refine' Mine.use_ways ?st ?B ?F ?X ?N ?T ?kk ?m1 ?m2 ?m3 ?m4 ?c1 ?c2 ?d ?u ?_; (case B => k_asm); (case F => k_asm); (case X => k_asm); (case N => k_asm); (case T => k_asm); (case kk => rfl); (case st => assumption); (case m1 => k_mem); (case m2 => k_mem); (case m3 => k_mem); (case m4 => k_mem); (case c1 => assumption); (case c2 => assumption); (case d => decide); (case u => decide); k_whole); intro t' h' tk' F' N'))
local macro_rules | `(tactic| walk_at "call ref") => `(tactic| (k_dflt (refine' Mine.use_idm ?st ?B ?F ?X ?N ?T ?kk ?m1 ?m2 ?m3 ?m4 ?x0 ?x1 ?y0 ?y1 ?d ?u ?_; (case B => k_asm); (case F => k_asm); (case X => k_asm); (case N => k_asm); (case T => k_asm); (case kk => rfl); (case st => assumption); (case m1 => k_mem); (case m2 => k_mem); (case m3 => k_mem); (case m4 => k_mem); (case x0 => omega); (case x1 => omega); (case y0 => omega); (case y1 => omega); (case d => decide); (case u => decide); k_whole); intro D' t1' t2' h' tk' F' N' l1'; (simp only [AllNe, and_true] at l1')))
namespace Mine
theorem t_law : PySem.Challenge.rw_ga0004_01.Holds := hd (by
  k_go0
  (all_goals try k_fold)
  k_steps
  refine ⟨?_⟩
  (rename PySem.Shared => s1)
  refine' use_entry (rest := [(s1.heap.objs.size + 1, _)]) (e_primes _) ?B ?F ?X ?N ?T ?kk ?sub ?rest ?dis ?d ?u ?_
  walk_at "m_ctx"
  (case sub => dsimp only [OwnT]; walk_at "m_sub")
  (case rest => walk_at "m_sub")
  (case dis =>
    dsimp only [OwnT]
    simp only [List.forall_mem_cons, List.not_mem_nil, false_implies, implies_true, and_true]
    omega)
  rintro v h' tk' new ⟨lp, vs, kf, c1, oc1, c2, oc2, rfl, rfl, hI, hst, hapl⟩ F' N' hdis
  dsimp only [OwnT] at N' hapl hdis
  (try simp only [List.cons_append, List.nil_append] at N')
  have hst0 := hst
  obtain ⟨-, -, n1, n2, n3, n4, n5⟩ := hst0
  simp only [List.forall_mem_cons, List.not_mem_nil, false_implies, implies_true, and_true] at hdis hapl
  unfold P10 at hI
  k_steps
  refine ⟨?_⟩
  (rename News _ _ _ _ => lN)
  refine led_list lN fun D ws eD ews => ?_
  subst eD
  subst ews
  (rename IntsAre ws _ => hIw)
  (rename Fr _ _ _ _ => lF)
  refine' iter_listUnr (ax := D) (lo := listOf ws.toArray 0) (vs := ws) rfl lF lN (by k_mem) rfl rfl fun I hI9 => ?restL
  (case restL =>
    k_lt hI9
    refine listRest_of (fun rest m news => Stop (∃ (rs : List Int) (on : Obj) (ov : Option Value), IntsAre rest rs ∧ (∀ q ∈ [(Str.ofString "primes", Value.ref lp)], m q.1 = some q.2) ∧
      (∀ q ∈ [(D, listOf ws.toArray 0), (lp, listOf vs.toArray kf), (30, tab1 c1), (37, tab2 c2), (c1, oc1), (c2, oc2), (s1.heap.objs.size + 1, on)], q ∈ news) ∧ on.data = .cell ov)) ?stepL ?doneL _ _ _ ?initL
    (case initL => exact ⟨⟨_, _, _, hIw, by walk_at "m_facts", by walk_at "m_sub", by assumption⟩⟩)
    (case stepL =>
      rintro v r m news ⟨⟨rs, on, ov, hR, hm, hsub, hon⟩⟩ it h tk hc F N
      replace N := kst_newsOf N (sub1 hsub)
      replace F := fr_kstx hm F
      dsimp only [kstB] at F
      cases hR with
      | cons n tn hR' => ?_
      k_steps
      obtain ⟨c, hcc, hc2, hc15⟩ := count_ok n
      have b1 := bisOk (c := c) (by omega)
      have b2 := bisOk2 (c := c) hc15
      obtain ⟨f1, f2, f3, f4⟩ := law1 c hc15 hc2
      unfold P10 at b1 b2
      simp only [hcc] at *
      refine ⟨?_⟩
      k_steps
      refine ⟨?_⟩
      (rename Obj => o2)
      (rename o2.data = Data.cell _ => hcell)
      (rename News _ _ _ _ => lN2)
      (rename Fr _ _ _ _ => lF2)
      (rename IntsAre _ (List.take _ _) => hIp)
      refine led_list lN2 fun D2 ws2 eD2 ews2 => ?_
      subst eD2
      subst ews2
      simp only [Int.toNat_natCast] at hIp
      obtain ⟨g1, g2, g3, g4⟩ := law2 c hc15 hc2
      unfold P10 at g1 g3 g4
      refine' iter_listUnr (ax := D2) (lo := listOf ws2.toArray 0) (vs := ws2) rfl lF2 lN2 (by k_mem) rfl rfl fun I2 hI2 => ?restP
      (case restP =>
        k_lt hI2
        refine listRest_of (fun rest m news => Stop (∃ (rs : List Int) (a : Int) (tp t1 t2 : Tok), IntsAre rest rs ∧ prun rs a = some (prodF c) ∧
          (∀ q ∈ [(Str.ofString "primes", Value.ref lp), (Str.ofString "low", Value.int (lowF c : Nat) t1), (Str.ofString "high", Value.int (lowF (2 * c) : Nat) t2), (Str.ofString "product", Value.int a tp)], m q.1 = some q.2) ∧
          (∀ q ∈ [(D2, listOf ws2.toArray 0), (I, it), (D, listOf ws.toArray 0), (lp, listOf vs.toArray kf), (30, tab1 c1), (37, tab2 c2), (c1, oc1), (c2, oc2), (s1.heap.objs.size + 1, o2)], q ∈ news))) ?stepP ?doneP _ _ _ ?initP
        (case initP => exact ⟨⟨_, _, _, _, _, hIp, g1, by walk_at "m_facts", by walk_at "m_sub"⟩⟩)
        (case stepP =>
          rintro v rest2 m news ⟨⟨rs, a, tp, t1, t2, hR2, hfold, hm2, hsub2⟩⟩ it2 h tk hc2' F N
          replace N := kst_newsOf N (sub1 hsub2)
          replace F := fr_kstx hm2 F
          dsimp only [kstB] at F
          cases hR2 with
          | cons n2 tn2 hR2' => ?_
          obtain ⟨ha0, ha1, hd0, hd1, hfold'⟩ := prun_cons hfold
          k_steps
          exact ⟨⟨_, _, _, _, _, hR2', hfold', by walk_at "m_facts", by walk_at "m_sub"⟩⟩)
        (case doneP =>
          rintro m news ⟨⟨rs, a, tp, t1, t2, hR2, hfold, hm2, hsub2⟩⟩ h tk F N
          replace N := kst_newsOf N hsub2
          replace F := fr_kst hm2 F
          dsimp only [kstB] at F
          cases hR2
          have hfold' : a = prodF c := Option.some.inj hfold
          try dsimp only
          k_steps
          rotate_right 1
          · refine ⟨?_⟩
            (rename News _ _ _ _ => lN3)
            (rename Fr _ _ _ _ => lF3)
            (rename IntsAre _ (List.take _ _) => hIq)
            refine led_list lN3 fun D3 ws3 eD3 ews3 => ?_
            subst eD3
            subst ews3
            simp only [Int.toNat_natCast] at hIq
            refine' iter_listUnr (ax := D3) (lo := listOf ws3.toArray 0) (vs := ws3) rfl lF3 lN3 (by k_mem) rfl rfl fun I3 hI3 => ?restM
            (case restM =>
              k_lt hI3
              refine listRest_of (fun rest m news => Stop (∃ (rs : List Int) (a : Int) (tp t1 : Tok), IntsAre rest rs ∧ mrun c rs a = some (wayF c c) ∧
                (∀ q ∈ [(Str.ofString "primes", Value.ref lp), (Str.ofString "ways", Value.int (wayF c c) t1), (Str.ofString "made", Value.int a tp)], m q.1 = some q.2) ∧
                (∀ q ∈ [(D3, listOf ws3.toArray 0), (I, it), (D, listOf ws.toArray 0), (lp, listOf vs.toArray kf), (30, tab1 c1), (37, tab2 c2), (c1, oc1), (c2, oc2), (s1.heap.objs.size + 1, o2)], q ∈ news))) ?stepM ?doneM _ _ _ ?initM
              (case initM => exact ⟨⟨_, _, _, _, hIq, g4, by walk_at "m_facts", by walk_at "m_sub"⟩⟩)
              (case stepM =>
                rintro v rest3 m news ⟨⟨rs, a, tp, t1, hR3, hrun, hm3, hsub3⟩⟩ it3 h tk hc3 F N
                replace N := kst_newsOf N (sub1 hsub3)
                replace F := fr_kstx hm3 F
                dsimp only [kstB] at F
                cases hR3 with
                | cons d td hR3' => ?_
                obtain ⟨o, hw, ⟨k1, k2, k3⟩, ⟨hd2, hd29, ho0, ho30, ha0, ha1, hq0, hq1⟩, hrun'⟩ := mrun_cons hrun
                k_steps
                refine ⟨?_⟩
                (rename News _ _ _ _ => lN4)
                (rename Fr _ _ _ _ => lF4)
                refine' While_inv2 (n₀ := 6) (fun n m news => Stop (∃ (e p : Int) (te tp2 : Tok), wrun c d n e p = some o ∧ 1 ≤ p ∧
                  (∀ q ∈ [(Str.ofString "primes", Value.ref lp), (Str.ofString "ways", Value.int (wayF c c) t1), (Str.ofString "made", Value.int a tp), (Str.ofString "prime", Value.int d td), (Str.ofString "often", Value.int e te), (Str.ofString "power", Value.int p tp2)], m q.1 = some q.2) ∧
                  (∀ q ∈ [(I3, it3), (D3, listOf ws3.toArray 0), (I, it), (D, listOf ws.toArray 0), (lp, listOf vs.toArray kf), (30, tab1 c1), (37, tab2 c2), (c1, oc1), (c2, oc2), (s1.heap.objs.size + 1, o2)], q ∈ news))) lF4 lN4 ?initW ?turnW
                (case initW => exact ⟨⟨_, _, _, _, hw, by omega, by walk_at "m_facts", by walk_at "m_sub"⟩⟩)
                (case turnW =>
                  rintro n m₁ news₁ h₁ tk₁ F N ⟨⟨e, p, te, tp2, hwr, hp1, hm4, hsub4⟩⟩
                  replace N := kst_newsOf N hsub4
                  replace F := fr_kst hm4 F
                  dsimp only [kstB] at F
                  cases n with
                  | zero => exact wrun_zero hwr
                  | succ n => ?_
                  by_cases hle : p ≤ 2 * (c : Int)
                  · obtain ⟨hcar, hwr'⟩ := wrun_le hle hwr
                    k_steps
                    refine ⟨?_⟩
                    refine' Mine.use_idm ?st ?B ?F ?X ?N ?T ?kk ?m1 ?m2 ?m3 ?m4 ?x0 ?x1 ?y0 ?y1 ?d ?u ?_
                    (case B => k_asm); (case F => k_asm); (case X => k_asm); (case N => k_asm); (case T => k_asm); (case kk => rfl)
                    (case st => assumption); (case m1 => k_mem); (case m2 => k_mem); (case m3 => k_mem); (case m4 => k_mem); (case x0 => omega); (case x1 => omega); (case y0 => omega); (case y1 => omega); (case d => decide); (case u => decide)
                    intro Dq tq1 tq2 hq tkq Fq Nq lq
                    simp only [AllNe, and_true] at lq
                    k_steps
                    refine ⟨?_⟩
                    refine' Mine.use_idm ?st ?B ?F ?X ?N ?T ?kk ?m1 ?m2 ?m3 ?m4 ?x0 ?x1 ?y0 ?y1 ?d ?u ?_
                    (case B => k_asm); (case F => k_asm); (case X => k_asm); (case N => k_asm); (case T => k_asm); (case kk => rfl)
                    (case st => assumption); (case m1 => k_mem); (case m2 => k_mem); (case m3 => k_mem); (case m4 => k_mem); (case x0 => omega); (case x1 => omega); (case y0 => omega); (case y1 => omega); (case d => decide); (case u => decide)
                    intro Dr tr1 tr2 hr tkr Fr Nr lr
                    simp only [AllNe, and_true] at lr
                    have hcn := carry_any hcar
                    have hp2 := one_le_mul hp1 hd2
                    k_steps
                    · exact ws2_intro (by assumption) (by assumption) (Nat.lt_succ_self _) ⟨⟨_, _, _, _, hwr', hp2, by walk_at "m_facts", by walk_at "m_sub"⟩⟩
                    · exact absurd (by assumption) hcn
                  · obtain rfl := wrun_gt hle hwr
                    k_steps
                    all_goals exact ⟨⟨_, _, _, _, hR3', hrun', by walk_at "m_facts", by walk_at "m_sub"⟩⟩))
              (case doneM =>
                rintro m news ⟨⟨rs, a, tp, t1, hR3, hrun, hm3, hsub3⟩⟩ h tk F N
                replace N := kst_newsOf N hsub3
                replace F := fr_kst hm3 F
                dsimp only [kstB] at F
                cases hR3
                have hrun' : a = wayF c c := Option.some.inj hrun
                try dsimp only
                k_steps
                exact ⟨⟨_, _, _, hR', by walk_at "m_facts", by walk_at "m_sub", by assumption⟩⟩))
          all_goals first | exact Str.ofString "" | exact (0 : Nat) | exact Value.none)))
    (case doneL =>
      rintro m news ⟨⟨rs, on, ov, hR, hm, hsub, hon⟩⟩ h tk F N
      replace N := kst_newsOf N hsub
      replace F := fr_kst hm F
      dsimp only [kstB] at F
      try dsimp only
      k_steps)
))
end Mine
end
theorem PySem.Challenge.cw_ga0004_01_holds : PySem.Challenge.rw_ga0004_01.Holds := by
  exact Mine.t_law
