import PyProof.Rows.All
import Wide.All
import OpenK.AllK
import Wide.FinOn
import PySem.Challenge.RW_ny0011_01
set_option Elab.async false
set_option linter.unusedVariables false

/-! part NyHead -/
section
open PySem PySem.W PyProof.Rows
namespace Mine
open PySem PySem.W PySem.Calls PyProof.Rows

/-- the one place from which the law is called -/
abbrev callerG : Ctx := ⟨.builtin "claim.caller" {}, none, none, [], none⟩

theorem thread_endsS {prog : Program} {w : World} {t : Sem Fin} {s : Shared} {R : Result → Shared → Prop} (hreg : s.asleep)
    (h : Sem.wp (model prog w) callerG t (fun fin _ s' => ∃ f, fin = .done f ∧ (R (.ok f) s' ∧ leftWithCleanup s'.gens = false)) (fun e _ s' => R (.error e) s' ∧ leftWithCleanup s'.gens = false) default s) :
    ∃ n r s' s'', runN (denote table) prog w n s ⟨t, .builtin "claim.caller" {}, default, []⟩ = .halted (outcomeOf r) s' ∧
      schedN (denote table) prog w n (.single s ⟨t, .builtin "claim.caller" {}, default, []⟩) = .halted (outcomeOf r) s' ∧ s'.forget = s''.forget ∧ R r s'' := by
  have h' : Sem.wp (model prog w) callerG t (Sem.finPost (model prog w) callerG fun r s' => R r s' ∧ leftWithCleanup s'.gens = false) (fun e _ s' => R (.error e) s' ∧ leftWithCleanup s'.gens = false) default s := by
    refine Sem.wp_mono _ _ t (fun fin p' s' h' => ?_) (fun _ _ _ h' => h') _ s h
    obtain ⟨f, rfl, hf⟩ := h'
    exact hf
  obtain ⟨n, r, s₁, s₂, hs, hn, hfo, hR⟩ := wp_halts_full (M := model prog w) (R := R) hreg h'
  exact ⟨n, r, s₂, s₁, hn, hs, hfo, hR⟩

theorem callFrom_S {c : ClaimW} {tree : List Value → Sem Fin} {w : World} {s : Shared} {free : Addr → Prop} {gens : Prop} {kept : Heap → Prop} (hz : s.asleep) (hgens : s.gens = #[])
    (hspec : ∀ args, c.pre args = true → WData.layableAll args = true →
      ∀ ord : List DictEntry → List DictEntry, (∀ l, (ord l).Perm l) →
      ∃ vs s₁, layAllW c.records (classAt s.heap) w.params ord args s = some (vs, s₁) ∧
        Sem.wp (model c.prog w) callerG (tree vs) (fun fin _ s' => ∃ f, fin = .done f ∧ (c.Ends s args vs s₁ (.ok f) s' ∧ s'.os = s.os ∧ AllBare s'.gens ∧ kept s'.heap))
          (fun e _ s' => c.Ends s args vs s₁ (.error e) s' ∧ s'.os = s.os ∧ AllBare s'.gens ∧ kept s'.heap) default s₁) :
    c.CallFrom (fun vs => ⟨tree vs, .builtin "claim.caller" {}, default, []⟩) w free gens kept s := by
  intro args hpre hlay ord hord
  obtain ⟨vs, s₁, hlaid, hcode⟩ := hspec args hpre hlay ord hord
  have hal := layAllW_rest _ _ _ hlaid
  obtain ⟨k, r, s', s'', hrun, hsched, hfo, hcase, hos, hkp⟩ := thread_endsS (prog := c.prog) (w := w) (t := tree vs) (s := s₁)
    (R := fun r s' => c.Ends s args vs s₁ r s' ∧ s'.os = s.os ∧ kept s'.heap)
    (Shared.asleep_of_life hal.2.2.2 hz)
    (Sem.wp_mono _ _ _ (by
      rintro fin p' s' ⟨f, e, h1, h2, h3, h4⟩
      exact ⟨f, e, ⟨h1, h2, h4⟩, leftWithCleanup_false_of_bare h3⟩) (by
      rintro e p' s' ⟨h1, h2, h3, h4⟩
      exact ⟨⟨h1, h2, h4⟩, leftWithCleanup_false_of_bare h3⟩) _ _ hcode)
  obtain ⟨eh, _, _, eo, _⟩ := Shared.forget_eq hfo
  have hcase := hcase.congr eh
  have hkp : kept s'.heap := by rw [eh]; exact hkp
  rw [← eo] at hos
  have hlife : s'.heap.life = s.heap.life := (runN_life _ _ _ hrun).trans hal.2.2.2
  refine ⟨vs, s₁, hlaid, k, _, s', hsched, ?_, (fun _ i x hx => by rw [hgens] at hx; simp at hx), hkp, by rw [hlife], Shared.rest_eq hos⟩
  rcases hcase with ⟨v, rfl, d1, d2, d3, d4, d5⟩ | ⟨e, ob, cls, rfl, d1, d2, d3, d4, d5⟩
  · exact .inl ⟨v, rfl, d1, d2, d3, fun b o y _ => d4 b o y, d5⟩
  · exact .inr ⟨e, ob, cls, rfl, d1, d2, d3, d4, fun b o y _ => d5 b o y⟩

/-- what is left of the head: the call, from the one place alone -/
abbrev WalkS (q : Program) (loose : List Str) (XP : (Str → Option Value) → Heap → Prop) (YP : World → Heap → Prop) (r : RowW) (d : DefRec) (kwd : List (Str × Expr)) (run : Value → List Value → Sem Value) : Prop :=
  ∀ (w : World) (s₀ s₁ : Shared) (mg mb : Str → Option Value), Ground q loose r.records XP w s₀ mg mb s₁.heap → YP w s₁.heap → ∀ (a : Addr) (o : Obj) (pm cd doc dV kV : Value), s₁.heap.get? a = some o →
    o.data = .func { docDef d.name d.params d.body d.scope pm cd doc with defaults := dV, kwdefaults := kV } → s₁.heap.CodeRec cd d.name → Dflts mg s₁.heap d.params kwd dV kV → mg d.name = some (.ref a) → s₁.gens = #[] →
    ∀ (args : List WData) (vals : List Value) (as : List Addr), r.claim.pre args = true → WData.layableAll args = true → ReadsAllW r.records (classAt s₀.heap) s₁.heap vals args as → WellAll w.params s₁.heap vals args → (∀ a ∈ as, (a == sysModules) = false) →
      ∀ p, Sem.wp (model r.prog w) callerG (run (.ref a) vals) (fun v _ s' => GoodWG r.claim (classAt s₀.heap) (ExcName.means s₀.heap) args s₁ (.ok (.ret v)) s')
        (fun e _ s' => GoodWG r.claim (classAt s₀.heap) (ExcName.means s₀.heap) args s₁ (.error e) s') p s₁

theorem PySem.W.holds_open {r : OpenRow} {q : Program} {loose : List Str} {Xt : Shared → Bool} {XP : (Str → Option Value) → Heap → Prop} {α : Type} {Yf : Shared → α} {Ya : World → α} {YP : World → Heap → Prop} {d : DefRec} {kwd : List (Str × Expr)} {N : Nat}
    (left : LeftO r.prog q loose Xt Yf Ya N) (hY : ∀ w s, Yf s = Ya w → YP w s.heap) (hYk : ∀ w h h', YP w h → (∀ b o, h.get? b = some o → h'.get? b = some o) → YP w h')
    (hX : ∀ s, Xt s = true → XP (s.heap.nsMap mainGlobals) s.heap) (hXk : ∀ mg h h', XP mg h → (∀ b o, h.get? b = some o → h'.get? b = some o) → XP mg h')
    (hdef : defOf q r.name = some (d, kwd)) (hp : r.prog.theDef r.name = some (d.params, d.body, d.scope)) (hk : kwWritten? d.params.kwonlyargs d.params.kw_defaults = some kwd) (hRf : ∀ s, Xt s = true → RecFacts r.records s.heap) (hwr : (!r.writes || r.records.isEmpty) = true)
    (k1 : r.wellSaid = true) (ok : (chainsOk q && opensWell r.prog && (frees r.toRowW && r.within.isEmpty)) = true) (hb : r.prog.bare) (hw : r.toRowW.promised)
    (call : WalkS q loose XP YP r.toRowW d kwd fun f vs => PySem.call f vs) : r.Holds := by
  refine ⟨k1, hw, ?_⟩
  obtain ⟨ok, k5⟩ := Bool.and_eq_true_iff.mp ok
  obtain ⟨hch, o1⟩ := Bool.and_eq_true_iff.mp ok
  obtain ⟨k5, k6⟩ := Bool.and_eq_true_iff.mp k5
  obtain ⟨hsame, hu, ha, hap, hm⟩ := frees_parts k5
  refine ⟨⟨hb, o1, by show r.makers.map _ = []; rw [hm]; rfl⟩, hw.witness, fun w => ⟨(left.behind hX hch w).1, fun s' hs' => ?_⟩⟩
  obtain ⟨s₀, hf, hg0, s, hT, hz, hgens, hg, G00, y⟩ := (left.behind (XP := fun mg h => XP mg h ∧ RecFacts r.records h) (fun s hs => ⟨hX s hs, hRf s hs⟩) hch w).2 s' hs'
  have G0 : Ground q loose [] XP w s (s.heap.nsMap mainGlobals) (s.heap.nsMap builtinsNs) s.heap := ⟨G00.T, G00.B, G00.D, G00.TE, G00.TD, G00.W, G00.X.1, G00.cls, G00.has, G00.apart, G00.once, G00.K⟩
  have RF := G00.X.2
  refine ⟨s₀, hf, hg0, s, hT, (fun n hn => by
    obtain rfl : n = r.name := by split at hn <;> simp_all
    exact pinned_of_view hg G0 hdef hp hk), RF.1, RF.2.1, ?_⟩
  have hgens : s.gens = #[] := Array.eq_empty_of_size_eq_zero (beq_iff_eq.mp hgens)
  have G : Ground q loose r.records XP w s _ _ s.heap := RF.ground G0
  refine callFrom_S (c := r.claim) hz hgens fun args hpre hlay ord hord => ?_
  obtain ⟨⟨vs, s₁⟩, hlaid⟩ := Option.isSome_iff_exists.mp (layAllW_isSome (P := w.params) (ord := ord) G.has args r.args s (pre_splitW hpre).1)
  have keeps := layAllW_keeps _ _ _ hlaid
  have hal := layAllW_rest _ _ _ hlaid
  obtain ⟨as, hrd, hin, hold⟩ := reads_layAllW hord _ _ _ hlaid hlay s₁.heap (fun _ _ e => e)
  have L : Laid r.records w s s₁ args vs as := ⟨⟨ord, hord, hlaid⟩, hrd, hin, hold, keeps, hal.1.trans hgens, hal.2.2.1⟩
  have G₁ := G.keeps hXk keeps
  obtain ⟨a, o, pm, cd, doc, dV, kV, h1, h2, h3, h4, h5⟩ := G₁.fn hdef
  have h := call w s s₁ _ _ G₁ (hYk _ _ _ (hY w s y) keeps) a o pm cd doc dV kV h2 h3 h4 h5 (defOf_name hdef ▸ h1) L.gens args vs as hpre hlay L.reads L.well (L.low G.low) default
  have hi := ident_freeW hu ha hap
  have hwi : r.claim.within = [] := List.isEmpty_iff.mp k6
  refine ⟨vs, s₁, hlaid, ?_⟩
  show Sem.wp _ callerG (nsGet mainNs r.name >>= fun x => match x with
      | some f => do ret (← PySem.call f vs)
      | none => unsupported "claim.caller:no-such-global") _ _ default s₁
  rw [Sem.wp_bind']
  refine (wpAny_nsGet (M := model r.prog w) (A := callerA) (E := fun _ _ => False) (Q := fun x s' => x = some (.ref a) ∧ s' = s₁) G₁.T.g ⟨h1, rfl⟩ callerG default caller_in |> fun z => Sem.wp_mono _ _ _ ?_ (fun _ _ _ x => x.elim) _ _ z)
  rintro x p' s'' ⟨rfl, rfl⟩
  dsimp only
  rw [Sem.wp_bind']
  have h' := call w s s'' _ _ G₁ (hYk _ _ _ (hY w s y) keeps) a o pm cd doc dV kV h2 h3 h4 h5 (defOf_name hdef ▸ h1) L.gens args vs as hpre hlay L.reads L.well (L.low G.low) p'
  refine Sem.wp_mono _ _ _ (fun v p₂ s₂ g => ?_) (fun e p₂ s₂ g => ?_) _ _ h'
  · exact ⟨_, rfl, have z := g.laid (c := r.claim) hsame hwi hi L; ⟨z.1, z.2.1, z.2.2, fun q => ⟨namesKept_of hT hg _ keeps g.2.1.old, noTable hwr q⟩⟩⟩
  · exact have z := g.laid (c := r.claim) hsame hwi hi L; ⟨z.1, z.2.1, z.2.2, fun q => ⟨namesKept_of hT hg _ keeps g.2.1.old, noTable hwr q⟩⟩

set_option maxRecDepth 100000 in
set_option maxHeartbeats 8000000 in
open_top hd for PySem.Challenge.rw_ny0011_01
end Mine
end

/-! part NyOps -/
section
open PySem PySem.W PyProof.Rows
namespace Mine
open PySem PySem.W PySem.Calls PyProof.Rows PySem.Spec

/-- what a def of two ints does, from any frame: the value is f x y, nothing else is turned -/
def OpC (prog : Program) (w : World) (p : Program) (loose : List Str) (mean : ExcName → Option Value) (mg mb : Str → Option Value) (fa : Addr) (f : Int → Int → Int) (pre : Int → Prop) : Prop :=
  ∀ (dp un : Nat) (gd : Option (List Code)) (cn : Str) (cs : Scope) (a : Addr) (ccd : Value) (cl : List (Str × Addr)) (outer : List Env) (A₀ : Around) (base h₀ : Heap) (L : Addr) (m : Str → Option Value) (news : List (Addr × Obj)) (s : Shared) (Q E : Value → Shared → Prop) (x : Int) (tx : Tok) (y : Int) (ty : Tok),
    Below A₀ base outer h₀ → Fr h₀ L s.heap m → (Mine.hd.heap_39 w.params).In h₀ → News h₀ L s.heap news → Top p loose mean mg mb h₀ → cs.kind = .function → pre y → dp + 2 < recursionLimit → un + 16 < cLine →
    (∀ (t : Tok) (h' : Heap) (tk' : Nat), Fr h₀ L h' m → News h₀ L h' news → Q (.int (f x y) t) { s with heap := h', toks := tk' }) →
    wpAny (model prog w) (ktrTop dp un gd cn cs L a ccd cl outer) (call (.ref fa) [.int x tx, .int y ty]) Q E s

def gI (a b : Int) : Int := if b < a then a else b

section
variable {prog p : Program} {w : World} {loose : List Str} {mean : ExcName → Option Value} {mg mb : Str → Option Value}

set_option maxRecDepth 100000 in
set_option maxHeartbeats 8000000 in
theorem op_add : OpC prog w p loose mean mg mb 35 (fun x y => x + y) (fun _ => True) := by
  have kf : PySem.Challenge.rw_ny0011_01.prog = PySem.Challenge.rw_ny0011_01.prog ∧ Mine.hd.heap_39 = Mine.hd.heap_39 := by k_fill; exact ⟨rfl, rfl⟩
  clear kf
  w_on
  w_top on
  intro dp un gd cn cs a ccd cl outer A₀ base h₀ L m news s Q E x tx y ty B F X N T hk hy hd hu hret
  refine wpAny_call ?_
  k_dflt cell_enter
  k_steps
  all_goals exact hret _ _ _ (by assumption) (by assumption)

set_option maxRecDepth 100000 in
set_option maxHeartbeats 8000000 in
theorem op_mul : OpC prog w p loose mean mg mb 49 (fun x y => x * y) (fun y => 0 ≤ y ∧ y ≤ 15) := by
  w_on
  w_top on
  intro dp un gd cn cs a ccd cl outer A₀ base h₀ L m news s Q E x tx y ty B F X N T hk hy hd hu hret
  obtain ⟨hy0, hy1⟩ := hy
  refine wpAny_call ?_
  k_dflt cell_enter
  k_steps
  all_goals exact hret _ _ _ (by assumption) (by assumption)

set_option maxRecDepth 100000 in
set_option maxHeartbeats 8000000 in
theorem op_and : OpC prog w p loose mean mg mb 42 (fun x y => Builtin.bitAnd x y) (fun _ => True) := by
  w_on
  w_top on
  intro dp un gd cn cs a ccd cl outer A₀ base h₀ L m news s Q E x tx y ty B F X N T hk hy hd hu hret
  refine wpAny_call ?_
  k_dflt cell_enter
  k_steps
  all_goals exact hret _ _ _ (by assumption) (by assumption)

set_option maxRecDepth 100000 in
set_option maxHeartbeats 8000000 in
theorem op_or : OpC prog w p loose mean mg mb 56 (fun x y => Builtin.bitOr x y) (fun _ => True) := by
  w_on
  w_top on
  intro dp un gd cn cs a ccd cl outer A₀ base h₀ L m news s Q E x tx y ty B F X N T hk hy hd hu hret
  refine wpAny_call ?_
  k_dflt cell_enter
  k_steps
  all_goals exact hret _ _ _ (by assumption) (by assumption)

set_option maxRecDepth 100000 in
set_option maxHeartbeats 8000000 in
theorem op_xor : OpC prog w p loose mean mg mb 63 (fun x y => Builtin.bitXor x y) (fun _ => True) := by
  w_on
  w_top on
  intro dp un gd cn cs a ccd cl outer A₀ base h₀ L m news s Q E x tx y ty B F X N T hk hy hd hu hret
  refine wpAny_call ?_
  k_dflt cell_enter
  k_steps
  all_goals exact hret _ _ _ (by assumption) (by assumption)

local macro_rules | `(tactic| walk_at "call ref") => `(tactic| (k_here; (refine wpAny_call ?_); k_dflt (refine' code_def ?k1 ?k2 ?k3 ?k4 ?k5 ?kA ?kF ?kK ?k6 ?k7 ?k8 ?k9 ?kB ?_ ?c2 ?c3 ?c4 ?c5; (case kA => exact rfl); (case kF => exact rfl); (case kK => first | exact rfl | assumption); (case k1 => k_asm); (case k2 => k_asm); (case k3 => k_asm); (case k4 => k_asm); (case k5 => k_asm); (case k6 => k_is); (case k7 => k_is); (case k8 => ktr_room); (case k9 => exact BindsTo.of_eq rfl); (case c5 => decide); (case kB => exact locs rfl); (case c2 => exact rfl); (case c3 => exact rfl); (case c4 => exact rfl); k_whole; intro g' L' h' FG' F' N' B' X' T'; (try dsimp only); (try k_lift B'); (try k_fold))))
set_option maxRecDepth 100000 in
set_option maxHeartbeats 8000000 in
theorem op_greater : OpC prog w p loose mean mg mb 70 gI (fun _ => True) := by
  w_on
  w_top on
  intro dp un gd cn cs a ccd cl outer A₀ base h₀ L m news s Q E x tx y ty B F X N T hk hy hd hu hret
  refine wpAny_call ?_
  k_dflt cell_enter
  k_steps
  · have e : gI x y = x := if_pos (by assumption)
    rw [e] at hret
    exact hret _ _ _ (by assumption) (by assumption)
  · have e : gI x y = y := if_neg (by assumption)
    rw [e] at hret
    exact hret _ _ _ (by assumption) (by assumption)
end
end Mine
end

/-! part NyProd -/
section
open PySem PySem.W PyProof.Rows
namespace Mine
open PySem PySem.W PySem.Calls PyProof.Rows PySem.Spec

/-- a table of two rows of two numbers -/
structure Tab where
  a : Int
  b : Int
  c : Int
  d : Int

def Tab.prod (f g : Int → Int → Int) (x y : Tab) : Tab :=
  ⟨f (g x.a y.a) (g x.b y.c), f (g x.a y.b) (g x.b y.d), f (g x.c y.a) (g x.d y.c), f (g x.c y.b) (g x.d y.d)⟩

/-- the object is a list that bears the table -/
def TabObj (o : Obj) (x : Tab) : Prop := ∃ (t1 t2 t3 t4 : Tok) (n : Nat), o = listOf #[.int x.a t1, .int x.b t2, .int x.c t3, .int x.d t4] n
/-- the list at l bears the table -/
def TabAt (news : List (Addr × Obj)) (l : Addr) (x : Tab) : Prop := ∃ o, TabObj o x ∧ (l, o) ∈ news
theorem TabAt.mono {news nx : List (Addr × Obj)} {l : Addr} {X : Tab} (h : TabAt news l X) (hs : ∀ p ∈ news, p ∈ nx) : TabAt nx l X :=
  let ⟨o, ho, hm⟩ := h
  ⟨o, ho, hs _ hm⟩

section
variable {prog p : Program} {w : World} {loose : List Str} {mean : ExcName → Option Value} {mg mb : Str → Option Value}

theorem opC_use {fa : Addr} {fn : Int → Int → Int} {pre : Int → Prop} {dp un : Nat} {gd : Option (List Code)} {cn : Str} {cs : Scope} {a : Addr} {ccd : Value} {cl : List (Str × Addr)} {outer : List Env} {A₀ : Around} {base h₀ : Heap} {L : Addr} {m : Str → Option Value} {news : List (Addr × Obj)} {s : Shared} {Q E : Value → Shared → Prop} {x : Int} {tx : Tok} {y : Int} {ty : Tok}
    (O : OpC prog w p loose mean mg mb fa fn pre) (B : Below A₀ base outer h₀) (F : Fr h₀ L s.heap m) (X : (Mine.hd.heap_39 w.params).In h₀) (N : News h₀ L s.heap news) (T : Top p loose mean mg mb h₀) (hk : cs.kind = .function) (hp : pre y)
    (hd : dp + 2 < recursionLimit) (hu : un + 16 < cLine)
    (ret : ∀ (t : Tok) (h' : Heap) (tk' : Nat), Fr h₀ L h' m → News h₀ L h' news → Q (.int (fn x y) t) { s with heap := h', toks := tk' }) :
    wpAny (model prog w) (ktrTop dp un gd cn cs L a ccd cl outer) (call (.ref fa) [.int x tx, .int y ty]) Q E s :=
  O _ _ _ _ _ _ _ _ _ _ _ _ _ _ _ _ _ _ _ _ _ _ B F X N T hk hp hd hu ret

theorem allLt_to {d : Addr} {l : List (Addr × Obj)} (h : AllLt d l) : ∀ p ∈ l, p.1 < d := by
  induction l with
  | nil => intro p hp; cases hp
  | cons q r ih =>
    intro p hp
    rcases List.mem_cons.mp hp with e | e
    · rw [e]; exact h.1
    · exact ih h.2 p e

local macro_rules | `(tactic| walk_at "callWith ref") => `(tactic| (k_here; k_dflt (refine' callWith_K ?k1 ?k2 ?_; (case k1 => k_asm); (case k2 => assumption); k_whole)))
local macro_rules | `(tactic| walk_at "call ref") => `(tactic| (k_here; k_dflt (refine' opC_use ?O ?k1 ?k2 ?k3 ?k4 ?k5 ?kK ?kp ?kd ?ku ?_; (case O => assumption); (case k1 => k_asm); (case k2 => k_asm); (case k3 => k_asm); (case k4 => k_asm); (case k5 => k_asm); (case kK => first | exact rfl | assumption); (case kp => first | assumption | exact trivial); (case kd => ktr_room); (case ku => ktr_units); k_whole; intro t9 h9 tk9 F9 N9; (try dsimp only); (try k_sweep))))

set_option maxRecDepth 100000 in
set_option maxHeartbeats 8000000 in
theorem prod_call {dp un : Nat} {gd : Option (List Code)} {cn : Str} {cs : Scope} {a' : Addr} {ccd : Value} {cl : List (Str × Addr)} {outer : List Env}
    {A₀ : Around} {base h₀ : Heap} {L : Addr} {m : Str → Option Value} {news : List (Addr × Obj)} {s : Shared} {Q E : Value → Shared → Prop}
    {l1 l2 fp fb : Addr} {n1 n2 : Nat} {a b c d e f g h : Int} {ta tb tc td te tf tg th : Tok} {plus by' : Int → Int → Int} {pre : Int → Prop}
    (O1 : OpC prog w p loose mean mg mb fp plus (fun _ => True)) (O2 : OpC prog w p loose mean mg mb fb by' pre) (hkp : keepIn (Mine.hd.heap_39 w.params) (.ref fp) = true) (hkb : keepIn (Mine.hd.heap_39 w.params) (.ref fb) = true)
    (B : Below A₀ base outer h₀) (F : Fr h₀ L s.heap m) (X : (Mine.hd.heap_39 w.params).In h₀) (N : News h₀ L s.heap news) (T : Top p loose mean mg mb h₀) (hk : cs.kind = .function)
    (m1 : (l1, listOf #[.int a ta, .int b tb, .int c tc, .int d td] n1) ∈ news) (m2 : (l2, listOf #[.int e te, .int f tf, .int g tg, .int h th] n2) ∈ news)
    (pe : pre e) (pf : pre f) (pg : pre g) (ph : pre h)
    (hd : dp + 4 < recursionLimit) (hu : un + 24 < cLine)
    (ret : ∀ l h' tk' t1 t2 t3 t4 n, Fr h₀ L h' m → News h₀ L h' ((l, listOf #[.int (plus (by' a e) (by' b g)) t1, .int (plus (by' a f) (by' b h)) t2, .int (plus (by' c e) (by' d g)) t3, .int (plus (by' c f) (by' d h)) t4] n) :: news) → (∀ p ∈ news, p.1 < l) → Q (.ref l) { s with heap := h', toks := tk' }) :
    wpAny (model prog w) (ktrTop dp un gd cn cs L a' ccd cl outer) (call (.ref 77) [.ref l1, .ref l2, .ref fp, .ref fb]) Q E s := by
  have kf : PySem.Challenge.rw_ny0011_01.prog = PySem.Challenge.rw_ny0011_01.prog ∧ Mine.hd.heap_39 = Mine.hd.heap_39 := by k_fill; exact ⟨rfl, rfl⟩
  clear kf
  w_on
  w_top on
  refine wpAny_call ?_
  k_dflt cell_enter
  k_steps
  rename News _ _ _ _ => N9
  rename Fr _ _ _ _ => F9
  rename (_ < _ ∧ _ < _ ∧ AllLt _ news) => hlt
  exact ret _ _ _ _ _ _ _ _ F9 (cb_drop N9 fun p hp => (List.mem_cons.mp hp).elim (fun e => e ▸ .head _) fun e => .tail _ (.tail _ (.tail _ e))) (allLt_to hlt.2.2)
end
end Mine
end

/-! part NyRead -/
section
open PySem PySem.W PyProof.Rows
namespace Mine
open PySem PySem.W PySem.Calls PyProof.Rows PySem.Spec

section
variable {prog : Program} {w : World} {A : Around} {E : Value → Shared → Prop} {s : Shared} {env : Env} {h₀ : Heap} {x y : Str} {body : List Stmt} {Q : Flow → Shared → Prop} {b : Array UInt8} {tb : Tok} {ks : List Int}
  {m₀ : Str → Option Value} {news : List (Addr × Obj)}

/-- a turn's end: one name holds another value, the ledger may have grown -/
def TurnEnd (h₀ : Heap) (L : Addr) (x y : Str) (m₀ : Str → Option Value) (own : List (Addr × Obj)) (J : Value → List (Addr × Obj) → Prop) (s₁ : Shared) (Q : Flow → Shared → Prop) (f : Flow) (s₂ : Shared) : Prop :=
  match f with
  | .ret v => Q (.ret v) s₂
  | .brk => Q .next s₂
  | _ => ∃ h' tk' m' nx v, s₂ = { s₁ with heap := h', toks := tk' } ∧ Fr h₀ L h' m' ∧ News h₀ L h' (own ++ nx) ∧ (∀ p ∈ nx, ∀ q ∈ own, p.1 ≠ q.1) ∧ m' y = some v ∧ (∀ z, z ≠ x → z ≠ y → m' z = m₀ z) ∧ J v nx

theorem iterBytes_led (J : List Int → Value → List (Addr × Obj) → Prop) {v₀ : Value}
    (hk : KBw.bInts b = ks) (hh : A.handled = none) (F : Fr h₀ env.locals s.heap m₀) (N : News h₀ env.locals s.heap news) (hy : m₀ y = some v₀) (hj : J [] v₀ news)
    (turn : ∀ pre k post t v nx h tk own, ks = pre ++ k :: post → J pre v nx → (∀ p ∈ nx, ∀ q ∈ own, p.1 ≠ q.1) → Fr h₀ env.locals h (fun z => if z = x then some (.int k t) else if z = y then some v else m₀ z) → News h₀ env.locals h (own ++ nx) →
      wpAny (model prog w) A (execs body env) (TurnEnd h₀ env.locals x y m₀ own (J (pre ++ [k])) { s with heap := h, toks := tk } Q) E { s with heap := h, toks := tk })
    (done : ∀ (u : Str → Option Value) v nx h tk, J ks v nx → Fr h₀ env.locals h (fun z => if z = x then u z else if z = y then some v else m₀ z) → News h₀ env.locals h nx → Q .next { s with heap := h, toks := tk }) :
    wpAny (model prog w) A (pyIter (.bytes b tb)) (fun it s₂ => LoopAtV prog w A h₀ env x body Q E it s₂) E s := by
  subst hk
  refine KBw.pyIter_bytes ?_
  have W := KBw.walks (prog := prog) (w := w) hh s.heap.objs.size b tb
  refine ⟨_, _, _, _, _, _, m₀, news, fun i m₁ nx => ∃ v, m₁ y = some v ∧ (∀ z, z ≠ x → z ≠ y → m₁ z = m₀ z) ∧ J ((KBw.bInts b).take i) v nx, rfl, W, ?_, ?_, ?_, ⟨_, Heap.get?_push_size _ rfl, rfl, rfl⟩, F.push _, (fun p hp => ⟨Heap.get?_push_of_some _ (N p hp).1, (N p hp).2⟩), ⟨v₀, hy, fun _ _ _ => rfl, by simpa using hj⟩, ?_, ?_⟩
  · intro hm
    exact absurd F.ns.lt ((List.mem_singleton.mp hm) ▸ Nat.lt_irrefl _)
  · intro b' hb
    rw [List.mem_singleton.mp hb]
    exact next_is_new F
  · intro p hp hI
    exact absurd (Heap.lt_size (N p hp).1) ((List.mem_singleton.mp hI) ▸ Nat.lt_irrefl _)
  · rintro i v m₁ nx s₁ own ⟨h, tk, rfl⟩ hi ⟨c, u, hc, rfl⟩ ⟨v', hv', hm', hJ⟩ hoff hown hown2 hown3 _ F₁ N₁
    have hn' := KBw.ints_get hc
    have hs : (KBw.bInts b).take (i + 1) = (KBw.bInts b).take i ++ [(c.toNat : Int)] := by simp [List.take_add_one, hn']
    have e : KBw.bInts b = (KBw.bInts b).take i ++ (c.toNat : Int) :: (KBw.bInts b).drop (i + 1) := by
      have ht := List.take_append_drop (i + 1) (KBw.bInts b)
      rw [hs, List.append_assoc] at ht
      exact ht.symm
    rw [map_one hv' hm'] at F₁
    have off : ∀ p ∈ nx, ∀ q ∈ own, p.1 ≠ q.1 := fun p hp q hq e => hoff p hp (e ▸ hown q hq)
    refine wpAny_mono (turn _ (c.toNat : Int) _ u v' nx h tk own e hJ off F₁ N₁) (fun f s₂ hf => ?_) fun _ _ e => e
    have fin : (∃ h' tk' m' nx' v, s₂ = { ({ s with heap := h, toks := tk } : Shared) with heap := h', toks := tk' } ∧ Fr h₀ env.locals h' m' ∧ News h₀ env.locals h' (own ++ nx') ∧ (∀ p ∈ nx', ∀ q ∈ own, p.1 ≠ q.1) ∧ m' y = some v ∧ (∀ z, z ≠ x → z ≠ y → m' z = m₀ z) ∧ J ((KBw.bInts b).take i ++ [(c.toNat : Int)]) v nx') →
        LoopStepU h₀ env.locals [s.heap.objs.size] own (fun m₁ nx => ∃ v, m₁ y = some v ∧ (∀ z, z ≠ x → z ≠ y → m₁ z = m₀ z) ∧ J ((KBw.bInts b).take (i + 1)) v nx) { s with heap := h, toks := tk } .next s₂ := by
      rintro ⟨h', tk', m', nx', v, rfl, F', N', off', hv, hm, hJ'⟩
      refine ⟨rfl, h', tk', m', nx', rfl, F', N', fun p hp hI => ?_, v, hv, hm, by rw [hs]; exact hJ'⟩
      obtain ⟨o, ho, -⟩ := ‹KBw.IsBytesIter _ _ _ _ _›
      have hin := hown3 s.heap.objs.size (List.mem_singleton.mpr rfl) (next_is_new F) o ho
      exact off' p hp _ hin (List.mem_singleton.mp hI)
    cases f with
    | ret v => exact .ret hf
    | brk => exact .brk hf
    | next => exact .next (fin hf)
    | cont => exact .cont (fin hf)
  · rintro h' tk m' nx F' N' _ ⟨v, hv, hm, hJ⟩
    have hb : b.size = (KBw.bInts b).length := (KBw.ints_length b).symm
    rw [hb, List.take_length] at hJ
    refine done m' v nx h' tk hJ ?_ N'
    rw [done_one hv hm]
    exact F'
end

def pick (A B : Tab) (k : Int) : Tab := if k = 0 then A else B
def readFrom (f g : Int → Int → Int) (A B : Tab) (X : Tab) (ws : List Int) : Tab := ws.foldl (fun X k => Tab.prod f g X (pick A B k)) X

section
variable {prog p : Program} {w : World} {loose : List Str} {mean : ExcName → Option Value} {mg mb : Str → Option Value}

theorem item0 {A : Around} {E : Value → Shared → Prop} {s : Shared} {value slice : PySem.Expr} {b : Array UInt8} {t ui : Tok} {k : Int} {ws : List Int} {Q : Value → Shared → Prop} (hk : KBw.bInts b = k :: ws) (hfit : ws.length ≤ 100)
    (h : ∀ t' n, Q (.int k t') { s with toks := n })
    (hs : subscripted slice false (.bytes b t) (.int 0 ui) = operate [.bytes b t, .int 0 ui] (getItem (.bytes b t) (.int 0 ui)) := by with_unfolding_all rfl)
    (ht : ∀ r, letTemporaryGo value (.bytes b t) r = pure () := by intro _; with_unfolding_all rfl) : wpAny (model prog w) A (subscriptTail value slice (.bytes b t) (.int 0 ui)) Q E s :=
  KBw.item_K hk (by simp only [List.length_cons]; omega) (by decide) (by simp only [List.length_cons]; omega) (fun t' n _ _ => h t' n) hs ht

theorem item_tab {A : Around} {E : Value → Shared → Prop} {s : Shared} {value slice : PySem.Expr} {h₀ : Heap} {L lt l0 l1 : Addr} {nt : Nat} {news nx : List (Addr × Obj)} {X Y : Tab} {k : Int} {u : Tok} {Q : Value → Shared → Prop}
    (N : News h₀ L s.heap nx) (mt : (lt, listOf #[.ref l0, .ref l1] nt) ∈ nx) (hl0 : TabAt news l0 X) (hl1 : TabAt news l1 Y) (hk : k = 0 ∨ k = 1)
    (h : ∀ l, TabAt news l (pick X Y k) → Q (.ref l) s)
    (hs : subscripted slice false (.ref lt) (.int k u) = operate [.ref lt, .int k u] (getItem (.ref lt) (.int k u)) := by with_unfolding_all rfl) :
    wpAny (model prog w) A (subscriptTail value slice (.ref lt) (.int k u)) Q E s := by
  rcases hk with rfl | rfl
  · exact item_litK (vs := [.ref l0, .ref l1]) (News.isList N mt) (by decide) (by decide) rfl (h l0 hl0) hs
  · exact item_litK (vs := [.ref l0, .ref l1]) (News.isList N mt) (by decide) (by decide) rfl (h l1 hl1) hs

theorem prod_use {dp un : Nat} {gd : Option (List Code)} {cn : Str} {cs : Scope} {a' : Addr} {ccd : Value} {cl : List (Str × Addr)} {outer : List Env}
    {A₀ : Around} {base h₀ : Heap} {L : Addr} {m : Str → Option Value} {news : List (Addr × Obj)} {s : Shared} {Q E : Value → Shared → Prop}
    {l1 l2 fp fb : Addr} {plus by' : Int → Int → Int} {pre : Int → Prop} {X Y : Tab}
    (O1 : OpC prog w p loose mean mg mb fp plus (fun _ => True)) (O2 : OpC prog w p loose mean mg mb fb by' pre) (hkp : keepIn (Mine.hd.heap_39 w.params) (.ref fp) = true) (hkb : keepIn (Mine.hd.heap_39 w.params) (.ref fb) = true)
    (B : Below A₀ base outer h₀) (F : Fr h₀ L s.heap m) (XK : (Mine.hd.heap_39 w.params).In h₀) (N : News h₀ L s.heap news) (T : Top p loose mean mg mb h₀) (hk : cs.kind = .function)
    (m1 : TabAt news l1 X) (m2 : TabAt news l2 Y) (py : pre Y.a ∧ pre Y.b ∧ pre Y.c ∧ pre Y.d)
    (hd : dp + 4 < recursionLimit) (hu : un + 24 < cLine)
    (ret : ∀ l o h' tk', Fr h₀ L h' m → News h₀ L h' ((l, o) :: news) → TabObj o (Tab.prod plus by' X Y) → (∀ p ∈ news, p.1 < l) → Q (.ref l) { s with heap := h', toks := tk' }) :
    wpAny (model prog w) (ktrTop dp un gd cn cs L a' ccd cl outer) (call (.ref 77) [.ref l1, .ref l2, .ref fp, .ref fb]) Q E s := by
  obtain ⟨_, ⟨_, _, _, _, _, rfl⟩, h1⟩ := m1
  obtain ⟨_, ⟨_, _, _, _, _, rfl⟩, h2⟩ := m2
  exact prod_call O1 O2 hkp hkb B F XK N T hk h1 h2 py.1 py.2.1 py.2.2.1 py.2.2.2 hd hu fun l h' tk' t1 t2 t3 t4 n F' N' hlt => ret l _ h' tk' F' N' ⟨t1, t2, t3, t4, n, rfl⟩ hlt

local macro_rules | `(tactic| walk_at "exec For Name Subscript cons nil") => `(tactic| (k_here; (rename Fr _ _ _ _ => lF'); (with_unfolding_all refine' For_invVF lF' ?k1 ?k2 ?_; (case k1 => exact rfl); (case k2 => exact rfl); k_whole)))
set_option maxRecDepth 100000 in
set_option maxHeartbeats 8000000 in
theorem read_call {dp un : Nat} {gd : Option (List Code)} {cn : Str} {cs : Scope} {a' : Addr} {ccd : Value} {cl : List (Str × Addr)} {outer : List Env}
    {A₀ : Around} {base h₀ : Heap} {L : Addr} {m : Str → Option Value} {news : List (Addr × Obj)} {s : Shared} {Q E : Value → Shared → Prop}
    {lt l0 l1 fp fb : Addr} {nt : Nat} {wb : Array UInt8} {tb : Tok} {k0 k1 : Int} {ws : List Int} {plus by' : Int → Int → Int} {pre : Int → Prop} {X Y : Tab}
    (O1 : OpC prog w p loose mean mg mb fp plus (fun _ => True)) (O2 : OpC prog w p loose mean mg mb fb by' pre) (hkp : keepIn (Mine.hd.heap_39 w.params) (.ref fp) = true) (hkb : keepIn (Mine.hd.heap_39 w.params) (.ref fb) = true)
    (B : Below A₀ base outer h₀) (F : Fr h₀ L s.heap m) (XK : (Mine.hd.heap_39 w.params).In h₀) (N : News h₀ L s.heap news) (T : Top p loose mean mg mb h₀) (hk : cs.kind = .function)
    (mt : (lt, listOf #[.ref l0, .ref l1] nt) ∈ news) (hl0 : TabAt news l0 X) (hl1 : TabAt news l1 Y)
    (px : pre X.a ∧ pre X.b ∧ pre X.c ∧ pre X.d) (py : pre Y.a ∧ pre Y.b ∧ pre Y.c ∧ pre Y.d)
    (hw : KBw.bInts wb = k0 :: k1 :: ws) (h01 : ∀ k ∈ k0 :: k1 :: ws, k = 0 ∨ k = 1) (hlen : ws.length ≤ 90)
    (hd : dp + 5 < recursionLimit) (hu : un + 32 < cLine)
    (ret : ∀ l h' tk' nx, Fr h₀ L h' m → News h₀ L h' nx → (∀ p ∈ news, p ∈ nx) → TabAt nx l (readFrom plus by' X Y (pick X Y k0) (k1 :: ws)) → (∀ p ∈ news, p.1 < l) → Q (.ref l) { s with heap := h', toks := tk' }) :
    wpAny (model prog w) (ktrTop dp un gd cn cs L a' ccd cl outer) (call (.ref 84) [.bytes wb tb, .ref lt, .ref fp, .ref fb]) Q E s := by
  have kf : PySem.Challenge.rw_ny0011_01.prog = PySem.Challenge.rw_ny0011_01.prog ∧ Mine.hd.heap_39 = Mine.hd.heap_39 := by k_fill; exact ⟨rfl, rfl⟩
  clear kf
  w_on
  w_top on
  refine wpAny_call ?_
  k_dflt cell_enter
  k_steps
  refine item0 hw (by simp only [List.length_cons]; omega) ?_
  intro t9 n9
  (rename News _ _ _ _ => N9)
  refine item_tab N9 mt hl0 hl1 (h01 k0 (.head _)) ?_
  intro l9 hl9
  k_steps
  have hcut : KBw.bInts (KBy.picked wb (some 1) none) = k1 :: ws := by
    have e1 : (max 0 (min 1 ((ws.length : Int) + 1 + 1))).toNat = 1 := by omega
    rw [KBc.ints_picked hw]
    simp [clipAt, e1]
  (rename News _ _ _ _ => N8)
  (rename Fr _ _ _ _ => F8)
  refine iterBytes_led (y := Str.ofString "whole") (fun pr v nx => ∃ l, v = .ref l ∧ TabAt nx l (readFrom plus by' X Y (pick X Y k0) pr) ∧ (∀ p ∈ news, p ∈ nx) ∧ (pr ≠ [] → ∀ p ∈ news, p.1 < l)) hcut rfl F8 N8 rfl ⟨l9, rfl, hl9, fun _ h => h, fun h => absurd rfl h⟩ ?_ ?_
  · rintro pr k post t v nx h tk own hks ⟨l, rfl, hl, hsub, hnew⟩ hoff F7 N7
    k_steps
    refine item_tab N7 (List.mem_append_right own (hsub _ mt)) hl0 hl1 (h01 k (.tail _ (hks ▸ List.mem_append_right pr (.head _)))) ?_
    intro l7 hl7
    k_steps
    have py7 : pre (pick X Y k).a ∧ pre (pick X Y k).b ∧ pre (pick X Y k).c ∧ pre (pick X Y k).d := by
      unfold pick
      split
      · exact px
      · exact py
    k_dflt (refine' prod_use O1 O2 hkp hkb ?k1 ?k2 ?k3 ?k4 ?k5 ?kK ?m1 ?m2 py7 ?kd ?ku ?_; (case k1 => k_asm); (case k2 => k_asm); (case k3 => k_asm); (case k4 => k_asm); (case k5 => k_asm); (case kK => exact rfl); (case m1 => exact hl.mono fun p hp => List.mem_append_right own hp); (case m2 => exact hl7.mono fun p hp => List.mem_append_right own (hsub p hp)); (case kd => ktr_room); (case ku => ktr_units))
    intro l6 o6 h6 tk6 F6 N6 ht6 hlt6
    k_steps
    (rename News _ _ _ _ => N5)
    (rename Fr _ _ _ _ => F5)
    refine ⟨_, _, _, (l6, o6) :: nx, .ref l6, rfl, F5, cb_drop N5 fun p hp => ?_, fun p hp q hq => ?_, rfl, fun z h1 h2 => by simp [h1, h2], l6, rfl, ⟨o6, ?_, .head _⟩, fun p hp => .tail _ (hsub p hp), fun _ p hp => hlt6 p (List.mem_append_right own (hsub p hp))⟩
    · rcases List.mem_append.mp hp with h | h
      · exact .tail _ (List.mem_append_left _ h)
      · rcases List.mem_cons.mp h with h | h
        · rw [h]; exact .head _
        · exact .tail _ (List.mem_append_right _ h)
    · rcases List.mem_cons.mp hp with h | h
      · rw [h]; exact (Nat.ne_of_lt (hlt6 q (List.mem_append_left _ hq))).symm
      · exact hoff p h q hq
    · unfold readFrom at ht6 ⊢
      rw [List.foldl_append]
      exact ht6
  · rintro u v nx h tk ⟨l, rfl, hl, hsub, hnew⟩ F7 N7
    k_steps
    (rename News _ _ _ _ => N6)
    (rename Fr _ _ _ _ => F6)
    exact ret l _ _ nx F6 N6 hsub hl (hnew (by simp))
end
end Mine
end

/-! part NyLoop4 -/
section
open PySem PySem.W PyProof.Rows
namespace Mine
open PySem PySem.W PySem.Calls PyProof.Rows PySem.Spec

/-- the four numbers of a word's telling -/
structure Four where
  x : Int
  y : Int
  z : Int
  u : Int

section
variable {prog : Program} {w : World} {A : Around} {E : Value → Shared → Prop} {s : Shared} {env : Env} {h₀ : Heap} {x y1 y2 y3 : Str} {body : List Stmt} {Q : Flow → Shared → Prop} {b : Array UInt8} {tb : Tok} {ks : List Int}
  {m₀ m₁ : Str → Option Value}

theorem map_three {u : Option Value} {v1 v2 v3 : Value} (h1 : m₁ y1 = some v1) (h2 : m₁ y2 = some v2) (h3 : m₁ y3 = some v3) (hm : ∀ z, z ≠ x → z ≠ y1 → z ≠ y2 → z ≠ y3 → m₁ z = m₀ z) :
    (fun z => if z = x then u else m₁ z) = fun z => if z = x then u else if z = y1 then some v1 else if z = y2 then some v2 else if z = y3 then some v3 else m₀ z := by
  funext z
  by_cases e0 : z = x
  · simp [e0]
  · simp only [if_neg e0]
    by_cases e1 : z = y1
    · subst e1; simp [h1]
    · simp only [if_neg e1]
      by_cases e2 : z = y2
      · subst e2; simp [h2]
      · simp only [if_neg e2]
        by_cases e3 : z = y3
        · subst e3; simp [h3]
        · simp only [if_neg e3]; exact hm z e0 e1 e2 e3
theorem done_three {v1 v2 v3 : Value} (h1 : m₁ y1 = some v1) (h2 : m₁ y2 = some v2) (h3 : m₁ y3 = some v3) (hm : ∀ z, z ≠ x → z ≠ y1 → z ≠ y2 → z ≠ y3 → m₁ z = m₀ z) :
    m₁ = fun z => if z = x then m₁ z else if z = y1 then some v1 else if z = y2 then some v2 else if z = y3 then some v3 else m₀ z := by
  funext z
  by_cases e0 : z = x
  · simp [e0]
  · simp only [if_neg e0]
    by_cases e1 : z = y1
    · subst e1; simp [h1]
    · simp only [if_neg e1]
      by_cases e2 : z = y2
      · subst e2; simp [h2]
      · simp only [if_neg e2]
        by_cases e3 : z = y3
        · subst e3; simp [h3]
        · simp only [if_neg e3]; exact hm z e0 e1 e2 e3

/-- what holds between the turns: three names and a cell -/
def FourAt (x y1 y2 y3 : Str) (m₀ : Str → Option Value) (led : Obj → List (Addr × Obj)) (S : Four) (m : Str → Option Value) (nx : List (Addr × Obj)) : Prop :=
  ∃ o t1 t2 t3 t4, nx = led o ∧ o.data = .cell (some (.int S.u t4)) ∧ m y1 = some (.int S.x t1) ∧ m y2 = some (.int S.y t2) ∧ m y3 = some (.int S.z t3) ∧ ∀ z, z ≠ x → z ≠ y1 → z ≠ y2 → z ≠ y3 → m z = m₀ z

theorem iterBytes_four (led : Obj → List (Addr × Obj)) {o₀ : Obj} (St : List Int → Four) {t1 t2 t3 t4 : Tok}
    (hk : KBw.bInts b = ks) (hh : A.handled = none) (F : Fr h₀ env.locals s.heap m₀) (N : News h₀ env.locals s.heap (led o₀))
    (h4 : o₀.data = .cell (some (.int (St []).u t4))) (h1 : m₀ y1 = some (.int (St []).x t1)) (h2 : m₀ y2 = some (.int (St []).y t2)) (h3 : m₀ y3 = some (.int (St []).z t3))
    (turn : ∀ pre k post t t1 t2 t3 t4 o h tk own, ks = pre ++ k :: post → OwnOff own ((led o₀).map (·.1)) → o.data = .cell (some (.int (St pre).u t4)) →
      Fr h₀ env.locals h (fun z => if z = x then some (.int k t) else if z = y1 then some (.int (St pre).x t1) else if z = y2 then some (.int (St pre).y t2) else if z = y3 then some (.int (St pre).z t3) else m₀ z) → News h₀ env.locals h (led o ++ own) →
      wpAny (model prog w) A (execs body env) (InvPostN h₀ env.locals (FourAt x y1 y2 y3 m₀ led (St (pre ++ [k]))) own ((led o₀).map (·.1)) { s with heap := h, toks := tk } Q) E { s with heap := h, toks := tk })
    (done : ∀ (u : Str → Option Value) t1 t2 t3 t4 o h tk, o.data = .cell (some (.int (St ks).u t4)) →
      Fr h₀ env.locals h (fun z => if z = x then u z else if z = y1 then some (.int (St ks).x t1) else if z = y2 then some (.int (St ks).y t2) else if z = y3 then some (.int (St ks).z t3) else m₀ z) → News h₀ env.locals h (led o) → Q .next { s with heap := h, toks := tk }) :
    wpAny (model prog w) A (pyIter (.bytes b tb)) (fun it s₂ => LoopAtV prog w A h₀ env x body Q E it s₂) E s := by
  refine KBmo.iter_bytesN (fun i m nx => FourAt x y1 y2 y3 m₀ led (St (ks.take i)) m nx) hk hh F N ⟨o₀, t1, t2, t3, t4, rfl, by simpa using h4, by simpa using h1, by simpa using h2, by simpa using h3, fun _ _ _ _ _ => rfl⟩ ?_ ?_
  · rintro i k t m₁ nx h tk own he _ _ hoff ⟨o, t1, t2, t3, t4, rfl, h4, h1, h2, h3, hm⟩ F₁ N₁
    rw [map_three h1 h2 h3 hm] at F₁
    have hs : ks.take (i + 1) = ks.take i ++ [k] := by simp [List.take_add_one, he]
    have e : ks = ks.take i ++ k :: ks.drop (i + 1) := by
      have ht := List.take_append_drop (i + 1) ks
      rw [hs, List.append_assoc] at ht
      exact ht.symm
    rw [hs]
    exact turn _ k _ t t1 t2 t3 t4 o h tk own e hoff h4 F₁ N₁
  · rintro m₁ nx h tk ⟨o, t1, t2, t3, t4, rfl, h4, h1, h2, h3, hm⟩ F₁ N₁
    rw [List.take_length] at h4 h1 h2 h3
    rw [done_three h1 h2 h3 hm] at F₁
    exact done m₁ t1 t2 t3 t4 o h tk h4 F₁ N₁
end
end Mine
end

/-! part NyFlat -/
section
open PySem PySem.W PyProof.Rows
namespace Mine
open PySem PySem.W PySem.Calls PyProof.Rows PySem.Spec

section
variable {prog : Program} {w : World} {M : Model} {A : Around} {E : Value → Shared → Prop} {hp : Heap} {g : Array GenState} {d : Drawn} {tk : Nat} {os : OsState} {a b : Int} {t u : Tok}
  {h₀ : Heap} {L a' : Addr} {m : Str → Option Value} {news : List (Addr × Obj)} {cn : Str} {cs : Scope} {ccd : Value} {cl : List (Str × Addr)} {x : Str} {v : Value} {vs : List Value}
theorem fl_const {i : Int} {k : Nat} {pos : Pos} {env : Env} {Q : Value → Shared → Prop} (h : ∀ t n, Q (.int i t) ⟨hp, g, d, n, os⟩) : wpAny M A (eval (.Constant (.int i) k pos) env) Q E ⟨hp, g, d, tk, os⟩ := wpAny_Constant_int (h _ _)
theorem fl_add {Q : Value → Shared → Prop} (h : ∀ t n, Q (.int (a + b) t) ⟨hp, g, d, n, os⟩) : wpAny (model prog w) A (binaryOp .Add (.int a t) (.int b u)) Q E ⟨hp, g, d, tk, os⟩ := PyProof.Rows.add_int (h _ _)
theorem fl_sub {Q : Value → Shared → Prop} (h : ∀ t n, Q (.int (a - b) t) ⟨hp, g, d, n, os⟩) : wpAny (model prog w) A (binaryOp .Sub (.int a t) (.int b u)) Q E ⟨hp, g, d, tk, os⟩ := PyProof.Rows.sub_int (h _ _)
theorem fl_mul {Q : Value → Shared → Prop} (hm : IntMulOk a b) (h : ∀ t n, Q (.int (a * b) t) ⟨hp, g, d, n, os⟩) : wpAny (model prog w) A (binaryOp .Mult (.int a t) (.int b u)) Q E ⟨hp, g, d, tk, os⟩ := PyProof.Rows.mul_int (h _ _) hm
theorem fl_neg {Q : Value → Shared → Prop} (h : ∀ t n, Q (.int (-a) t) ⟨hp, g, d, n, os⟩) : wpAny (model prog w) A (unaryOp .USub (.int a t)) Q E ⟨hp, g, d, tk, os⟩ := PyProof.Rows.neg_int (h _ _)
theorem fl_store {Q : Unit → Shared → Prop} (F : Fr h₀ L hp m) (N : News h₀ L hp news)
    (h : ∀ h' n, Fr h₀ L h' (fun y => if y = x then some v else m y) → News h₀ L h' news → Q () ⟨h', g, d, n, os⟩)
    (hk : cs.kind = .function) (hx : (envX cn cs L a' ccd cl).kindOf x = some .local) : wpAny M A (storeName (envX cn cs L a' ccd cl) x v) Q E ⟨hp, g, d, tk, os⟩ :=
  storeX_L F N (fun h' F' N' => h h' _ F' N') hk hx
theorem fl_tuple {Q : Value → Shared → Prop} (F : Fr h₀ L hp m) (N : News h₀ L hp news)
    (h : ∀ D h', Fr h₀ L h' m → News h₀ L h' ((D, ({ cls := .type "tuple", data := .seq vs.toArray } : Obj)) :: news) → (∀ p ∈ news, p.1 < D) → Q (.ref D) ⟨h', g, d, tk, os⟩) (hz : vs.length ≤ sizeLine) : wpAny M A (newTuple vs) Q E ⟨hp, g, d, tk, os⟩ :=
  kup_newTuple F N h hz
theorem fl_list {Q : Value → Shared → Prop} (F : Fr h₀ L hp m) (N : News h₀ L hp news)
    (h : ∀ l h', Fr h₀ L h' m → News h₀ L h' ((l, listOf vs.toArray 0) :: news) → (∀ p ∈ news, p.1 < l) → Q (.ref l) ⟨h', g, d, tk, os⟩) (hz : vs.length ≤ sizeLine) : wpAny M A (newList vs) Q E ⟨hp, g, d, tk, os⟩ :=
  newList_K F N h hz
end
end Mine
end

/-! part NyZip -/
section
open PySem PySem.W PyProof.Rows
namespace Mine
open PySem PySem.W PySem.Calls PyProof.Rows PySem.Spec LCg LCp

/-- a zip of two lists, fresh over the heap hp -/
def ZipNow (hp : Heap) (xs ys : Array Value) (xv : Value) (h : Heap) : Prop :=
  ∃ z TI TO i1 i2 l1 l2, xv = .ref z ∧ ZipApart z TI TO i1 i2 l1 l2 ∧
    (IsZip h z TI TO .none ∧ IsPair h TI (.ref i1) (.ref i2) ∧ (∃ a b, IsPair h TO a b) ∧ h.IsListIter i1 l1 0 ∧ h.IsListIter i2 l2 0 ∧ h.IsList l1 xs ∧ h.IsList l2 ys) ∧
    (∀ b ∈ [z, TO, i1, i2], hp.get? b = none) ∧ ∀ b o, hp.get? b = some o → h.get? b = some o

section
variable {prog : Program} {w : World} {A : Around} {E : Value → Shared → Prop} {s : Shared} {env : Env}

theorem call_zip_now {l1 l2 : Addr} {xs ys : Array Value} {Q : Value → Shared → Prop} (hl1 : s.heap.IsList l1 xs) (hl2 : s.heap.IsList l2 ys)
    (h : ∀ xv h', ZipNow s.heap xs ys xv h' → Q xv { s with heap := h' }) :
    wpAny (model prog w) A (call (.type "zip") [.ref l1, .ref l2]) Q E s := by
  refine call_zip_2 hl1 hl2 fun h' a1 a2 a3 a4 a5 a6 a7 => h _ h' ?_
  have lt1 : l1 < s.heap.objs.size := by obtain ⟨_, e, _⟩ := hl1; exact Heap.lt_size e
  have lt2 : l2 < s.heap.objs.size := by obtain ⟨_, e, _⟩ := hl2; exact Heap.lt_size e
  have fresh : ∀ a, s.heap.objs.size ≤ a → s.heap.get? a = none := fun a ha => by
    cases e : s.heap.get? a with
    | none => rfl
    | some o' => exact absurd (Heap.lt_size e) (Nat.not_lt.mpr ha)
  refine ⟨s.heap.objs.size + 4, s.heap.objs.size + 2, s.heap.objs.size + 3, s.heap.objs.size, s.heap.objs.size + 1, l1, l2, rfl, ?_, ⟨a1, a2, ⟨_, _, a3⟩, a4, a5, hl1.at fun o e => a7 _ o e, hl2.at fun o e => a7 _ o e⟩, ?_, a7⟩
  · constructor <;> (try unfold Addr at *) <;> omega
  · intro b hb
    refine fresh b ?_
    simp only [List.mem_cons, List.not_mem_nil, or_false] at hb
    rcases hb with rfl | rfl | rfl | rfl <;> omega

/-- the ints of a comprehension over a zip, if each element is an int and touches nothing -/
theorem ListComp_Z {elt iter : Expr} {x x₂ : Str} {px px₂ tp : Pos} {kk : Nat} {scope : Scope} {cl : List (Str × Addr)} {pos : Pos} {Q : Value → Shared → Prop} {hp : Heap} {xs ys : Array Value} {n : Nat} (g : Nat → Int)
    (hh : A.handled = none) (hclos : closureFor scope env = pure cl) (hcell : ∀ y ∈ scope.names, y.2 ≠ .cell) (hkind : scope.kind = .function)
    (hnames : ∀ y ∈ scope.names, y.2 = .local → scope.names.lookup y.1 = some .local) (hx : scope.names.lookup x = some .local) (hx₂ : scope.names.lookup x₂ = some .local) (hxx : x ≠ x₂)
    (hn : min xs.size ys.size = n) (hsz : n ≤ sizeLine)
    (h : wpAny (model prog w) A (eval iter env) (fun xv s₁ => ZipNow hp xs ys xv s₁.heap ∧
      (∀ i u v C hh tk m₂ (E' : Value → Shared → Prop), i < n → xs[i]? = some u → ys[i]? = some v → hp.get? C = none → hh.Ns C m₂ → m₂ x = some u → m₂ x₂ = some v → (∀ b o, hp.get? b = some o → hh.get? b = some o) →
        wpAny (model prog w) A (eval elt (compEnvC scope cl C env)) (fun r s' => (∃ t, r = .int (g i) t) ∧ ∃ tk', s' = { s₁ with heap := hh, toks := tk' }) E' { s₁ with heap := hh, toks := tk }) ∧
      ∀ D hh tk vs, hp.get? D = none → (∀ b o, hp.get? b = some o → hh.get? b = some o) → hh.get? D = some (lst vs) → IntsAre vs ((List.range n).map g) → Q (.ref D) { s₁ with heap := hh, toks := tk }) E s)
    (hs : ∀ x, foldedSetIterable iter env x = pure x := by intro _; rfl) :
    wpAny (model prog w) A (eval (.ListComp elt [⟨.Tuple [.Name x px, .Name x₂ px₂] kk tp, iter, [], 0⟩] scope pos) env) Q E s := by
  rw [eval_ListComp]
  refine wpAny_comprehension_free (use := none) rfl hs hclos hkind hnames (wpAny_mono h (fun xv s₁ h₁ => ?_) fun _ _ e => e)
  obtain ⟨⟨z, TI, TO, i1, i2, l1, l2, rfl, AP, st, hnew, hold⟩, elem, fin⟩ := h₁
  have W := WalksT.zip2 (prog := prog) (w := w) (A := A) hh z TI TO i1 i2 l1 l2 AP xs ys
  rw [hn] at W
  refine W.self 0 _ _ _ st ?_
  refine wpAny_newObj_type (wpAny_newFunctionEnv hcell (by intro y hy; simp at hy) (fun h₁ hns₁ hsb₁ => ?_) hkind)
  dsimp only at hns₁ hsb₁ ⊢
  generalize hH2 : s₁.heap.push { cls := .type "list", dict := none, data := .seq ([] : List Value).toArray } = H2 at hns₁ hsb₁ ⊢
  have hC : H2.objs.size = s₁.heap.objs.size + 1 := by rw [← hH2, Heap.size_push]
  have hDC : s₁.heap.objs.size ≠ H2.objs.size := by rw [hC]; exact Nat.ne_of_lt (Nat.lt_succ_self _)
  have below : ∀ b, b < s₁.heap.objs.size → b ≠ H2.objs.size ∧ b ≠ s₁.heap.objs.size := fun b hb => ⟨by rw [hC]; exact Nat.ne_of_lt (Nat.lt_succ_of_lt hb), Nat.ne_of_lt hb⟩
  have hfp : ∀ b ∈ [z, TI, TO, i1, i2, l1, l2], b < s₁.heap.objs.size := by
    obtain ⟨q1, q2, ⟨_, _, q3⟩, ⟨_, q4, _⟩, ⟨_, q5, _⟩, ⟨_, q6, _⟩, ⟨_, q7, _⟩⟩ := st
    intro b hb
    simp only [List.mem_cons, List.not_mem_nil, or_false] at hb
    rcases hb with rfl | rfl | rfl | rfl | rfl | rfl | rfl
    · exact Heap.lt_size q1
    · exact Heap.lt_size q2
    · exact Heap.lt_size q3
    · exact Heap.lt_size q4
    · exact Heap.lt_size q5
    · exact Heap.lt_size q6
    · exact Heap.lt_size q7
  have hDf : s₁.heap.objs.size ∉ [z, TI, TO, i1, i2, l1, l2] := fun hm => Nat.lt_irrefl _ (hfp _ hm)
  have hCf : H2.objs.size ∉ [z, TI, TO, i1, i2, l1, l2] := fun hm => by have := hfp _ hm; rw [hC] at this; exact Nat.lt_irrefl _ (Nat.lt_of_succ_lt this)
  have hDw : s₁.heap.objs.size ∉ [z, TO, i1, i2] := fun hm => hDf (W.sub _ hm)
  have hCw : H2.objs.size ∉ [z, TO, i1, i2] := fun hm => hCf (W.sub _ hm)
  have old : ∀ b o, s₁.heap.get? b = some o → h₁.get? b = some o := fun b o e => hsb₁.extBut b o (below b (Heap.lt_size e)).1 (Heap.get?_push_of_some _ (hH2 ▸ Heap.get?_push_of_some _ e))
  have hacc : h₁.get? s₁.heap.objs.size = some (lst []) := hsb₁.extBut _ _ hDC (Heap.get?_push_of_some _ (hH2 ▸ Heap.get?_push_size _ rfl))
  have hst₁ := W.frame 0 _ h₁ st fun b _ o e => old b o e
  have hpw : ∀ b o, hp.get? b = some o → b ∉ [z, TO, i1, i2] ∧ b ≠ H2.objs.size ∧ b ≠ s₁.heap.objs.size := fun b o e =>
    ⟨fun hm => (by rw [hnew b hm] at e; cases e), (below b (Heap.lt_size (hold b o e))).1, (below b (Heap.lt_size (hold b o e))).2⟩
  have hDhp : hp.get? s₁.heap.objs.size = none := by
    cases e : hp.get? s₁.heap.objs.size with
    | none => rfl
    | some o => exact absurd (Heap.lt_size (hold _ o e)) (Nat.lt_irrefl _)
  have hChp : hp.get? H2.objs.size = none := by
    cases e : hp.get? H2.objs.size with
    | none => rfl
    | some o => have := Heap.lt_size (hold _ o e); rw [hC] at this; exact absurd (Nat.lt_of_succ_lt this) (Nat.lt_irrefl _)
  have loop : ∀ s₃ : Shared, s₃ = { s₁ with heap := h₁, toks := s₁.toks + ([] : List (Str × Value)).length } →
      codeAny (model prog w) A (.compLoop (.ListComp elt [⟨.Tuple [.Name x px, .Name x₂ px₂] kk tp, iter, [], 0⟩] scope pos) 0 (.ref z) (.ref s₁.heap.objs.size) (compEnvC scope cl H2.objs.size env))
        (compPost (model prog w) A E none Q (.ref s₁.heap.objs.size) H2.objs.size) s₃ := by
    rintro s₃ rfl
    refine codeAny_compLoop_pair
      (fun k s' => ∃ h' tk i vs m', s' = { s₁ with heap := h', toks := tk } ∧ i ≤ n ∧ k = n + 1 - i ∧ IntsAre vs ((List.range i).map g) ∧
        (IsZip h' z TI TO .none ∧ IsPair h' TI (.ref i1) (.ref i2) ∧ (∃ a b, IsPair h' TO a b) ∧ h'.IsListIter i1 l1 i ∧ h'.IsListIter i2 l2 i ∧ h'.IsList l1 xs ∧ h'.IsList l2 ys) ∧
        h'.Ns H2.objs.size m' ∧ h'.get? s₁.heap.objs.size = some (lst vs) ∧ ∀ b o, hp.get? b = some o → h'.get? b = some o) ?_ (n + 1)
      ⟨h₁, _, 0, [], _, rfl, Nat.zero_le _, rfl, .nil, hst₁, hns₁, hacc, fun b o e => old b o (hold b o e)⟩
    rintro k s' ⟨h', tk, i, vs, m', rfl, hi, rfl, hI, hst', hn', hD', keep'⟩
    have hlen : vs.length = i := by rw [hI.length]; simp
    by_cases hlt : i < n
    · refine W.item i _ _ _ hlt hst' fun T vals h₂ tk₂ hPv hT ht hmid hk₂ => ?_
      obtain ⟨u, v, hu, hv, rfl⟩ := hPv
      refine W.go _ _ _ i T _ _ _ hmid fun h₃ hst₃ hk₃ => ?_
      have hTw := W.apart i T _ hmid
      have ht₃ : IsTup h₃ T #[u, v] := by
        obtain ⟨o, e, r⟩ := ht
        exact ⟨o, hk₃ T o hTw e, r⟩
      refine assign_Tuple_tuple hh ht₃ rfl rfl fun h₅ he => ?_
      have he' : ∀ b o, h₃.get? b = some o → h₅.get? b = some o := fun b o e => he b o (Nat.ne_of_lt (Heap.lt_size e)) e
      have hnC : h₅.Ns H2.objs.size m' := ((hn'.at' fun o e => hk₂ _ o hCw e).at' fun o e => hk₃ _ o hCw e).at' fun o e => he' _ o e
      refine assignInOrder_cons (wpAny_assign_Name (wpAny_storeName_local (lookup_relabel_local hx) hnC (fun h₆ hn₆ hs₆ => ?_) (by simp [compEnvC, relabel, hkind])))
      refine assignInOrder_cons (wpAny_assign_Name (wpAny_storeName_local (lookup_relabel_local hx₂) hn₆ (fun h₇ hn₇ hs₇ => ?_) (by simp [compEnvC, relabel, hkind])))
      refine assignInOrder_nil ?_
      have up : ∀ b o, b ∉ [z, TO, i1, i2] → b ≠ H2.objs.size → h'.get? b = some o → h₇.get? b = some o := fun b o hb hc e => hs₇.extBut b o hc (hs₆.extBut b o hc (he' b o (hk₃ b o hb (hk₂ b o hb e))))
      have hst₇ := W.frame (i + 1) _ h₇ hst₃ fun b hb o e => hs₇.extBut b o (fun q => hCf (by have q' : b = H2.objs.size := q; rw [← q']; exact hb)) (hs₆.extBut b o (fun q => hCf (by have q' : b = H2.objs.size := q; rw [← q']; exact hb)) (he' b o e))
      have keep₇ : ∀ b o, hp.get? b = some o → h₇.get? b = some o := fun b o e => up b o (hpw b o e).1 (hpw b o e).2.1 (keep' b o e)
      have hD₇ : h₇.get? s₁.heap.objs.size = some (lst vs) := up _ _ hDw hDC hD'
      refine wpAny_mono (elem i u v H2.objs.size h₇ _ _ _ hlt hu hv hChp hn₇ (by simp [hxx]) (by simp) keep₇) (fun r s₄ h₄ => ?_) fun _ _ e => e
      obtain ⟨⟨t, rfl⟩, tk₄, rfl⟩ := h₄
      refine append_at (hsz := by show vs.toArray.size ≤ sizeLine; rw [List.size_toArray, hlen]; exact Nat.le_trans hi hsz) hD₇ fun h₈ hs₈ hD₈ => ?_
      refine ⟨n + 1 - (i + 1), by omega, h₈, tk₄, i + 1, vs ++ [.int (g i) t], _, rfl, hlt, rfl, ?_, W.frame _ _ _ hst₇ fun b hb o e => hs₈.extBut b o (fun q => hDf (q ▸ hb)) e, hn₇.sameBut hs₈ (Ne.symm hDC), hD₈.trans (congrArg some (lst_snoc vs _)), fun b o e => hs₈.extBut b o (hpw b o e).2.2 (keep₇ b o e)⟩
      rw [List.range_succ, List.map_append]
      exact hI.append (.cons _ _ .nil)
    · obtain rfl : i = n := Nat.le_antisymm hi (Nat.not_lt.mp hlt)
      refine W.done _ _ _ hst' fun h₂ tk₂ hk₂ => ?_
      refine ⟨m', hn'.at' fun o e => hk₂ _ o hCw e, fun h'' hs'' => ?_⟩
      exact fin s₁.heap.objs.size h'' _ vs hDhp (fun b o e => hs''.extBut b o (hpw b o e).2.1 (hk₂ b o (hpw b o e).1 (keep' b o e))) (hs''.extBut _ _ hDC (hk₂ _ _ hDw hD')) hI
  exact codeAny_compStart_list (loop _ rfl) (W.self 0 _ _ _ hst₁ (loop _ rfl))
end
end Mine
end

/-! part NyComp2 -/
section
open PySem PySem.W PyProof.Rows
namespace Mine
open PySem PySem.W PySem.Calls PyProof.Rows PySem.Spec LCg LCp

section
variable {prog : Program} {w : World} {A : Around} {E : Value → Shared → Prop} {s : Shared} {h₀ : Heap} {L : Addr} {m : Str → Option Value} {env : Env}

/-- a comprehension over a tuple of the ledger's -/
def SrcTup (prog : Program) (w : World) (A : Around) (h₀ : Heap) (L : Addr) (m : Str → Option Value) (env : Env) (elt : Expr) (x : Str) (scope : Scope) (cl : List (Str × Addr)) (Q : Value → Shared → Prop) (xv : Value) (s₁ : Shared) : Prop :=
  ∃ ax its n news, xv = .ref ax ∧ Fr h₀ L s₁.heap m ∧ News h₀ L s₁.heap news ∧ (ax, ({ cls := .type "tuple", data := .seq its n } : Obj)) ∈ news ∧ its.size ≤ sizeLine ∧
    ∀ s₂ : Shared, (∃ h, s₂ = { s₁ with heap := h }) → CompRest prog w A h₀ L m env elt x scope cl s₂ (fun nw => (ax, ({ cls := .type "tuple", data := .seq its n } : Obj)) ∈ nw) (fun i v => its[i]? = some v) (FinE h₀ L m s₂ Q) its.size 0 [] news

theorem ListComp_Tup {elt iter : Expr} {x : Str} {px : Pos} {scope : Scope} {cl : List (Str × Addr)} {pos : Pos} {Q : Value → Shared → Prop} (_F₀ : Fr h₀ L s.heap m) (hh : A.handled = none)
    (hclos : closureFor scope env = pure cl) (hcell : ∀ y ∈ scope.names, y.2 ≠ .cell) (hkind : scope.kind = .function)
    (hnames : ∀ y ∈ scope.names, y.2 = .local → scope.names.lookup y.1 = some .local) (hx : scope.names.lookup x = some .local)
    (h : wpAny (model prog w) A (eval iter env) (SrcTup prog w A h₀ L m env elt x scope cl Q) E s)
    (hs : ∀ x, foldedSetIterable iter env x = pure x := by intro _; rfl) :
    wpAny (model prog w) A (eval (.ListComp elt [⟨.Name x px, iter, [], 0⟩] scope pos) env) Q E s := by
  rw [eval_ListComp]
  refine wpAny_comprehension_free (use := none) rfl hs hclos hkind hnames (wpAny_mono h (fun xv s₁ h₁ => ?_) fun _ _ e => e)
  obtain ⟨ax, its, n, news, rfl, F, N, hm, hsz, R⟩ := h₁
  have hl : s₁.heap.IsTuple ax its := ⟨_, (N _ hm).1, rfl, _, rfl⟩
  have hlt : ax < s₁.heap.objs.size := Heap.lt_size (N _ hm).1
  refine wpAny_pyIter_tuple hl ?_
  have up : ∀ b o, s₁.heap.get? b = some o → (s₁.heap.push { cls := .type "tuple_iterator", data := .fields #[.ref ax, .int 0 0] }).get? b = some o := fun b o e => Heap.get?_push_of_some _ e
  refine block_U (Walks.tuple hh s₁.heap.objs.size ax (Nat.ne_of_lt hlt) its) hsz (fun i h st => by obtain ⟨o, e, _⟩ := st.1; exact ⟨o, e⟩)
    (fun i h h' o nw st e e' k N' S => ⟨by obtain ⟨o', q, r⟩ := st.1; rw [e] at q; cases q; exact ⟨o, e', r⟩, ⟨_, (N' _ S).1, rfl, _, rfl⟩⟩)
    hcell hkind hx ⟨⟨_, Heap.get?_push_size _ rfl, rfl, rfl⟩, hl.at fun o e => up _ o e⟩ (fun b hb => ?_)
    (F.keeps up) (N.grown up) (Nat.ne_of_lt F.ns.lt) (next_is_new F) (fun p hp => Nat.ne_of_lt (Heap.lt_size (N p hp).1)) hm (R _ ⟨_, rfl⟩) ?_
  · show b < (s₁.heap.push _).objs.size
    rw [Heap.size_push]
    rcases List.mem_cons.mp hb with rfl | hb
    · exact Nat.lt_succ_self _
    · rw [List.mem_singleton.mp hb]; exact Nat.lt_succ_of_lt hlt
  · intro D C h tk m' ys news' F' N' o1 hn hC₀ hD₀ hCL hDL hCD offC fin
    refine ⟨m', hn, fun h'' hs'' => fin D h'' tk (F'.change hs'' hCL hC₀) (fun p hp => ?_) o1⟩
    refine ⟨hs''.extBut _ _ ?_ (N' p hp).1, (N' p hp).2⟩
    rcases List.mem_cons.mp hp with rfl | hp
    · exact Ne.symm hCD
    · exact offC p hp
end
end Mine
end

/-! part NyAux -/
section
open PySem PySem.W PyProof.Rows
namespace Mine
open PySem PySem.W PySem.Calls PyProof.Rows PySem.Spec LCg LCp

theorem news_new {h₀ h hh : Heap} {L C : Addr} {m : Str → Option Value} {news : List (Addr × Obj)} {o : Obj} (F : Fr h₀ L h m) (N : News h₀ L h news) (keep : ∀ b o, h.get? b = some o → hh.get? b = some o) (hC : h.get? C = none) (ho : hh.get? C = some o) :
    News h₀ L hh ((C, o) :: news) := by
  intro p hp
  rcases List.mem_cons.mp hp with rfl | hp
  · refine ⟨ho, fun q => ?_, ?_⟩
    · obtain ⟨oL, _, _, hL, _⟩ := F.ns
      have q' : C = L := q
      rw [q', hL] at hC
      cases hC
    · cases e : h₀.get? C with
      | none => rfl
      | some o' => rw [F.keep _ _ e] at hC; cases hC
  · exact ⟨keep _ _ (N p hp).1, (N p hp).2⟩

theorem get4 {a b c d : Int} {ta tb tc td : Tok} {i : Nat} {u : Value} (hi : i < 4) (hu : (#[.int a ta, .int b tb, .int c tc, .int d td] : Array Value)[i]? = some u) : ∃ t, u = .int ([a, b, c, d].getD i 0) t := by
  rcases i with _ | _ | _ | _ | i
  · exact ⟨ta, (Option.some.inj hu).symm⟩
  · exact ⟨tb, (Option.some.inj hu).symm⟩
  · exact ⟨tc, (Option.some.inj hu).symm⟩
  · exact ⟨td, (Option.some.inj hu).symm⟩
  · omega
theorem get4_in {a b c d : Int} {i : Nat} {k : Int} (ha : 0 ≤ a ∧ a ≤ k) (hb : 0 ≤ b ∧ b ≤ k) (hc : 0 ≤ c ∧ c ≤ k) (hd : 0 ≤ d ∧ d ≤ k) (hi : i < 4) : 0 ≤ [a, b, c, d].getD i 0 ∧ [a, b, c, d].getD i 0 ≤ k := by
  rcases i with _ | _ | _ | _ | i
  · exact ha
  · exact hb
  · exact hc
  · exact hd
  · omega
theorem ints4 {vs : List Value} {g : Nat → Int} (h : IntsAre vs ((List.range 4).map g)) : TabObj (lst vs) ⟨g 0, g 1, g 2, g 3⟩ := by
  have h' : IntsAre vs [g 0, g 1, g 2, g 3] := h
  cases h' with | cons _ t0 h' => cases h' with | cons _ t1 h' => cases h' with | cons _ t2 h' => cases h' with | cons _ t3 h' => cases h' with | nil => exact ⟨t0, t1, t2, t3, 4, rfl⟩

theorem ne_old {h : Heap} {D I : Addr} {o : Obj} (hD : h.get? D = none) (hI : h.get? I = some o) : D ≠ I := fun e => by rw [e, hI] at hD; cases hD

/-- the table that the telling gives -/
def toldTab (S : Int × Int × Int × Int) (X Y : Tab) (w : Tab) : Tab :=
  ⟨S.1 + S.2.1 * X.a + S.2.2.1 * Y.a + S.2.2.2 * w.a, S.2.1 * X.b + S.2.2.1 * Y.b + S.2.2.2 * w.b, S.2.1 * X.c + S.2.2.1 * Y.c + S.2.2.2 * w.c, S.1 + S.2.1 * X.d + S.2.2.1 * Y.d + S.2.2.2 * w.d⟩
end Mine
end

/-! part NyTold -/
section
open PySem PySem.W PyProof.Rows
namespace Mine
open PySem PySem.W PySem.Calls PyProof.Rows PySem.Spec LCg LCp

def Four.step (p q r m n : Int) (s : Four) (k : Int) : Four :=
  if k = 0 then ⟨s.z * (r - p * q) - m * (s.y + s.u * q), s.x + s.y * p + s.z * q + s.u * r, s.z * p + s.u * m, -s.z⟩
  else ⟨-s.z * n, -s.u * n, s.x + s.z * q, s.y + s.u * q⟩
def four (X Y : Tab) (ws : List Int) : Four :=
  ws.foldl (Four.step (X.a + X.d) (Y.a + Y.d) (X.a * Y.a + X.b * Y.c + X.c * Y.b + X.d * Y.d) (X.a * X.d - X.b * X.c) (Y.a * Y.d - Y.b * Y.c)) ⟨1, 0, 0, 0⟩

theorem four_more (X Y : Tab) (ws : List Int) (k : Int) : four X Y (ws ++ [k]) = Four.step (X.a + X.d) (Y.a + Y.d) (X.a * Y.a + X.b * Y.c + X.c * Y.b + X.d * Y.d) (X.a * X.d - X.b * X.c) (Y.a * Y.d - Y.b * Y.c) (four X Y ws) k := by
  simp [four, List.foldl_append]

theorem cut_mem {p c1 c2 : Addr × Obj} {news own : List (Addr × Obj)} (hp : p ∈ c1 :: c2 :: news) : p ∈ c1 :: c2 :: (news ++ own) := by
  rcases List.mem_cons.mp hp with h | h
  · rw [h]; exact .head _
  · rcases List.mem_cons.mp h with h | h
    · rw [h]; exact .tail _ (.head _)
    · exact .tail _ (.tail _ (List.mem_append_left _ h))

theorem mem_four {p c1 c2 c3 x : Addr × Obj} {l : List (Addr × Obj)} (hp : p ∈ c1 :: c2 :: c3 :: x :: l) : p ∈ x :: c1 :: c2 :: c3 :: l := by
  simp only [List.mem_cons] at hp ⊢
  rcases hp with h | h | h | h | h
  · exact .inr (.inl h)
  · exact .inr (.inr (.inl h))
  · exact .inr (.inr (.inr (.inl h)))
  · exact .inl h
  · exact .inr (.inr (.inr (.inr h)))

section
variable {prog p : Program} {w : World} {loose : List Str} {mean : ExcName → Option Value} {mg mb : Str → Option Value}

local macro_rules | `(tactic| walk_at "eval Constant int") => `(tactic| ((with_reducible refine fl_const ?_); intro _ _))
local macro_rules | `(tactic| walk_at "binaryOp Add int int") => `(tactic| ((with_reducible refine fl_add ?_); intro _ _))
local macro_rules | `(tactic| walk_at "binaryOp Sub int int") => `(tactic| ((with_reducible refine fl_sub ?_); intro _ _))
local macro_rules | `(tactic| walk_at "binaryOp Mult int int") => `(tactic| ((with_reducible refine' fl_mul ?hm ?_); (case hm => mul_fits); intro _ _))
local macro_rules | `(tactic| walk_at "unaryOp USub int") => `(tactic| ((with_reducible refine fl_neg ?_); intro _ _))
local macro_rules | `(tactic| walk_at "storeName") => `(tactic| (k_here; k_dflt (refine' fl_store ?F ?N ?_ ?a ?b; (case F => k_asm); (case N => k_asm); (case a => rfl); (case b => rfl); k_whole; intro h' n' F' N'; (try k_sweep))))
local macro_rules | `(tactic| walk_at "newTuple") => `(tactic| (k_here; k_dflt (refine' fl_tuple ?F ?N ?_ ?z; (case F => k_asm); (case N => k_asm); (case z => kmk_size)); intro D' h' F' N' l1; (try k_lt l1); (try k_sweep)))
local macro_rules | `(tactic| walk_at "newList") => `(tactic| (k_here; k_dflt (refine' fl_list ?F ?N ?_ ?z; (case F => k_asm); (case N => k_asm); (case z => size_fits); k_whole); intro l' h' F' N' l1; (try k_lt l1); (try k_sweep)))
local macro_rules | `(tactic| k_mem) => `(tactic| assumption)
local macro_rules | `(tactic| k_all) => `(tactic| exact fun p hp => Nat.ne_of_lt (Nat.lt_of_lt_of_le ((by assumption : ∀ q ∈ _, q.1 < _) p hp) (by omega)))
local macro_rules | `(tactic| walk_at "exec For Name Name cons nil") => `(tactic| (k_here; (rename Fr _ _ _ _ => lF'); (with_unfolding_all refine' For_invVF lF' ?k1 ?k2 ?_; (case k1 => exact rfl); (case k2 => exact rfl); k_whole)))
local macro_rules | `(tactic| walk_at "subscriptTail") => `(tactic| (k_here; (with_reducible show wpAny _ _ (subscriptTail _ _ (Value.ref _) (Value.int _ _)) _ _ _); k_dflt (refine' item_litK (vs := [_, _]) (News.isList ?k1 ?k1m) ?k2 ?k3 ?k4 ?_ ?k6; (case k1 => k_asm); (case k1m => k_mem); (case k2 => decide); (case k3 => decide); (case k4 => rfl); (case k6 => with_unfolding_all rfl); k_whole)))
set_option pp.deepTerms false in
set_option pp.deepTerms.threshold 8 in
set_option maxRecDepth 100000 in
set_option maxHeartbeats 8000000 in
theorem told_call {dp un : Nat} {gd : Option (List Code)} {cn : Str} {cs : Scope} {a' : Addr} {ccd : Value} {cl : List (Str × Addr)} {outer : List Env}
    {A₀ : Around} {base h₀ : Heap} {L : Addr} {m : Str → Option Value} {news : List (Addr × Obj)} {s : Shared} {Q E : Value → Shared → Prop}
    {lt l0 l1 : Addr} {nt : Nat} {wb : Array UInt8} {tb : Tok} {ws : List Int}
    {a b c d e f g h : Int} {ta tb' tc td te tf tg th : Tok} {n1 n2 : Nat}
    (B : Below A₀ base outer h₀) (F : Fr h₀ L s.heap m) (XK : (Mine.hd.heap_39 w.params).In h₀) (N : News h₀ L s.heap news) (T : Top p loose mean mg mb h₀) (hk : cs.kind = .function)
    (mt : (lt, listOf #[.ref l0, .ref l1] nt) ∈ news) 
    (m1 : (l0, listOf #[.int a ta, .int b tb', .int c tc, .int d td] n1) ∈ news) (m2 : (l1, listOf #[.int e te, .int f tf, .int g tg, .int h th] n2) ∈ news)
    (ha : 0 ≤ a ∧ a ≤ 15) (hb : 0 ≤ b ∧ b ≤ 15) (hc : 0 ≤ c ∧ c ≤ 15) (hdd : 0 ≤ d ∧ d ≤ 15) (he : 0 ≤ e ∧ e ≤ 15) (hf : 0 ≤ f ∧ f ≤ 15) (hg : 0 ≤ g ∧ g ≤ 15) (hh : 0 ≤ h ∧ h ≤ 15)
    (hw : KBw.bInts wb = ws) (hlen : ws.length ≤ 100)
    (hd : dp + 5 < recursionLimit) (hu : un + 32 < cLine) 
    (bae : 0 ≤ a * e ∧ a * e ≤ 225) (bbg : 0 ≤ b * g ∧ b * g ≤ 225) (bcf : 0 ≤ c * f ∧ c * f ≤ 225) (bdh : 0 ≤ d * h ∧ d * h ≤ 225) (bad : 0 ≤ a * d ∧ a * d ≤ 225) (bbc : 0 ≤ b * c ∧ b * c ≤ 225) (beh : 0 ≤ e * h ∧ e * h ≤ 225) (bfg : 0 ≤ f * g ∧ f * g ≤ 225) (bpq : 0 ≤ (a + d) * (e + h) ∧ (a + d) * (e + h) ≤ 900)
    (b0 : 0 ≤ a * e + b * g ∧ a * e + b * g ≤ 450) (b1 : 0 ≤ a * f + b * h ∧ a * f + b * h ≤ 450) (b2 : 0 ≤ c * e + d * g ∧ c * e + d * g ≤ 450) (b3 : 0 ≤ c * f + d * h ∧ c * f + d * h ≤ 450)
    (b4 : 0 ≤ e * a + f * c ∧ e * a + f * c ≤ 450) (b5 : 0 ≤ e * b + f * d ∧ e * b + f * d ≤ 450) (b6 : 0 ≤ g * a + h * c ∧ g * a + h * c ≤ 450) (b7 : 0 ≤ g * b + h * d ∧ g * b + h * d ≤ 450)
    (ret : ∀ r ra rb h' tk' nx n, Fr h₀ L h' m → News h₀ L h' nx → (∀ p ∈ news, p ∈ nx) → (r, listOf #[.ref ra, .ref rb] n) ∈ nx →
      (∀ S, S = four ⟨a, b, c, d⟩ ⟨e, f, g, h⟩ ws → TabAt nx ra (toldTab (S.x, S.y, S.z, S.u) ⟨a, b, c, d⟩ ⟨e, f, g, h⟩ ⟨a * e + b * g, a * f + b * h, c * e + d * g, c * f + d * h⟩) ∧ TabAt nx rb (toldTab (S.x, S.y, S.z, S.u) ⟨a, b, c, d⟩ ⟨e, f, g, h⟩ ⟨e * a + f * c, e * b + f * d, g * a + h * c, g * b + h * d⟩)) → Q (.ref r) { s with heap := h', toks := tk' }) :
    wpAny (model prog w) (ktrTop dp un gd cn cs L a' ccd cl outer) (call (.ref 89) [.bytes wb tb, .ref lt]) Q E s := by
  have kf : PySem.Challenge.rw_ny0011_01.prog = PySem.Challenge.rw_ny0011_01.prog ∧ Mine.hd.heap_39 = Mine.hd.heap_39 := by k_fill; exact ⟨rfl, rfl⟩
  clear kf
  w_on
  w_top on
  refine wpAny_call ?_
  k_dflt (refine' code_defC ?k1 ?k2 ?k3 ?k4 ?k5 ?kA ?kF ?kK ?k6 ?k7 ?k8 ?k9 ?kB ?kD ?_ ?c2 ?c3 ?c4; (case kA => exact rfl); (case kF => exact rfl); (case kK => assumption); (case k1 => k_asm); (case k2 => k_asm); (case k3 => k_asm); (case k4 => k_asm); (case k5 => k_asm); (case k6 => k_is); (case k7 => k_is); (case k8 => ktr_room); (case k9 => exact BindsTo.of_eq rfl); (case kB => exact rfl); (case kD => decide +kernel); (case c2 => exact rfl); (case c3 => exact rfl); (case c4 => exact rfl); k_whole; intro g' L' h' tk' cells' FG' F' N' Y' B' X' T' l1; (try k_lt l1); k_cells Y'; (try simp only [List.cons_append, List.nil_append] at N'); (try dsimp only); (try k_lift B'); (try k_fold))
  k_steps
  (rename News _ _ _ _ => N8)
  (rename Fr _ _ _ _ => F8)
  obtain ⟨oN, oU, tU, N7, hN0, hU0⟩ : ∃ (oN oU : Obj) (tU : Tok), News g' L' _ ((L' + 1 + 1, oN) :: (L' + 1, oU) :: news) ∧ oN.data = .cell none ∧ oU.data = .cell (some (.int 0 tU)) := ⟨_, _, _, cb_drop N8 (fun p hp => .tail _ (.tail _ (.tail _ hp))), by assumption, by assumption⟩
  clear N8
  obtain ⟨tx, ty, tz, tn, tm, tr, tq, tp, mt9, F7⟩ : ∃ (tx ty tz tn tm tr tq tp : Tok) (mt9 : Str → Option Value), Fr g' L' _ (fun v => if v = Str.ofString "z" then some (.int 0 tz) else if v = Str.ofString "y" then some (.int 0 ty) else if v = Str.ofString "x" then some (.int 1 tx) else if v = Str.ofString "m" then some (.int (a * d - b * c) tm) else if v = Str.ofString "n" then some (.int (e * h - f * g) tn) else if v = Str.ofString "p" then some (.int (a + d) tp) else if v = Str.ofString "q" then some (.int (e + h) tq) else if v = Str.ofString "r" then some (.int (a * e + b * g + c * f + d * h) tr) else if v = Str.ofString "h" then some (.int h th) else if v = Str.ofString "g" then some (.int g tg) else if v = Str.ofString "f" then some (.int f tf) else if v = Str.ofString "e" then some (.int e te) else if v = Str.ofString "d" then some (.int d td) else if v = Str.ofString "c" then some (.int c tc) else if v = Str.ofString "b" then some (.int b tb') else if v = Str.ofString "a" then some (.int a ta) else mt9 v) := ⟨_, _, _, _, _, _, _, _, _, F8⟩
  clear F8
  refine iterBytes_four (y1 := Str.ofString "x") (y2 := Str.ofString "y") (y3 := Str.ofString "z") (fun o => (L' + 1 + 1, oN) :: (L' + 1, o) :: news) (four ⟨a, b, c, d⟩ ⟨e, f, g, h⟩) hw rfl F7 N7 hU0 rfl rfl rfl ?_ ?_
  · clear F7 N7 hU0
    rintro pr k post t t1 t2 t3 t4 o hh9 tk9 own hks hoff hcell9 F9 N9
    dsimp only [List.cons_append] at N9
    have hne9 : ∀ p ∈ news ++ own, p.1 ≠ L' + 1 := fun p hp => (List.mem_append.mp hp).elim (fun h1 => Nat.ne_of_lt (Nat.lt_succ_of_lt (l1 p h1))) fun h1 => hoff p h1 _ (.tail _ (.head _))
    rw [four_more]
    generalize four ⟨a, b, c, d⟩ ⟨e, f, g, h⟩ pr = S at hcell9 F9 ⊢
    obtain ⟨sx, sy, sz, su⟩ := S
    dsimp only at hcell9 F9
    k_steps
    all_goals (rename News _ _ _ _ => N8)
    all_goals (rename Fr _ _ _ _ => F8)
    all_goals (refine storeX_C F8 N8 rfl (UpdF.tail (by k_ne) (UpdF.tail (by k_ne) (UpdF.head hne9))) hcell9 ?_ rfl rfl)
    all_goals (intro h7 o7 F7 N7 hd7; clear F8 N8)
    all_goals (repeat (first | (k_unfold; (try dsimp only)) | ((with_reducible show wpAny _ _ _ _ _ _); first | walk1 | (dsimp only; walk1))))
    all_goals (rename News _ _ _ _ => N6)
    all_goals (rename Fr _ _ _ _ => F6)
    · rw [show Four.step _ _ _ _ _ ⟨sx, sy, sz, su⟩ k = _ from if_pos (by assumption)]
      exact InvEndN.intro (nx := (L' + 1 + 1, oN) :: (L' + 1, o7) :: news) F6 N6 ⟨o7, _, _, _, _, rfl, hd7, rfl, rfl, rfl, fun z h0 h1 h2 h3 => by simp [h0, h1, h2, h3]⟩ rfl (fun p hp => .tail _ (cut_mem hp)) (fun p hp => .tail _ (.tail _ (.tail _ (List.mem_append_right _ hp))))
    · rw [show Four.step _ _ _ _ _ ⟨sx, sy, sz, su⟩ k = _ from if_neg (by assumption)]
      exact InvEndN.intro (nx := (L' + 1 + 1, oN) :: (L' + 1, o7) :: news) F6 N6 ⟨o7, _, _, _, _, rfl, hd7, rfl, rfl, rfl, fun z h0 h1 h2 h3 => by simp [h0, h1, h2, h3]⟩ rfl (fun p hp => .tail _ (cut_mem hp)) (fun p hp => .tail _ (.tail _ (.tail _ (List.mem_append_right _ hp))))
  · clear F7 N7 hU0
    rintro u9 t1 t2 t3 t4 o hh9 tk9 hcell9 F9 N9
    generalize hS9 : four ⟨a, b, c, d⟩ ⟨e, f, g, h⟩ ws = S at hcell9 F9 ⊢
    obtain ⟨sx, sy, sz, su⟩ := S
    dsimp only at hcell9 F9
    repeat' (first | (k_unfold; (try dsimp only)) | ((fail_if_success (with_reducible show wpAny _ _ (eval (PySem.Expr.ListComp _ _ _ _) _) _ _ _)); first | walk1 | (dsimp only; walk1)))
    (rename Fr _ _ _ _ => F8)
    (rename News _ _ _ _ => N8)
    obtain ⟨lB, lO, lS, oS, p0, p1, p2, p3, q0, q1, q2, q3, r0, r1, r2, r3, mt8, hS8, N8', F8'⟩ : ∃ (lB lO lS : Addr) (oS : Obj) (p0 p1 p2 p3 q0 q1 q2 q3 r0 r1 r2 r3 : Tok) (mt8 : Str → Option Value), oS.data = .cell (some (.ref lS)) ∧
        News g' L' _ ((lB, listOf #[.int (e * a + f * c) p0, .int (e * b + f * d) p1, .int (g * a + h * c) p2, .int (g * b + h * d) p3] 0) :: (lO, listOf #[.int (a * e + b * g) q0, .int (a * f + b * h) q1, .int (c * e + d * g) q2, .int (c * f + d * h) q3] 0) :: (lS, listOf #[.int (sx + sy * a + sz * e) r0, .int (sy * b + sz * f) r1, .int (sy * c + sz * g) r2, .int (sx + sy * d + sz * h) r3] 0) :: (L' + 1 + 1, oS) :: (L' + 1, o) :: news) ∧
        Fr g' L' _ (fun y => if y = Str.ofString "backward" then some (.ref lB) else if y = Str.ofString "onward" then some (.ref lO) else mt8 y) := ⟨_, _, _, _, _, _, _, _, _, _, _, _, _, _, _, _, _, by assumption, N8, F8⟩
    clear N8 F8
    (rename Fr _ _ _ _ => F8)
    (rename News _ _ _ _ => N8)
    refine ListComp_Tup F8 rfl (by with_unfolding_all rfl) (by decide) (by rfl) (by decide) (by rfl) ?_
    repeat ((with_reducible show wpAny _ _ _ _ _ _); first | walk1 | (dsimp only; walk1))
    (rename News _ _ _ _ => N7)
    (rename Fr _ _ _ _ => F7)
    refine ⟨_, _, _, _, rfl, F7, N7, .head _, Nat.le_of_ble_eq_true rfl, ?_⟩
    rintro s₂ ⟨h2, rfl⟩
    refine CompRest.succ (k := 1) ?_
    intro v1 I1 oI1 C1 oC1 D1 mm1 h1 tk1 E1 hv1 hC1 hx1 F1 N1 off1 ne1
    obtain rfl := Option.some.inj hv1
    have Nk1 := N1
    refine ListComp_Z (hp := h1) (xs := #[.int (sx + sy * a + sz * e) r0, .int (sy * b + sz * f) r1, .int (sy * c + sz * g) r2, .int (sx + sy * d + sz * h) r3]) (ys := #[.int (a * e + b * g) q0, .int (a * f + b * h) q1, .int (c * e + d * g) q2, .int (c * f + d * h) q3]) (n := 4) (fun i => [sx + sy * a + sz * e, sy * b + sz * f, sy * c + sz * g, sx + sy * d + sz * h].getD i 0 + su * [a * e + b * g, a * f + b * h, c * e + d * g, c * f + d * h].getD i 0) rfl (by with_unfolding_all rfl) (by decide) (by rfl) (by decide) (by rfl) (by rfl) (by decide) rfl (Nat.le_of_ble_eq_true rfl) ?_
    repeat ((with_reducible show wpAny _ _ _ _ _ _); (fail_if_success (with_reducible show wpAny _ _ (call (Value.type _) _) _ _ _)); first | walk1 | (dsimp only; walk1))
    refine call_zip_now (News.isList N1 (by k_mem)) (News.isList N1 (by k_mem)) ?_
    intro xv1 hz1 hzip1
    refine ⟨hzip1, ?_, ?_⟩
    · intro i u v C hh tk m2 E' hi hu hv hCn hns hm1 hm2 keep
      obtain ⟨oC, hoC, hno⟩ := ns_obj hns
      have F' := F1.keeps keep
      have N' := news_new F1 N1 keep hCn hoC
      obtain ⟨tu, rfl⟩ := get4 hi hu
      obtain ⟨tv, rfl⟩ := get4 hi hv
      have hbd := get4_in (i := i) (k := 450) b0 b1 b2 b3 hi
      clear hu hv hzip1 hns keep
      generalize [sx + sy * a + sz * e, sy * b + sz * f, sy * c + sz * g, sx + sy * d + sz * h].getD i 0 = su0 at *
      generalize [a * e + b * g, a * f + b * h, c * e + d * g, c * f + d * h].getD i 0 = wv0 at *
      repeat ((with_reducible show wpAny _ _ _ _ _ _); first | walk1 | (dsimp only; walk1))
      exact ⟨⟨_, rfl⟩, _, rfl⟩
    · intro Dr1 hhr1 tkr1 vs1 hDr1 keepr1 hDor1 hI1
      refine ⟨hhr1, tkr1, (Dr1, lst vs1) :: _, rfl, F1.keeps keepr1, cb_drop (news_new F1 N1 keepr1 hDr1 hDor1) (fun p hp => ?_), ⟨⟨ne_old hDr1 (N1 _ (.head _)).1, ne_old hDr1 (N1 _ (.tail _ (.head _))).1, ne_old hDr1 (N1 _ (.tail _ (.tail _ (.head _)))).1⟩, off1⟩, .tail _ (.head _), ?_⟩
      · exact mem_four hp
      · refine CompRest.succ (k := 0) ?_
        intro v2 I2 oI2 C2 oC2 D2 mm2 h2 tk2 E2 hv2 hC2 hx2 F2 N2 off2 ne2
        obtain rfl := Option.some.inj hv2
        have Nk2 := N2
        refine ListComp_Z (hp := h2) (xs := #[.int (sx + sy * a + sz * e) r0, .int (sy * b + sz * f) r1, .int (sy * c + sz * g) r2, .int (sx + sy * d + sz * h) r3]) (ys := #[.int (e * a + f * c) p0, .int (e * b + f * d) p1, .int (g * a + h * c) p2, .int (g * b + h * d) p3]) (n := 4) (fun i => [sx + sy * a + sz * e, sy * b + sz * f, sy * c + sz * g, sx + sy * d + sz * h].getD i 0 + su * [e * a + f * c, e * b + f * d, g * a + h * c, g * b + h * d].getD i 0) rfl (by with_unfolding_all rfl) (by decide) (by rfl) (by decide) (by rfl) (by rfl) (by decide) rfl (Nat.le_of_ble_eq_true rfl) ?_
        repeat ((with_reducible show wpAny _ _ _ _ _ _); (fail_if_success (with_reducible show wpAny _ _ (call (Value.type _) _) _ _ _)); first | walk1 | (dsimp only; walk1))
        refine call_zip_now (News.isList N2 (by k_mem)) (News.isList N2 (by k_mem)) ?_
        intro xv2 hz2 hzip2
        refine ⟨hzip2, ?_, ?_⟩
        · intro i u v C hh tk m2 E' hi hu hv hCn hns hm1 hm2 keep
          obtain ⟨oC, hoC, hno⟩ := ns_obj hns
          have F' := F2.keeps keep
          have N' := news_new F2 N2 keep hCn hoC
          obtain ⟨tu, rfl⟩ := get4 hi hu
          obtain ⟨tv, rfl⟩ := get4 hi hv
          have hbd := get4_in (i := i) (k := 450) b4 b5 b6 b7 hi
          clear hu hv hzip2 hns keep
          generalize [sx + sy * a + sz * e, sy * b + sz * f, sy * c + sz * g, sx + sy * d + sz * h].getD i 0 = su0 at *
          generalize [e * a + f * c, e * b + f * d, g * a + h * c, g * b + h * d].getD i 0 = wv0 at *
          repeat ((with_reducible show wpAny _ _ _ _ _ _); first | walk1 | (dsimp only; walk1))
          exact ⟨⟨_, rfl⟩, _, rfl⟩
        · intro Dr2 hhr2 tkr2 vs2 hDr2 keepr2 hDor2 hI2
          refine ⟨hhr2, tkr2, (Dr2, lst vs2) :: _, rfl, F2.keeps keepr2, cb_drop (news_new F2 N2 keepr2 hDr2 hDor2) (fun p hp => ?_), ⟨⟨ne_old hDr2 (N2 _ (.head _)).1, ne_old hDr2 (N2 _ (.tail _ (.head _))).1, ne_old hDr2 (N2 _ (.tail _ (.tail _ (.head _)))).1⟩, off2⟩, .tail _ (.tail _ (.head _)), ?_⟩
          · exact mem_four hp
          · refine CompRest.zero ?_
            unfold FinE
            intro D3 h3 tk3 F3 N3 o3
            (try dsimp only)
            repeat' (first | (k_unfold; (try dsimp only)) | walk1)
            (rename News _ _ _ _ => N0)
            (rename Fr _ _ _ _ => F0)
            refine ret D3 Dr1 Dr2 _ _ _ 2 F0 N0 (fun p hp => .tail _ (.tail _ (.tail _ (.tail _ (.tail _ (.tail _ (.tail _ (.tail _ (.tail _ hp))))))))) (.head _) (fun S hS => ?_)
            obtain rfl := hS.trans hS9
            exact ⟨⟨_, ints4 hI1, .tail _ (.tail _ (.head _))⟩, ⟨_, ints4 hI2, .tail _ (.head _)⟩⟩
end
end Mine
end

/-! part NyS -/
section
open PySem PySem.W PyProof.Rows
namespace Mine
open PySem PySem.W PySem.Calls PyProof.Rows PySem.Spec
open Sem (wp)

/-- the built-ins that hold a bytearray while they are on the stack -/
def badIds : List String := Builtin.Bytes.decodersThatHold ++ ["bytearray.__contains__", "bytearray.__mod__", "bytearray.__rmod__", "_struct.pack_into.held", "bytearray.find.held"]
def okCode : Code → Bool
  | .builtin id _ => !badIds.contains id
  | _ => true
def okBelow (l : List (Code × Pos)) : Prop := ∀ x ∈ l, okCode x.1 = true

/-- as wpAny, for the stacks that hold no such built-in -/
def wpS {α : Type} (M : Model) (A : Around) (t : Sem α) (Q : α → Shared → Prop) (E : Value → Shared → Prop) (s : Shared) : Prop :=
  ∀ Γ p, Γ.In A → okCode Γ.code = true → okBelow Γ.below → wp M Γ t (fun a _ s' => Q a s') (fun e _ s' => E e s') p s
def codeS (M : Model) (A : Around) (c : Code) (R : Result → Shared → Prop) (s : Shared) : Prop :=
  ∀ Γ p, Γ.code = c → Γ.Below A → okBelow Γ.below → wpCode M Γ R p s

section
variable {α β : Type} {M : Model} {A : Around} {E : Value → Shared → Prop} {s : Shared}

theorem wpS_of {t : Sem α} {Q : α → Shared → Prop} (h : wpAny M A t Q E s) : wpS M A t Q E s := fun Γ p h1 _ _ => h Γ p h1
theorem wpS_pure {a : α} {Q : α → Shared → Prop} (h : Q a s) : wpS M A (pure a) Q E s := wpS_of (wpAny_pure h)
theorem wpS_mono {t : Sem α} {Q Q' : α → Shared → Prop} {E' : Value → Shared → Prop} (h : wpS M A t Q E s) (hQ : ∀ a s, Q a s → Q' a s) (hE : ∀ e s, E e s → E' e s) : wpS M A t Q' E' s :=
  fun Γ p h1 h2 h3 => Sem.wp_mono M Γ t (fun a _ s => hQ a s) (fun e _ s => hE e s) p s (h Γ p h1 h2 h3)
theorem wpS_bind {m : Sem α} {f : α → Sem β} {Q : β → Shared → Prop} (h : wpS M A m (fun a s' => wpS M A (f a) Q E s') E s) : wpS M A (m >>= f) Q E s := fun Γ p h1 h2 h3 => by
  rw [Sem.wp_bind']
  exact Sem.wp_mono M Γ m (fun a p' s' h' => h' Γ p' h1 h2 h3) (fun _ _ _ h' => h') p s (h Γ p h1 h2 h3)
/-- a first part by the library's logic -/
theorem wpS_bindA {m : Sem α} {f : α → Sem β} {Q : β → Shared → Prop} (h : wpAny M A m (fun a s' => wpS M A (f a) Q E s') E s) : wpS M A (m >>= f) Q E s := wpS_bind (wpS_of h)
theorem wpS_holding {vs : List Value} {m : Sem α} {Q : α → Shared → Prop} (h : wpS M A m Q E s) : wpS M A (holding vs m) Q E s :=
  fun Γ p h1 h2 h3 => by rw [Sem.wp_holding]; exact h Γ p h1 h2 h3
theorem wpS_keep {vs : List Value} {m : Sem α} {Q : α → Shared → Prop} (h : wpS M A m Q E s) : wpS M A (m.keep vs) Q E s :=
  fun Γ p h1 h2 h3 => by rw [Sem.wp_keep]; exact h Γ p h1 h2 h3
theorem wpS_onRaise {m : Sem α} {k : Value → Sem Unit} {Q : α → Shared → Prop}
    (h : wpS M A m Q (fun e s' => wpAny M A (k e) (fun _ s'' => E e s'') E s') s) : wpS M A (m.onRaise k) Q E s := fun Γ p h1 h2 h3 => by
  rw [Sem.wp_onRaise]
  exact Sem.wp_mono M Γ m (fun _ _ _ h' => h') (fun e p' s' h' => h' Γ p' h1) p s (h Γ p h1 h2 h3)
theorem wpS_stack {Q : List (Code × Pos) → Shared → Prop} (h : ∀ l, okBelow l → Q l s) : wpS M A stack Q E s := fun Γ p _ h2 h3 => by
  show Q ((Γ.code, p) :: Γ.below) s
  refine h _ fun x hx => ?_
  rcases List.mem_cons.mp hx with rfl | hx
  · exact h2
  · exact h3 x hx

theorem codeS_of {c : Code} {R : Result → Shared → Prop} (h : codeAny M A c R s) : codeS M A c R s := fun Γ p h1 h2 _ => h Γ p h1 h2
theorem codeS_mono {c : Code} {R R' : Result → Shared → Prop} (h : codeS M A c R s) (hR : ∀ r s, R r s → R' r s) : codeS M A c R' s := fun Γ p h1 h2 h3 => wpCode_mono hR (h Γ p h1 h2 h3)
theorem codeS_of_tree {c : Code} {R : Result → Shared → Prop} (hok : okCode c = true)
    (h : wpS M (A.under c) (M.den c) (fun fin s' => match fin with | .done f => R (.ok f) s' | .again c' => c'.quiet = true ∧ codeS M A c' R s') (fun e s' => R (.error e) s') s) : codeS M A c R s := fun Γ p hc hΓ h3 => by
  rw [wpCode_iff_wp, hc]
  refine Sem.wp_mono M Γ _ (fun fin p' s' h' => ?_) (fun _ _ _ h' => h') p s (h Γ p (hc ▸ hΓ.in) (hc ▸ hok) h3)
  cases fin with
  | done f => exact h'
  | again c' => exact ⟨h'.1, h'.2 (Γ.goto c') p' rfl (hΓ.goto c') h3⟩
theorem wpS_runValue {c : Code} {Q : Value → Shared → Prop}
    (hc : codeS M A c (fun r s' => match r with | .ok (.ret v) => Q v s' | .ok _ => False | .error e => E e s') s) : wpS M A (runValue c) Q E s := fun Γ p h1 h2 h3 => by
  rw [Sem.wp_runValue]
  refine hc _ p rfl (h1.enter c none p (by intro x; cases x)) fun x hx => ?_
  rcases List.mem_cons.mp hx with rfl | hx
  · exact h2
  · exact h3 x hx
theorem wpS_call {f : Value} {pos : List Value} {kw : List (Str × Value)} {Q : Value → Shared → Prop}
    (hc : codeS M A (.call f ⟨pos, kw⟩) (fun r s' => match r with | .ok (.ret v) => Q v s' | .ok _ => False | .error e => E e s') s) : wpS M A (call f pos kw) Q E s := wpS_runValue hc

theorem wpS_execs_cons {env : Env} {st : Stmt} {rest : List Stmt} {Q : Flow → Shared → Prop}
    (h : wpS M A (exec st env) (fun f s' => match f with | .next => wpS M A (execs rest env) Q E s' | f => Q f s') E s) : wpS M A (execs (st :: rest) env) Q E s := by
  rw [execs_cons]
  refine wpS_bind (wpS_mono h (fun f s' h' => ?_) fun _ _ h' => h')
  cases f <;> first | exact h' | exact wpS_pure h'
theorem wpS_Assign_Name {env : Env} {x : Str} {pos' pos : Pos} {value : Expr} {Q : Flow → Shared → Prop}
    (h : wpS M A (eval value env) (fun v s₁ => wpAny M A (storeName env x v) (fun _ => Q .next) E s₁) E s)
    (hs : swapsWith value (some (.Name x pos')) pos.line env = pure false := by rfl) : wpS M A (exec (.Assign [.Name x pos'] value pos) env) Q E s := fun Γ p h1 h2 h3 => by
  simp only [exec_Assign_Name env x pos' value pos hs, Sem.wp_bind', Sem.wp_cmd_standAt, Sem.wp_bindName, Sem.wp_pure']
  exact Sem.wp_mono M Γ _ (fun v _ s₁ h₁ => h₁ Γ _ h1) (fun _ _ _ h' => h') _ _ (h Γ _ h1 h2 h3)
theorem wpS_Call_Name {env : Env} {id : Str} {p pos : Pos} {args : List Expr} {keywords : List Keyword} {Q : Value → Shared → Prop}
    (h : wpAny M A (eval (.Name id p) env) (fun f s₁ => wpS M A (callWith pos f [] (backTo pos (starEach args env)) (backToKw pos (keywordEach keywords env))) Q E s₁) E s) : wpS M A (eval (.Call (.Name id p) args keywords pos) env) Q E s := by
  rw [arm_eval_Call_Name']
  exact wpS_bindA h

/-- a call whose arguments are plain: they by the library's logic, the call itself by ours -/
theorem wpS_callWith {pos : Pos} {f : Value} {args : List (Bool × Sem Value)} {P : Heap → Prop} {Q : Value → Shared → Prop} (hplain : args.any (·.1) = false)
    (hk : ∀ h, P h → ∃ k, (k = Keeper.frame ∨ k = Keeper.machine ∨ k = Keeper.boundFrame) ∧ Looks M h (keeperOf f) k)
    (h : wpAny M A (evalArgs f true args []) (fun a s₁ => P s₁.heap ∧ wpS M A (call f a.pos a.kw) Q E s₁) E s) : wpS M A (callWith pos f [] args []) Q E s := by
  unfold callWith
  refine wpS_bindA (wpAny_holding (wpAny_mono h (fun a s₁ h₁ => wpS_bindA (wpAny_standAt ?_)) fun _ _ x => x))
  obtain ⟨k, hk', L⟩ := hk _ h₁.1
  simp only [hplain, List.any_nil, Bool.or_false]
  refine wpS_bindA (L.here ?_)
  have tail : ∀ {t : Sem Value}, wpS M A t Q E s₁ → wpS M A (t >>= fun r => holding [r] point >>= fun _ => pure r) Q E s₁ :=
    fun ht => wpS_bind (wpS_mono ht (fun r s₂ hr => wpS_of (wpAny_bind (wpAny_holding (wpAny_point (wpAny_pure hr))))) fun _ _ x => x)
  have marked (mk : Value) : wpS M A (callMarked mk f ([] ++ a.pos) a.kw) Q E s₁ := by unfold callMarked; exact wpS_keep h₁.2
  rcases hk' with rfl | rfl | rfl <;> dsimp only <;> first | exact tail h₁.2 | (split <;> first | exact tail h₁.2 | exact tail (marked _))
end

section
variable {prog : Program} {w : World} {A : Around} {s : Shared} {R : Result → Shared → Prop}

theorem codeS_func {body : List Stmt} {env : Env}
    (h : wpS (model prog w) (A.deeper env) (execs body env) (fun f s' => R (.ok (.ret (match f with | .ret v => v | _ => .none))) s')
      (fun e s' => wpAny (model prog w) (A.deeper env) (leaving env e) (fun _ s'' => R (.error e) s'') (fun e' s'' => R (.error e') s'') s') s) :
    codeS (model prog w) A (.func body env) R s := by
  refine codeS_of_tree rfl ?_
  show wpS _ (A.deeper env) (do point; match ← (execs body env).onRaise (leaving env) with | .ret v => ret v | _ => ret .none) _ _ s
  refine wpS_bindA (wpAny_point (wpS_bind (wpS_onRaise (wpS_mono h (fun f s' h' => ?_) fun _ _ h' => h'))))
  cases f <;> exact wpS_pure h'

theorem codeS_call_function {a : Addr} {args : Args} {o : Obj} {fd : FuncData} {body : List Stmt} (hroom : A.depth < recursionLimit)
    (ho : s.heap.get? a = some o)
    (hd' : o.data = .func fd) (hco : fd.scope.isCoroutine = false) (hgen : fd.scope.isGenerator = false) (hbody : fd.body = .stmts body) (hcd : s.heap.CodeRec fd.code fd.qualname)
    (h : wpAny (model prog w) A.in1 (bindArgs fd args) (fun binds s₁ =>
      wpAny (model prog w) A.in1 (newFunctionEnv fd.scope fd.globals fd.closure binds (fd.qualname ++ ".<locals>.") (some a) fd.code none fd.builtins)
        (fun env s₂ => s₂.heap.NoLimit ∧ codeS (model prog w) A (.func body env) R s₂) (fun e s' => R (.error e) s') s₁) (fun e s' => R (.error e) s') s) :
    codeS (model prog w) A (.call (.ref a) args) R s := by
  refine codeS_of_tree rfl ?_
  show wpS _ A.in1 (callAny (.ref a) args) _ _ s
  simp only [callAny]
  refine wpS_bindA (wpAny_load ho ?_)
  obtain ⟨c, oc, vs, tq, hc, hoc, hdc, hq⟩ := hcd
  simp only [hd', callFunction, hco, hgen, hbody, hc]
  rw [hc] at h
  refine wpS_bindA (m := field (.ref c) 1) (wpAny_field hoc hdc hq (wpS_bindA (wpAny_pure ?_)))
  exact wpS_bindA (wpAny_mono h (fun binds s₁ h₁ => wpS_bindA (wpAny_mono h₁ (fun env s₂ h₂ => wpS_bindA (wpAny_enterFrame h₂.1 hroom
    (wpS_pure (And.intro rfl h₂.2)))) fun _ _ h' => h')) fun _ _ h' => h')

theorem codeS_call_def {a : Addr} {o : Obj} {fd : FuncData} {body : List Stmt} {args : Args} {binds : List (Str × Value)}
    (hroom : A.depth < recursionLimit) (ho : s.heap.get? a = some o) (hdata : o.data = .func fd) (hlim : s.heap.NoLimit) (hcd : s.heap.CodeRec fd.code fd.qualname)
    (hbody : fd.body = .stmts body) (hbind : BindsTo s fd args binds)
    (hcell : ∀ x ∈ fd.scope.names, x.2 ≠ .cell) (hloc : ∀ x ∈ binds, fd.scope.names.lookup x.1 = some .local)
    (h : ∀ h₀, h₀.Ns s.heap.objs.size (fun x => binds.reverse.lookup x) → (∀ b o, s.heap.get? b = some o → h₀.get? b = some o) →
      wpS (model prog w) (A.deeper (callEnv fd s.heap.objs.size a)) (execs body (callEnv fd s.heap.objs.size a)) (fun f s' => R (.ok (.ret (match f with | .ret v => v | _ => .none))) s')
        (fun e s' => wpAny (model prog w) (A.deeper (callEnv fd s.heap.objs.size a)) (leaving (callEnv fd s.heap.objs.size a) e) (fun _ s'' => R (.error e) s'') (fun e' s'' => R (.error e') s'') s')
        { s with heap := h₀, toks := s.toks + binds.length })
    (hco : fd.scope.isCoroutine = false) (hgen : fd.scope.isGenerator = false) (hk : fd.scope.kind = .function) :
    codeS (model prog w) A (.call (.ref a) args) R s := by
  refine codeS_call_function hroom ho hdata hco hgen hbody hcd (hbind _ _ _ _ ?_)
  refine wpAny_newFunctionEnv hcell hloc (fun h₀ hns₀ hsb₀ => ⟨hlim.fresh _ hsb₀, codeS_func (h h₀ hns₀ fun b o e => ?_)⟩) hk
  exact hsb₀.extBut b o (Nat.ne_of_lt (Heap.lt_size e)) (Heap.get?_push_of_some _ e)
end

section
variable {prog : Program} {w : World} {A A₀ : Around} {s : Shared} {K : Frag} {L : Addr} {h₀ base : Heap} {m mg mb : Str → Option Value} {news : List (Addr × Obj)} {p : Program} {loose : List Str} {mean : ExcName → Option Value}
theorem codeS_def {env : Env} {outer : List Env} {R : Result → Shared → Prop} {name qual : Str} {params : Arguments} {body : List Stmt} {scope : Scope} {dV kV doc pm cdv ct oc : Value} {an od : Option Addr} {osl : Array (Option Value)} {f : Addr} {args : Args} {binds : List (Str × Value)}
    (B : Below A₀ base outer h₀) (F : Fr h₀ L s.heap m) (X₀ : K.In h₀) (N : News h₀ L s.heap news) (T : Top p loose mean mg mb h₀) (hA : A.frames = some (env :: outer)) (hf : env.frame = some L) (hke : env.scope.kind = .function)
    (ho : K.lookup f = some ⟨oc, od, .func (fnOf name qual params body scope dV kV doc pm an cdv ct), osl⟩) (hcd : codeIn K cdv qual = true) (hroom : A.depth < recursionLimit)
    (hbind : BindsTo s (fnOf name qual params body scope dV kV doc pm an cdv ct) args binds) (hloc : ∀ y ∈ binds, scope.names.lookup y.1 = some .local)
    (h : ∀ g L' h₁, Fr h₀ L g m → Fr g L' h₁ (fun y => binds.reverse.lookup y) → News g L' h₁ news → Below A base (env :: outer) g → K.In g → Top p loose mean mg mb g →
      wpS (model prog w) (A.deeper (envOf qual scope L' f cdv)) (execs body (envOf qual scope L' f cdv))
        (fun fl s' => LeaveK h₀ L m g R (match fl with | .ret v => v | _ => .none) s')
        (fun e s' => wpAny (model prog w) (A.deeper (envOf qual scope L' f cdv)) (leaving (envOf qual scope L' f cdv) e) (fun _ s'' => R (.error e) s'') (fun e' s'' => R (.error e') s'') s')
        { s with heap := h₁, toks := s.toks + binds.length })
    (hco : scope.isCoroutine = false) (hgen : scope.isGenerator = false) (hk : scope.kind = .function)
    (hcell : ∀ x ∈ scope.names, x.2 ≠ .cell) : codeS (model prog w) A (.call (.ref f) args) R s := by
  obtain ⟨FG, BG, st, lv⟩ := groundX (R := R) B F N hA hf hke
  refine codeS_call_def (fd := fnOf name qual params body scope dV kV doc pm an cdv ct) (body := body) (binds := binds) hroom ((X₀.keeps F.keep) _ _ ho) rfl (T.nolimit.keeps F.keep) (codeRec_of (X₀.keeps F.keep) hcd) rfl hbind hcell hloc (fun h₁ hns hk₁ => ?_) hco hgen hk
  exact wpS_mono (h _ s.heap.objs.size h₁ FG ⟨hns, fun b o e => hk₁ b o (of_hideAll _ e), Nat.le_of_eq (hideAll_size _ _)⟩
    (fun p hp => ⟨hk₁ _ _ (N p hp).1, Nat.ne_of_lt (Heap.lt_size (N p hp).1), hideAll_none _ (List.mem_map_of_mem hp)⟩) BG (X₀.keeps st) (T.keeps st)) (fun fl s' hl => lv _ _ hl) fun _ _ y => y
end
end Mine
end

/-! part NyBa -/
section
open PySem PySem.W PyProof.Rows
set_option maxRecDepth 100000
namespace Mine.BF
open PySem
theorem mro_ba : mroOf (.type "bytearray") = pure [.type "bytearray", .type "object"] := by rw [mroOf_type]; kernel_rfl
theorem lookup_ba_new : typeLookup (.type "bytearray") "__new__" = pure (some (.builtin "bytearray.__new__")) := by rw [typeLookup_type, builtinLookup_eq_fast]; kernel_rfl
theorem slot_ba_init : Slot "bytearray" "__init__" "bytearray.__init__" :=
  .of (owner := "bytearray") (n := "__init__") (by rw [typeLookup_type, builtinLookup_eq_fast]; kernel_rfl) (by decide +kernel) (by decide +kernel) (by decide +kernel)
    (by first | exact .inl (by decide +kernel) | exact .inr (by decide +kernel)) (by rw [isSubtype_type]; kernel_rfl)
theorem called_ba : TypeCalled "bytearray" "bytearray.__new__" "bytearray.__init__" :=
  ⟨by decide +kernel, by decide +kernel, ⟨_, _, mro_ba⟩, madeBy_type mro_ba lookup_ba_new (by decide +kernel), by decide +kernel, by rw [isSubtype_type]; kernel_rfl, slot_ba_init⟩
theorem typeCall_ba (a : Value) : checkTypeCall "bytearray" ⟨[a], []⟩ = pure () := by kernel_rfl
theorem newCall_ba (a : Value) : checkBuiltinCall "bytearray.__new__" ⟨[.type "bytearray", a], []⟩ = pure () := by kernel_rfl
theorem entry_ba_new : entryFor table "bytearray.__new__" = some Builtin.«list.__new__» :=
  entryFor_alias (id' := "list.__new__") (by kernel_rfl) (by first | rfl | decide +kernel | (unfold String.splitOn; simp +decide [String.splitOnAux])) (by decide +kernel) (by kernel_rfl)
theorem owner_bytearray : Manifest.owners.lookup (String.ofList ['y', 'a', 'r', 'r', 'a', 'e', 't', 'y', 'b'].reverse) = some Manifest.sig_bytearray := by kernel_rfl
theorem args_ba_init (a b : Value) : argsOk "bytearray.__init__" ⟨[a, b], []⟩ := by
  unfold argsOk; rw [signature?_of (id := "bytearray.__init__") (n := ['_', '_', 't', 'i', 'n', 'i', '_', '_']) (o := ['y', 'a', 'r', 'r', 'a', 'e', 't', 'y', 'b']) (by kernel_rfl) owner_bytearray]; kernel_rfl
theorem no_release : typeLookup (.type "bytearray") "__release_buffer__" = pure (some (.builtin "bytearray.__release_buffer__")) := by rw [typeLookup_type, builtinLookup_eq_fast]; kernel_rfl
theorem ba_bind (v : Value) : Builtin.Bytes.bindOptional "bytearray.__init__" "bytearray" ["source", "encoding", "errors"] [v] [] = pure [some v, none, none] := by kernel_rfl
theorem plain_ba_new : plainId "bytearray.__new__" = true := by decide +kernel
theorem entry_ba_init : entryFor table "bytearray.__init__" = some Builtin.«bytearray.__init__» := by first | exact entryFor_of_fast (by kernel_rfl) | exact entryFor_of_tree (by kernel_rfl)
end Mine.BF

namespace Mine
open PySem PySem.W PySem.Calls PyProof.Rows PySem.Spec
set_option maxRecDepth 1000000 in
set_option maxHeartbeats 4000000 in
theorem owner_ba : ("bytearray.__new__".splitOn ".__new__").headD "" = "bytearray" := by simp +decide [String.splitOn, String.splitOnAux]

section
variable {prog : Program} {w : World} {A : Around} {E : Value → Shared → Prop} {s : Shared}
theorem code_ba_new (a : Value) {Q₁ : Value → Shared → Prop}
    (h : Q₁ (.ref s.heap.objs.size) { s with heap := s.heap.push { cls := .type "bytearray", data := .bytearray #[] } }) :
    codeAny (model prog w) A (.call (.builtin "bytearray.__new__") ⟨[.type "bytearray", a], []⟩) (wants Q₁ E) s := by
  refine codeAny_of_tree ?_
  show wpAny _ A.in1 (do checkBuiltinCall "bytearray.__new__" ⟨[.type "bytearray", a], []⟩; again (.builtin "bytearray.__new__" ⟨[.type "bytearray", a], []⟩)) _ _ s
  refine wpAny_bind (wpAny_of_eq (BF.newCall_ba a) (wpAny_pure ⟨plainId_quiet BF.plain_ba_new _, codeAny_builtin_stack BF.entry_ba_new rfl fun p st => ?_⟩))
  rw [Around.under_plainId BF.plain_ba_new _]
  have hsub := _root_.PySem.F.isi_self_bytearray
  have hown := owner_ba
  obtain ⟨hp, g, d, tk, os⟩ := s
  simp only [hown]
  wp_walk
  exact h

theorem codeS_builtin {id : String} {args : Args} {b : Builtin} {R : Result → Shared → Prop} (hok : okCode (.builtin id args) = true) (hb : entryFor table id = some b)
    (h : wpS (model prog w) (A.under (.builtin id args)) (b args)
      (fun fin s' => match fin with | .done f => R (.ok f) s' | .again c' => c'.quiet = true ∧ codeS (model prog w) A c' R s') (fun e s' => R (.error e) s') s) :
    codeS (model prog w) A (.builtin id args) R s := by
  refine codeS_of_tree hok ?_
  show wpS _ _ (match entryFor table id with | some b => b args | none => unsupported ((withoutEnding? id "#data").getD id)) _ _ s
  rw [hb]; exact h

theorem wpS_callSpecial?_slot {self : Value} {T : String} {name : Str} {id : String} {args : List Value} {kw : List (Str × Value)} {M : Model}
    {Q : Option Value → Shared → Prop} (hT : s.TypeIs self T) (h : Slot T name id)
    (hc : wpS M A (call (.builtin id) (self :: args) kw) (fun v => Q (some v)) E s) : wpS M A (callSpecial? self name args kw) Q E s := by
  simp only [callSpecial?]
  refine wpS_bindA (wpAny_specialOf hT h.lookup ?_)
  simp only [h.bind]
  exact wpS_holding (wpS_bindA (wpAny_pure (wpS_bind (wpS_mono hc (fun v s' h' => wpS_pure h') fun _ _ h' => h'))))

theorem ba_call {n : Int} {t : Tok} {Q : Value → Shared → Prop}
    (hinit : wpS (model prog w) A.in1.in1 (Builtin.«bytearray.__init__» ⟨[.ref s.heap.objs.size, .int n t], []⟩)
      (fun fin s' => fin = .done (.ret .none) ∧ Q (.ref s.heap.objs.size) s') E { s with heap := s.heap.push { cls := .type "bytearray", data := .bytearray #[] } }) :
    wpS (model prog w) A (call (.type "bytearray") [.int n t]) Q E s := by
  refine wpS_call (codeS_of_tree rfl ?_)
  show wpS _ _ (callAny (.type "bytearray") _) _ _ _
  refine wpS_pure ⟨Code.quiet_builtin _ (by decide +kernel), codeS_builtin (show okCode (.builtin "type.__call__" _) = true from by show (!badIds.contains "type.__call__") = true; decide +kernel) F.entry_type_call ?_⟩
  rw [Around.under_plain (weight_type_call_type "bytearray" [.int n t] []) rfl]
  have h1 := BF.called_ba.notType
  have h2 := BF.called_ba.canCreate
  unfold Builtin.«type.__call__»
  simp only [h1, h2, Bool.false_eq_true, if_false]
  refine wpS_bindA (wpAny_of_eq (BF.typeCall_ba _) ?_)
  refine wpS_bindA (wpAny_of_eq BF.mro_ba ?_)
  simp only [List.isEmpty_cons, Bool.false_eq_true, if_false]
  refine wpS_bindA (wpAny_of_eq BF.called_ba.made ?_)
  dsimp only
  refine wpS_bindA (wpAny_pure ?_)
  refine wpS_bindA (wpAny_holding (wpAny_call (codeAny_mono (code_ba_new (E := fun _ _ => False) (Q₁ := fun v s' => v = .ref s.heap.objs.size ∧ s' = { s with heap := s.heap.push { cls := .type "bytearray", data := .bytearray #[] } }) (.int n t) ⟨rfl, rfl⟩) fun r s' hr => ?_)))
  cases r with
  | error e => exact hr.elim
  | ok fl =>
    cases fl with
    | ret obj =>
      obtain ⟨rfl, rfl⟩ := hr
      have hT : Shared.TypeIs { s with heap := s.heap.push { cls := .type "bytearray", data := .bytearray #[] } } (.ref s.heap.objs.size) "bytearray" := ⟨_, Heap.get?_push_size _ rfl, rfl⟩
      dsimp only
      refine wpS_bindA (wpAny_isInstance (T := "bytearray") (b := true) hT _root_.PySem.F.isi_self_bytearray ?_)
      simp only [Bool.not_true, Bool.false_eq_true, if_false]
      refine wpS_bind (wpS_holding (wpS_callSpecial?_slot hT BF.slot_ba_init ?_))
      refine wpS_call (codeS_of_tree rfl ?_)
      show wpS _ _ (do checkBuiltinCall "bytearray.__init__" _; again (.builtin "bytearray.__init__" _)) _ _ _
      refine wpS_bindA (BF.slot_ba_init.check _ _ _ _ _ _ _ _ hT (BF.args_ba_init _ _) (wpS_pure ⟨plainId_quiet BF.slot_ba_init.plain _, ?_⟩))
      refine codeS_builtin (show okCode (.builtin "bytearray.__init__" _) = true from by show (!badIds.contains "bytearray.__init__") = true; decide +kernel) BF.entry_ba_init ?_
      rw [Around.under_plainId BF.slot_ba_init.plain _]
      refine wpS_mono hinit (fun fin s' hf => ?_) fun _ _ e => e
      obtain ⟨rfl, hq⟩ := hf
      dsimp only
      exact wpS_pure hq
    | _ => exact hr.elim

theorem own_release {a : Addr} {M : Model} {Q : Bool → Shared → Prop} (hT : s.TypeIs (.ref a) "bytearray") (h : Q false s) : wpAny M A (Builtin.Bytes.ownRelease (.ref a)) Q E s := by
  unfold Builtin.Bytes.ownRelease Builtin.Bytes.slotIsOwn
  refine wpAny_bind (wpAny_bind (wpAny_specialOf hT BF.no_release ?_))
  dsimp only
  rw [if_neg (show ¬ ((!("bytearray.__release_buffer__".endsWith ("." ++ "__release_buffer__"))) = true) from by decide +kernel)]
  rw [show "bytearray.__release_buffer__".dropRight ("__release_buffer__".length + 1) = "bytearray" from by decide +kernel]
  exact wpAny_isInstance hT _root_.PySem.F.isi_self_bytearray (wpAny_pure h)

theorem any_ok {a : Addr} {l : List (Code × Pos)} (h : okBelow l) : (l.any fun
    | (.builtin "bytearray.__contains__" ⟨v :: _, _⟩, _) | (.builtin "bytearray.__mod__" ⟨v :: _, _⟩, _)
    | (.builtin "bytearray.__rmod__" ⟨_ :: v :: _, _⟩, _) | (.builtin "_struct.pack_into.held" ⟨v :: _, _⟩, _) => Builtin.Bytes.sameRef v (.ref a)
    | (.builtin "bytearray.find.held" ⟨_ :: _ :: held, _⟩, _) => held.any (Builtin.Bytes.sameRef (.ref a))
    | (.builtin id ⟨v :: _, _⟩, _) => Builtin.Bytes.sameRef v (.ref a) && Builtin.Bytes.decodersThatHold.contains id
    | _ => false) = false := by
  rw [List.any_eq_false]
  rintro ⟨c, p⟩ hx
  have hc := h _ hx
  dsimp only at hc ⊢
  split
  case h_1 _ _ _ _ _ e => cases e; exact absurd (show (!badIds.contains "bytearray.__contains__") = true from hc) (by decide +kernel)
  case h_2 _ _ _ _ _ e => cases e; exact absurd (show (!badIds.contains "bytearray.__mod__") = true from hc) (by decide +kernel)
  case h_3 _ _ _ _ _ _ e => cases e; exact absurd (show (!badIds.contains "bytearray.__rmod__") = true from hc) (by decide +kernel)
  case h_4 _ _ _ _ _ e => cases e; exact absurd (show (!badIds.contains "_struct.pack_into.held") = true from hc) (by decide +kernel)
  case h_5 _ _ _ _ _ _ e => cases e; exact absurd (show (!badIds.contains "bytearray.find.held") = true from hc) (by decide +kernel)
  case h_6 _ id v _ _ _ _ _ _ _ _ e =>
    cases e
    have hc' : (!badIds.contains id) = true := hc
    have : Builtin.Bytes.decodersThatHold.contains id = false := by
      unfold badIds at hc'
      simp only [Bool.not_eq_true', List.contains_eq_mem, List.mem_append, decide_eq_false_iff_not, not_or] at hc' ⊢
      exact hc'.1
    rw [this, Bool.and_false]
    exact Bool.false_ne_true
  case h_7 => exact Bool.false_ne_true

theorem exported_ok {a : Addr} {M : Model} {Q : Bool → Shared → Prop} (h : Q false s) : wpS M A (Builtin.Bytes.exported (.ref a)) Q E s := by
  unfold Builtin.Bytes.exported
  refine wpS_bind (wpS_stack fun l hl => wpS_pure ?_)
  have e := any_ok (a := a) hl
  generalize hb : List.any l _ = b
  have e' : b = false := hb.symm.trans e
  rw [e']
  exact h

theorem exp_ba {a : Addr} {M : Model} {b : Array UInt8} {o : Obj} {Q : Bool → Shared → Prop} (ho : s.heap.get? a = some o) (hd : o.data = .bytearray b) (h : Q false s) :
    wpS M A (Builtin.Bytes.exported (.ref a) <||> (do return decide ((← Builtin.Bytes.exportsOf (.ref a)) > 0))) Q E s := by
  show wpS M A (Builtin.Bytes.exported (.ref a) >>= _) Q E s
  refine wpS_bind (exported_ok ?_)
  show wpS M A (Builtin.Bytes.exportsOf (.ref a) >>= _) Q E s
  refine wpS_bindA ?_
  unfold Builtin.Bytes.exportsOf
  refine wpAny_bind (wpAny_load ho ?_)
  rw [hd]
  exact wpAny_pure (wpS_pure h)

theorem write_ba {a : Addr} {M : Model} {b : Array UInt8} {f : Array UInt8 → Array UInt8} {Q : Unit → Shared → Prop} (ho : s.heap.get? a = some { cls := .type "bytearray", data := .bytearray b }) (hz : (f b).size ≤ sizeLine)
    (h : ∀ h', h'.get? a = some { cls := .type "bytearray", data := .bytearray (f b) } → Heap.SameBut a s.heap h' → Q () { s with heap := h' }) :
    wpAny M A (Builtin.Bytes.write (.ref a) f) Q E s := by
  show wpAny M A (updateBytearray a f) Q E s
  unfold updateBytearray
  refine wpAny_bind (wpAny_load ho ?_)
  dsimp only
  have hg : (s.heap.update a (Obj.mapBytearray f)).get? a = some { cls := .type "bytearray", data := .bytearray (f b) } := Heap.get?_update_self _ ho rfl
  refine wpAny_bind (wpAny_update ho ?_)
  refine wpAny_lookBehind hg ?_ (h _ hg (Heap.SameBut.update ..))
  show (if (f b).size > sizeLine then some "bytearray:memory" else none) = none
  rw [if_neg (Nat.not_lt.mpr hz)]

theorem init_ba {a : Addr} {n : Int} {t : Tok} {Q : Fin → Shared → Prop} (ho : s.heap.get? a = some { cls := .type "bytearray", data := .bytearray #[] }) (h0 : 0 < n) (h1 : n ≤ 100)
    (h : ∀ h', h'.get? a = some { cls := .type "bytearray", data := .bytearray (Array.replicate n.toNat 0) } → (∀ b o, b ≠ a → s.heap.get? b = some o → h'.get? b = some o) → Q (.done (.ret .none)) { s with heap := h' }) :
    wpS (model prog w) A (Builtin.«bytearray.__init__» ⟨[.ref a, .int n t], []⟩) Q E s := by
  have hT : s.TypeIs (.ref a) "bytearray" := ⟨_, ho, rfl⟩
  unfold Builtin.«bytearray.__init__»
  dsimp only
  refine wpS_bindA (own_release hT ?_)
  simp only [Bool.false_eq_true, if_false]
  refine wpS_bindA (wpAny_of_eq (BF.ba_bind _) ?_)
  dsimp only
  refine wpS_bindA (wpAny_of_eq (a := ()) rfl ?_)
  refine wpS_bindA (wpAny_of_eq (a := ()) rfl ?_)
  refine wpS_bind (exp_ba ho rfl ?_)
  simp only [Bool.false_eq_true, if_false]
  refine wpS_bindA (write_ba ho (Nat.zero_le _) fun h₁ ho₁ hs₁ => ?_)
  refine wpS_bindA (wpAny_of_eq (a := none) rfl ?_)
  simp only [Option.isSome_none, Bool.false_eq_true, if_false]
  refine wpS_bindA (wpAny_pure ?_)
  refine wpS_bindA (wpAny_specialOf (typeIs_int _ n t) _root_.PySem.int_index ?_)
  simp only [Option.isSome_some, if_true]
  refine wpS_bindA (wpAny_attempt (wpAny_of_eq (a := n) rfl ?_))
  dsimp only
  have f1 : Builtin.Bytes.fitsIndex n = true := by unfold Builtin.Bytes.fitsIndex; simp only [Bool.and_eq_true, decide_eq_true_eq]; omega
  have f2 : Builtin.Bytes.tooLong n.toNat = false := by unfold Builtin.Bytes.tooLong; rw [sizeLine_eq]; simp only [decide_eq_false_iff_not]; omega
  have f3 : (n == 2 ^ 63 - 1) = false := by rw [beq_eq_false_iff_ne]; omega
  rw [if_neg (by rw [f1]; decide), if_neg (by omega), if_neg (by rw [f3]; decide), if_neg (by rw [f2]; decide)]
  refine wpS_bindA (wpAny_rule ?_)
  rw [if_pos h0]
  refine wpS_bindA (write_ba ho₁ (by rw [Array.size_replicate, sizeLine_eq]; omega) fun h₂ ho₂ hs₂ => ?_)
  exact wpS_pure (h h₂ ho₂ fun b o hb e => hs₂.extBut b o hb (hs₁.extBut b o hb e))

/-- bytearray(n), from a stack that holds no decoder -/
theorem new_ba {n : Int} {t : Tok} {Q : Value → Shared → Prop} (h0 : 0 < n) (h1 : n ≤ 100)
    (h : ∀ D h', s.heap.get? D = none → h'.get? D = some { cls := .type "bytearray", data := .bytearray (Array.replicate n.toNat 0) } → (∀ b o, s.heap.get? b = some o → h'.get? b = some o) → Q (.ref D) { s with heap := h' }) :
    wpS (model prog w) A (call (.type "bytearray") [.int n t]) Q E s := by
  have fresh : s.heap.get? s.heap.objs.size = none := by
    cases e : s.heap.get? s.heap.objs.size with
    | none => rfl
    | some o' => exact absurd (Heap.lt_size e) (Nat.lt_irrefl _)
  refine ba_call (init_ba (Heap.get?_push_size _ rfl) h0 h1 fun h' ho' hk' => ⟨rfl, ?_⟩)
  exact h _ h' fresh ho' fun b o e => hk' b o (Nat.ne_of_lt (Heap.lt_size e)) (Heap.get?_push_of_some _ e)
end
end Mine
end

/-! part NySet -/
section
open PySem PySem.W PyProof.Rows
set_option maxRecDepth 100000
namespace Mine.BF
open PySem
theorem slot_ba_setitem : Slot "bytearray" "__setitem__" "bytearray.__setitem__" :=
  .of (owner := "bytearray") (n := "__setitem__") (by rw [typeLookup_type, builtinLookup_eq_fast]; kernel_rfl) (by decide +kernel) (by decide +kernel) (by decide +kernel)
    (by first | exact .inl (by decide +kernel) | exact .inr (by decide +kernel)) (by rw [isSubtype_type]; kernel_rfl)
theorem entry_ba_setitem : entryFor table "bytearray.__setitem__" = some Builtin.«bytearray.__setitem__» := by first | exact entryFor_of_fast (by kernel_rfl) | exact entryFor_of_tree (by kernel_rfl)
theorem args_ba_setitem (a b c : Value) : argsOk "bytearray.__setitem__" ⟨[a, b, c], []⟩ := by
  unfold argsOk; rw [signature?_of (id := "bytearray.__setitem__") (n := ['_', '_', 'm', 'e', 't', 'i', 't', 'e', 's', '_', '_']) (o := ['y', 'a', 'r', 'r', 'a', 'e', 't', 'y', 'b']) (by kernel_rfl) owner_bytearray]; kernel_rfl
theorem ba_no_bytes : typeLookup (.type "bytearray") "__bytes__" = pure none := by rw [typeLookup_type, builtinLookup_eq_fast]; kernel_rfl
theorem ba_no_index : typeLookup (.type "bytearray") "__index__" = pure none := by rw [typeLookup_type, builtinLookup_eq_fast]; kernel_rfl
theorem ba_buffer : typeLookup (.type "bytearray") "__buffer__" = pure (some (.builtin "bytearray.__buffer__")) := by rw [typeLookup_type, builtinLookup_eq_fast]; kernel_rfl
end Mine.BF

namespace Mine
open PySem PySem.W PySem.Calls PyProof.Rows PySem.Spec
section
variable {prog : Program} {w : World} {A : Around} {E : Value → Shared → Prop} {s : Shared}

theorem payload_ba {a : Addr} {M : Model} {b : Array UInt8} {Q : Array UInt8 → Shared → Prop} (ho : s.heap.get? a = some { cls := .type "bytearray", data := .bytearray b }) (h : Q b s) : wpAny M A (Builtin.Bytes.payload (.ref a)) Q E s := by
  unfold Builtin.Bytes.payload Builtin.Bytes.payload?
  refine wpAny_bind (wpAny_bind (wpAny_load ho ?_))
  exact wpAny_pure (wpAny_pure h)

theorem setItem_ba {a : Addr} {b : Array UInt8} {k v : Int} {tk tv : Tok} {Q : Unit → Shared → Prop} (ho : s.heap.get? a = some { cls := .type "bytearray", data := .bytearray b }) (hz : b.size ≤ 100) (h0 : 0 ≤ k) (h1 : k < b.size) (v0 : 0 ≤ v) (v1 : v < 256)
    (h : ∀ h', h'.get? a = some { cls := .type "bytearray", data := .bytearray (b.setIfInBounds k.toNat v.toNat.toUInt8) } → Heap.SameBut a s.heap h' → Q () { s with heap := h' }) :
    wpAny (model prog w) A (setItem (.ref a) (.int k tk) (.int v tv)) Q E s := by
  have hT : s.TypeIs (.ref a) "bytearray" := ⟨_, ho, rfl⟩
  unfold setItem
  refine wpAny_holding ?_
  refine wpAny_bind (wpAny_sequenceKey hT (by decide +kernel) ?_)
  refine wpAny_bind (wpAny_callSpecial?_slot (name := Str.ofString "__setitem__") hT BF.slot_ba_setitem (wpAny_call_entry BF.slot_ba_setitem hT BF.entry_ba_setitem ?_ (BF.args_ba_setitem _ _ _)))
  unfold Builtin.«bytearray.__setitem__»
  simp only [List.isEmpty_nil, Bool.not_true, Bool.false_eq_true, if_false]
  refine wpAny_bind ?_
  unfold Builtin.Bytes.subscript?
  refine wpAny_bind (wpAny_specialOf (typeIs_int _ k tk) _root_.PySem.int_index ?_)
  simp only [Option.isNone_some, Bool.false_eq_true, if_false]
  refine wpAny_bind (wpAny_of_eq (a := k) rfl ?_)
  have f1 : Builtin.Bytes.fitsIndex k = true := by unfold Builtin.Bytes.fitsIndex; simp only [Bool.and_eq_true, decide_eq_true_eq]; omega
  rw [if_neg (by rw [f1]; decide)]
  refine wpAny_pure ?_
  dsimp only
  refine wpAny_bind ?_
  unfold Builtin.Bytes.byteValue
  refine wpAny_bind (wpAny_of_eq (a := v) rfl ?_)
  rw [if_neg (by simp only [Bool.or_eq_true, decide_eq_true_eq]; omega)]
  refine wpAny_pure ?_
  refine wpAny_bind (payload_ba ho ?_)
  have e : seqIndex? k b.size = some k.toNat := by
    have h3 : ¬ k < 0 := by omega
    simp [seqIndex?, h3, h0, h1]
  rw [e]
  dsimp only
  refine wpAny_bind (write_ba ho (by rw [Array.size_setIfInBounds, sizeLine_eq]; omega) fun h' ho' hs' => ?_)
  exact wpAny_pure ⟨_, rfl, wpAny_pure (h h' ho' hs')⟩

theorem buffer_ba {a : Addr} {b : Array UInt8} {M : Model} {Q : Option (Array UInt8) → Shared → Prop} (ho : s.heap.get? a = some { cls := .type "bytearray", data := .bytearray b }) (h : Q (some b) s) :
    wpAny M A (Builtin.Bytes.buffer? "bytes.__new__" (.ref a) true) Q E s := by
  have hT : s.TypeIs (.ref a) "bytearray" := ⟨_, ho, rfl⟩
  unfold Builtin.Bytes.buffer?
  refine wpAny_bind (wpAny_specialOf hT BF.ba_buffer ?_)
  dsimp only
  refine wpAny_bind ?_
  unfold Builtin.Bytes.slotIsOwn
  refine wpAny_bind (wpAny_specialOf hT BF.ba_buffer ?_)
  dsimp only
  rw [if_neg (show ¬ ((!("bytearray.__buffer__".endsWith ("." ++ "__buffer__"))) = true) from by decide +kernel)]
  rw [show "bytearray.__buffer__".dropRight ("__buffer__".length + 1) = "bytearray" from by decide +kernel]
  refine wpAny_isInstance hT _root_.PySem.F.isi_self_bytearray ?_
  simp only [Bool.not_true, Bool.false_eq_true, if_false]
  refine wpAny_bind (wpAny_specialOf hT BF.ba_buffer ?_)
  refine wpAny_bind (own_release hT ?_)
  simp only [Bool.false_eq_true, if_false]
  exact wpAny_bind (payload_ba ho (wpAny_pure h))

theorem new_bytes {a : Addr} {b : Array UInt8} {Q : Value → Shared → Prop} (ho : s.heap.get? a = some { cls := .type "bytearray", data := .bytearray b }) (hz : b.size ≤ 100) (h : ∀ t k, Q (.bytes b t) { s with toks := k }) :
    codeAny (model prog w) A (.call (.builtin "bytes.__new__") ⟨[.type "bytes", .ref a], []⟩) (wants Q E) s := by
  refine codeAny_of_tree ?_
  show wpAny _ A.in1 (do checkBuiltinCall "bytes.__new__" ⟨[.type "bytes", .ref a], []⟩; again (.builtin "bytes.__new__" ⟨[.type "bytes", .ref a], []⟩)) _ _ s
  refine wpAny_bind (wpAny_of_eq (F.bm_newCall _) (wpAny_pure ⟨plainId_quiet F.bm_plain _, codeAny_builtin F.bm_entry ?_⟩))
  rw [Around.under_plainId F.bm_plain _]
  have hT : s.TypeIs (.ref a) "bytearray" := ⟨_, ho, rfl⟩
  unfold Builtin.«bytes.__new__»
  refine wpAny_bind (wpAny_of_eq (a := true) rfl ?_)
  refine bm_if_false rfl ?_
  refine wpAny_bind (wpAny_of_eq F.bm_sub ?_)
  refine bm_if_false rfl ?_
  refine wpAny_bind (wpAny_of_eq (F.bm_bind _) ?_)
  refine wpAny_bind (wpAny_of_eq (a := ()) rfl ?_)
  refine wpAny_bind (wpAny_of_eq (a := ()) rfl ?_)
  refine bm_if_false rfl ?_
  refine wpAny_bind (wpAny_specialOf hT BF.ba_no_bytes ?_)
  refine wpAny_bind (wpAny_bind ?_)
  show wpAny _ _ (load a >>= _) _ _ _
  refine wpAny_bind (wpAny_load ho ?_)
  refine wpAny_pure (wpAny_pure ?_)
  refine bm_if_false rfl ?_
  refine wpAny_bind (wpAny_specialOf hT BF.ba_no_index ?_)
  refine bm_if_true rfl ?_
  first
    | show wpAny _ _ (Builtin.Bytes.buffer? "bytes.__new__" (.ref a) true >>= _) _ _ _
    | (refine wpAny_bind ?_; show wpAny _ _ (Builtin.Bytes.buffer? "bytes.__new__" (.ref a) true >>= _) _ _ _)
  refine wpAny_bind (buffer_ba ho ?_)
  refine wpAny_bind (wpAny_rule (wpAny_bind (wpAny_mkBytes ?_ (by rw [sizeLine_eq]; omega))))
  show wpAny _ _ (if (Value.type "bytes" == Value.type "bytes") = true then _ else _) _ _ _
  refine bm_if_true (by decide) ?_
  first
    | exact wpAny_pure (h _ _)
    | exact wpAny_pure ⟨_, rfl, h _ _⟩
    | exact wpAny_bind (wpAny_pure (wpAny_pure (h _ _)))
    | exact wpAny_bind (wpAny_pure (wpAny_pure ⟨_, rfl, h _ _⟩))

/-- bytes(b) of a bytearray -/
theorem call_bytes_ba {a : Addr} {b : Array UInt8} {Q : Value → Shared → Prop} (ho : s.heap.get? a = some { cls := .type "bytearray", data := .bytearray b }) (hz : b.size ≤ 100) (h : ∀ t k, Q (.bytes b t) { s with toks := k }) :
    wpAny (model prog w) A (call (.type "bytes") [.ref a]) Q E s := by
  refine callType_codes (Q₁ := fun obj s₁ => s₁.TypeIs obj "bytes" ∧ Q obj s₁) F.bm_called (F.bm_typeCall _) F.entry_object_init
    (new_bytes ho hz fun t k => ⟨PySem.W.typeIs_bytes _ _ _, h t k⟩) fun obj s₁ h₁ => ?_
  exact ⟨h₁.1, F.args_object_init_2 obj _, object_init_meets F.bm_called.init.lookup F.bm_called.made (by decide) prog w A.in1 _ s₁ ⟨h₁.1, rfl, h₁.2⟩⟩
end
end Mine
end

/-! part NySwap -/
section
open PySem PySem.W PyProof.Rows
namespace Mine
open PySem PySem.W PySem.Calls PyProof.Rows PySem.Spec

theorem wpS_callWith_type {M : Model} {A : Around} {E : Value → Shared → Prop} {s : Shared} {env : Env} {pos : Pos} {T : String} {e : Expr} {rest : List Expr} {Q : Value → Shared → Prop}
    (h : wpAny M A (spliced (backTo pos (starEach (e :: rest) env))) (fun vs s₁ => wpS M A (call (.type T) vs) Q E s₁) E s)
    (he : starEach (e :: rest) env = (false, eval e env) :: starEach rest env := by rfl)
    (hplain : (backTo pos (starEach rest env)).any (·.1) = false := by rfl) :
    wpS M A (callWith pos (.type T) [] (backTo pos (starEach (e :: rest) env)) []) Q E s := by
  rw [he] at h ⊢
  have hp : (backTo pos ((false, eval e env) :: starEach rest env)).any (·.1) = false := by
    show (false || (backTo pos (starEach rest env)).any (·.1)) = false; rw [hplain]; rfl
  unfold callWith
  refine wpS_bindA (wpAny_holding (evalArgs_plain (wpAny_mono h (fun a s₁ h₁ => wpS_bindA (wpAny_standAt ?_)) fun _ _ x => x)))
  simp only [hp, List.any_nil, Bool.or_false]
  refine wpS_bindA (wpAny_pure ?_)
  exact wpS_bind (wpS_mono h₁ (fun r s₂ hr => wpS_of (wpAny_bind (wpAny_holding (wpAny_point (wpAny_pure hr))))) fun _ _ x => x)

def Halt (P : Prop) : Prop := P
theorem Halt.intro {P : Prop} (h : Halt P) : P := h
theorem fits_ok {i : Int} (h0 : -200 ≤ i) (h1 : i ≤ 300) : Builtin.Range.rangeFitsLong i = true := by
  unfold Builtin.Range.rangeFitsLong
  simp only [Bool.and_eq_true, decide_eq_true_eq]
  omega
theorem size_one {n : Int} {k : Nat} (hn : n = k) (h0 : 0 < n) : Builtin.Range.rangeSize 0 k n = ((1 : Nat) : Int) := by
  unfold Builtin.Range.rangeSize
  subst hn
  rw [if_pos h0, if_pos h0, Int.ediv_eq_zero_of_lt (by omega) (by omega)]
  rfl
theorem size_all {n : Int} {k : Nat} (hn : n = k) (h0 : 0 < n) : Builtin.Range.rangeSize 0 n 1 = ((k : Nat) : Int) := by
  unfold Builtin.Range.rangeSize
  subst hn
  rw [if_pos (by decide), if_pos h0, Int.ediv_one]
  omega
theorem small_ok {n c : Int} {k : Nat} (hz : Builtin.Range.rangeSize 0 n c = (k : Int)) (hk : k ≤ 100) (h : n ≤ 100) (h0 : 0 < n) (hc : 0 < c) (hc1 : c ≤ 100) : Builtin.Range.small 0 n c = true := by
  unfold Builtin.Range.small
  rw [hz, fits_ok (i := 0) (by decide) (by decide), fits_ok (i := n) (by omega) (by omega), fits_ok (i := c) (by omega) (by omega), fits_ok (i := (k : Int)) (by omega) (by omega), if_pos hc, fits_ok (i := n + (c - 1)) (by omega) (by omega)]
  simp
theorem set_step {b : Array UInt8} {ws : List Int} {i : Nat} (hb : b.size = ws.length) (hi : i < ws.length) (hj : ∀ j, j < i → b[ws.length - 1 - j]?.map (fun c => (c.toNat : Int)) = ws[j]?) (v0 : 0 ≤ ws.getD i 0) (v1 : ws.getD i 0 < 256) :
    (b.setIfInBounds (ws.length - 1 - i) (ws.getD i 0).toNat.toUInt8).size = ws.length ∧ ∀ j, j < i + 1 → (b.setIfInBounds (ws.length - 1 - i) (ws.getD i 0).toNat.toUInt8)[ws.length - 1 - j]?.map (fun c => (c.toNat : Int)) = ws[j]? := by
  refine ⟨by simpa using hb, fun j h => ?_⟩
  by_cases e : j = i
  · subst e
    have hlt : ws.length - 1 - j < b.size := by omega
    have hg : ws[j]? = some (ws.getD j 0) := by rw [List.getD_eq_getElem?_getD, List.getElem?_eq_getElem hi]; rfl
    rw [Array.getElem?_setIfInBounds_self_of_lt hlt, hg, Option.map_some]
    congr 1
    have : (ws.getD j 0).toNat.toUInt8.toNat = (ws.getD j 0).toNat := by
      rw [Nat.toUInt8, UInt8.toNat_ofNat']
      omega
    rw [this]
    omega
  · rw [Array.getElem?_setIfInBounds_ne (by omega)]
    exact hj j (by omega)
theorem all_set {b : Array UInt8} {ws : List Int} (hb : b.size = ws.length) (hj : ∀ j, j < ws.length → b[ws.length - 1 - j]?.map (fun c => (c.toNat : Int)) = ws[j]?) : KBw.bInts b = ws.reverse := by
  apply List.ext_getElem?
  intro k
  by_cases hk : k < ws.length
  · have h := hj (ws.length - 1 - k) (by omega)
    have e : ws.length - 1 - (ws.length - 1 - k) = k := by omega
    rw [e] at h
    rw [List.getElem?_reverse hk, ← h]
    simp [KBw.bInts]
  · rw [List.getElem?_eq_none (by rw [KBw.ints_length]; omega), List.getElem?_eq_none (by simp; omega)]

/-- a turn's end, the walk being told what holds then -/
def TurnJ (h₀ : Heap) (L : Addr) (s₁ : Shared) (I : Addr) (it : Obj) (J : (Str → Option Value) → List (Addr × Obj) → Prop) (Q : Flow → Shared → Prop) (f : Flow) (s₂ : Shared) : Prop :=
  match f with
  | .ret v => Q (.ret v) s₂
  | .brk => Q .next s₂
  | _ => ∃ h' tk m' news', s₂ = { s₁ with heap := h', toks := tk } ∧ Fr h₀ L h' m' ∧ News h₀ L h' ((I, it) :: news') ∧ (∀ p ∈ news', p.1 ≠ I) ∧ J m' news'
theorem krs_all {prog : Program} {w : World} {A : Around} {E : Value → Shared → Prop} {s : Shared} {env : Env} {h₀ : Heap} {x : Str} {body : List Stmt} {Q : Flow → Shared → Prop} {I : Addr} {a c : Int} {n : Nat}
    (J : Nat → (Str → Option Value) → List (Addr × Obj) → Prop)
    (turn : ∀ i m₁ news₁ t h tk, i < n → J i m₁ news₁ → Fr h₀ env.locals h (fun y => if y = x then some (.int (a + (i : Int) * c) t) else m₁ y) → News h₀ env.locals h ((I, krsIt (a + ((i + 1 : Nat) : Int) * c) ((n : Int) - ((i + 1 : Nat) : Int)) c) :: news₁) →
      wpAny (model prog w) A (execs body env) (TurnJ h₀ env.locals { s with heap := h, toks := tk } I (krsIt (a + ((i + 1 : Nat) : Int) * c) ((n : Int) - ((i + 1 : Nat) : Int)) c) (J (i + 1)) Q) E { s with heap := h, toks := tk })
    (done : ∀ h tk m' news', J n m' news' → Fr h₀ env.locals h m' → News h₀ env.locals h news' → Q .next { s with heap := h, toks := tk }) :
    ∀ k i m news, k + i = n → J i m news → KrsRest prog w A E h₀ env x body Q s I a c n k i m news
  | 0, i, m, news, hk, hJ => by
    intro h tk F N
    have : i = n := by omega
    subst this
    exact done h tk m news hJ F N
  | k + 1, i, m, news, hk, hJ => by
    intro t h tk F N
    refine wpAny_mono (turn i m news t h tk (by omega) hJ F N) (fun f s₂ hf => ?_) fun _ _ e => e
    have fin : (∃ h' tk' m' news', s₂ = { ({ s with heap := h, toks := tk } : Shared) with heap := h', toks := tk' } ∧ Fr h₀ env.locals h' m' ∧ News h₀ env.locals h' ((I, krsIt (a + ((i + 1 : Nat) : Int) * c) ((n : Int) - ((i + 1 : Nat) : Int)) c) :: news') ∧ (∀ p ∈ news', p.1 ≠ I) ∧ J (i + 1) m' news') →
        UnrEnd h₀ env.locals { s with heap := h, toks := tk } I (krsIt (a + ((i + 1 : Nat) : Int) * c) ((n : Int) - ((i + 1 : Nat) : Int)) c) (KrsRest prog w A E h₀ env x body Q s I a c n k (i + 1)) s₂ := by
      rintro ⟨h', tk', m', news', e, F', N', off, hJ'⟩
      exact ⟨h', tk', m', news', e, F', N', off, krs_all J turn done k (i + 1) m' news' (by omega) hJ'⟩
    cases f with
    | ret v => exact hf
    | brk => exact hf
    | next => exact fin hf
    | cont => exact fin hf

section
variable {prog p : Program} {w : World} {loose : List Str} {mean : ExcName → Option Value} {mg mb : Str → Option Value}
local macro_rules | `(tactic| walk_at "exec For Name Call cons nil") => `(tactic| (k_here; (rename Fr _ _ _ _ => lF'); (with_unfolding_all refine' For_invVF lF' ?k1 ?k2 ?_; (case k1 => exact rfl); (case k2 => exact rfl); k_whole)))
local macro_rules | `(tactic| walk_at "pyIter ref") => `(tactic| (k_here; refine Halt.intro ?_))
local macro_rules | `(tactic| walk_at "UnrPost") => `(tactic| (refine Halt.intro ?_))
set_option maxRecDepth 100000 in
set_option maxHeartbeats 8000000 in
theorem swap_call {dp un : Nat} {gd : Option (List Code)} {cn : Str} {cs : Scope} {a' : Addr} {ccd : Value} {cl : List (Str × Addr)} {outer : List Env}
    {A₀ : Around} {base h₀ : Heap} {L : Addr} {m : Str → Option Value} {news : List (Addr × Obj)} {s : Shared} {Q E : Value → Shared → Prop}
    {wb : Array UInt8} {tb tn : Tok} {ws : List Int} {n : Int}
    (B : Below A₀ base outer h₀) (F : Fr h₀ L s.heap m) (XK : (Mine.hd.heap_39 w.params).In h₀) (N : News h₀ L s.heap news) (T : Top p loose mean mg mb h₀) (hk : cs.kind = .function)
    (hw : KBw.bInts wb = ws) (hn : n = ws.length) (hn0 : 0 < n) (hn1 : n ≤ 100)
    (hd : dp + 5 < recursionLimit) (hu : un + 32 < cLine)
    (ret : ∀ b' t' h' tk', Fr h₀ L h' m → News h₀ L h' news → KBw.bInts b' = ws.reverse → Q (.bytes b' t') { s with heap := h', toks := tk' }) :
    wpS (model prog w) (ktrTop dp un gd cn cs L a' ccd cl outer) (call (.ref 21) [.bytes wb tb, .int n tn]) Q E s := by
  have kf : PySem.Challenge.rw_ny0011_01.prog = PySem.Challenge.rw_ny0011_01.prog ∧ Mine.hd.heap_39 = Mine.hd.heap_39 := by k_fill; exact ⟨rfl, rfl⟩
  clear kf
  w_on
  w_top on
  refine wpS_call ?_
  k_dflt (refine' codeS_def ?k1 ?k2 ?k3 ?k4 ?k5 ?kA ?kF ?kK ?k6 ?k7 ?k8 ?k9 ?kB ?_ ?c2 ?c3 ?c4 ?c5; (case kA => exact rfl); (case kF => exact rfl); (case kK => assumption); (case k1 => k_asm); (case k2 => k_asm); (case k3 => k_asm); (case k4 => k_asm); (case k5 => k_asm); (case k6 => k_is); (case k7 => k_is); (case k8 => ktr_room); (case k9 => exact BindsTo.of_eq rfl); (case c5 => decide); (case kB => exact locs rfl); (case c2 => exact rfl); (case c3 => exact rfl); (case c4 => exact rfl); intro g' L' h' FG' F' N' B' X' T'; (try dsimp only))
  have F2 : Fr g' L' h' (fun y => List.lookup y [(Str.ofString "width", Value.int n tn), (Str.ofString "data", Value.bytes wb tb)]) := F'
  clear F'
  generalize (s.toks + _ : Nat) = tk0
  refine wpS_execs_cons ?_
  refine wpS_Assign_Name ?_
  refine wpS_Call_Name ?_
  k_steps
  refine wpS_callWith_type ?_
  k_steps
  refine new_ba (by omega) (by omega) ?_
  intro D hD hfresh hget hkeep
  (rename News _ _ _ _ => N8)
  (rename Fr _ _ _ _ => F8)
  have F7 := F8.keptAll hkeep
  have N7 := news_new F8 N8 hkeep hfresh hget
  have hne : ∀ p ∈ news, p.1 ≠ D := fun p hp e => by
    have := (N8 p hp).1
    rw [e] at this
    rw [this] at hfresh
    cases hfresh
  clear F8 N8 hkeep hfresh hget
  k_steps
  refine wpS_of ?_
  k_steps
  unfold Halt
  (rename News _ _ _ _ => N6)
  (rename Fr _ _ _ _ => F6)
  (rename IsRange _ _ _ _ _ _ _ _ => R6)
  refine krs_iter (n := 1) rfl R6 (small_ok (size_one hn hn0) (by omega) (by omega) (by omega) (by omega) (by omega)) (size_one hn hn0) F6 N6 ?_
  intro I hI
  refine KrsRest.succ (v := 0) (by simp) ?_
  intro t5 h5 tk5 F5 N5
  clear F6 N6 R6
  k_steps
  unfold Halt
  (rename News _ _ _ _ => N4)
  (rename Fr _ _ _ _ => F4)
  (rename IsRange _ _ _ _ _ _ _ _ => R4)
  refine krs_iter (n := ws.length) rfl R4 (small_ok (size_all hn hn0) (by omega) (by omega) (by omega) (by omega) (by omega)) (size_all hn hn0) F4 N4 ?_
  intro I2 hI2
  clear F4 N4 R4
  have hDI : D < I := hI (D, _) (.head _)
  have hDI2 : D < I2 := hI2 (D, _) (.tail _ (.head _))
  refine krs_all (fun i m₁ nx => ∃ (b : Array UInt8) (u : Str → Option Value), b.size = ws.length ∧ (∀ j, j < i → b[ws.length - 1 - j]?.map (fun c => (c.toNat : Int)) = ws[j]?) ∧
      m₁ = (fun y => if y = Str.ofString "j" then u y else if y = Str.ofString "i" then some (Value.int 0 t5) else if y = Str.ofString "swapped_data" then some (Value.ref D) else List.lookup y [(Str.ofString "width", Value.int n tn), (Str.ofString "data", Value.bytes wb tb)]) ∧
      nx = (I, krsIt (0 + ((0 + 1 : Nat) : Int) * n) (((1 : Nat) : Int) - ((0 + 1 : Nat) : Int)) n) :: (D, { cls := Value.type "bytearray", data := Data.bytearray b }) :: news) ?_ ?_ _ _ _ _ (by rfl) ?_
  · rintro i m₁ nx t3 h3 tk3 hi ⟨b, u, hb, hj, rfl, rfl⟩ F3 N3
    k_steps
    (rename (0 ≤ List.getD _ _ _) => v0)
    (rename (List.getD _ _ _ < 256) => v1)
    have ei : (0 + (0 + (i : Int) * 1)).toNat = i := by omega
    have ek : (0 + n - 1 - (0 + (i : Int) * 1)).toNat = ws.length - 1 - i := by omega
    rw [ei] at v0 v1
    have hDm := N3 (D, _) (.tail _ (.tail _ (.head _)))
    refine setItem_ba (b := b) hDm.1 (by omega) (by omega) (by omega) (by rw [ei]; exact v0) (by rw [ei]; exact v1) ?_
    intro h2 ho2 hs2
    rw [ei, ek] at ho2
    have F1 := F3.change hs2 hDm.2.1 hDm.2.2
    have N1 := News.setAt (own := [(I2, krsIt (0 + ((i + 1 : Nat) : Int) * 1) ((ws.length : Int) - ((i + 1 : Nat) : Int)) 1), (I, krsIt (0 + ((0 + 1 : Nat) : Int) * n) (((1 : Nat) : Int) - ((0 + 1 : Nat) : Int)) n)]) (d := D) (rest := news) N3 (by
      intro p hp
      rcases List.mem_cons.mp hp with rfl | hp
      · exact (Nat.ne_of_lt hDI2).symm
      · rcases List.mem_cons.mp hp with rfl | hp
        · exact (Nat.ne_of_lt hDI).symm
        · cases hp) hne hs2 ho2
    obtain ⟨st1, st2⟩ := set_step hb hi hj v0 v1
    clear F3 N3
    k_steps
    refine ⟨_, _, _, _, rfl, F1, N1, ?_, _, fun y => if y = Str.ofString "j" then some (Value.int (0 + (i : Int) * 1) t3) else none, st1, st2, ?_, rfl⟩
    · intro p hp
      rcases List.mem_cons.mp hp with rfl | hp
      · exact Nat.ne_of_lt (hI2 _ (.head _))
      · rcases List.mem_cons.mp hp with rfl | hp
        · exact Nat.ne_of_lt hDI2
        · exact Nat.ne_of_lt (hI2 _ (.tail _ (.tail _ hp)))
    · funext y
      by_cases h1 : y = Str.ofString "j" <;> simp [h1]
  · rintro h3 tk3 m₁ nx ⟨b, u, hb, hj, rfl, rfl⟩ F3 N3
    dsimp only
    k_steps
    unfold Halt
    refine UnrEnd.intro F3 N3 _ (fun p hp => hp) ?_ ?_
    · intro p hp
      rcases List.mem_cons.mp hp with rfl | hp
      · exact Nat.ne_of_lt hDI
      · exact Nat.ne_of_lt (hI _ (.tail _ hp))
    refine KrsRest.zero ?_
    intro h1 tk1 F1 N1
    clear F3 N3
    dsimp only
    k_steps
    refine call_bytes_ba (N1.get (.head _)) (by omega) ?_
    intro t0 k0
    k_steps
    (rename News _ _ _ _ => N0)
    (rename Fr _ _ _ _ => F0)
    exact ret b t0 _ _ F0 (cb_drop N0 fun p hp => .tail _ hp) (all_set hb hj)
  · exact ⟨_, fun y => if y = Str.ofString "i" then some (Value.int 0 t5) else if y = Str.ofString "swapped_data" then some (Value.ref D) else List.lookup y [(Str.ofString "width", Value.int n tn), (Str.ofString "data", Value.bytes wb tb)], by simp, fun j hj => absurd hj (Nat.not_lt_zero _), by funext y; simp, rfl⟩
end
end Mine
end

/-! part NyLaw -/
section
open PySem PySem.W PyProof.Rows
namespace Mine
open PySem PySem.W

abbrev iAdd : Int → Int → Int := fun x y => x + y
abbrev iMul : Int → Int → Int := fun x y => x * y
def onT (X Y : Tab) : Tab := ⟨X.a * Y.a + X.b * Y.c, X.a * Y.b + X.b * Y.d, X.c * Y.a + X.d * Y.c, X.c * Y.b + X.d * Y.d⟩
def backT (X Y : Tab) : Tab := ⟨Y.a * X.a + Y.b * X.c, Y.a * X.b + Y.b * X.d, Y.c * X.a + Y.d * X.c, Y.c * X.b + Y.d * X.d⟩
def tellT (S : Four) (X Y W : Tab) : Tab := toldTab (S.x, S.y, S.z, S.u) X Y W
def stepT (X Y : Tab) : Four → Int → Four := Four.step (X.a + X.d) (Y.a + Y.d) (X.a * Y.a + X.b * Y.c + X.c * Y.b + X.d * Y.d) (X.a * X.d - X.b * X.c) (Y.a * Y.d - Y.b * Y.c)

theorem tab_ext {x y : Tab} (h1 : x.a = y.a) (h2 : x.b = y.b) (h3 : x.c = y.c) (h4 : x.d = y.d) : x = y := by
  cases x; cases y; simp_all
theorem prod_assoc (x y z : Tab) : Tab.prod iAdd iMul (Tab.prod iAdd iMul x y) z = Tab.prod iAdd iMul x (Tab.prod iAdd iMul y z) := by
  apply tab_ext <;> simp only [Tab.prod, iAdd, iMul] <;> grind

theorem on_step (S : Four) (X Y : Tab) (k : Int) : Tab.prod iAdd iMul (tellT S X Y (onT X Y)) (pick X Y k) = tellT (stepT X Y S k) X Y (onT X Y) := by
  unfold pick stepT Four.step
  obtain ⟨x, y, z, u⟩ := S
  obtain ⟨a, b, c, d⟩ := X
  obtain ⟨e, f, g, h⟩ := Y
  split <;> apply tab_ext <;> simp only [Tab.prod, tellT, toldTab, onT, iAdd, iMul] <;> grind
theorem back_step (S : Four) (X Y : Tab) (k : Int) : Tab.prod iAdd iMul (pick X Y k) (tellT S X Y (backT X Y)) = tellT (stepT X Y S k) X Y (backT X Y) := by
  unfold pick stepT Four.step
  obtain ⟨x, y, z, u⟩ := S
  obtain ⟨a, b, c, d⟩ := X
  obtain ⟨e, f, g, h⟩ := Y
  split <;> apply tab_ext <;> simp only [Tab.prod, tellT, toldTab, backT, iAdd, iMul] <;> grind

def oneT : Tab := ⟨1, 0, 0, 1⟩
def rdZ (X Y : Tab) (ws : List Int) : Tab := readFrom iAdd iMul X Y oneT ws
theorem one_prod (M : Tab) : Tab.prod iAdd iMul oneT M = M := by
  apply tab_ext <;> simp only [Tab.prod, oneT, iAdd, iMul] <;> grind
theorem prod_one (M : Tab) : Tab.prod iAdd iMul M oneT = M := by
  apply tab_ext <;> simp only [Tab.prod, oneT, iAdd, iMul] <;> grind
theorem rdZ_cons (X Y : Tab) (k : Int) (ws : List Int) : readFrom iAdd iMul X Y (pick X Y k) ws = rdZ X Y (k :: ws) := by
  unfold rdZ readFrom
  rw [List.foldl_cons, one_prod]
theorem rdZ_more (X Y : Tab) (k : Int) (ws : List Int) : rdZ X Y (ws ++ [k]) = Tab.prod iAdd iMul (rdZ X Y ws) (pick X Y k) := by
  unfold rdZ readFrom
  rw [List.foldl_append]
  rfl
theorem on_all (X Y : Tab) : ∀ (ws : List Int) (S : Four), readFrom iAdd iMul X Y (tellT S X Y (onT X Y)) ws = tellT (ws.foldl (stepT X Y) S) X Y (onT X Y)
  | [], _ => rfl
  | k :: ws, S => by
    unfold readFrom
    rw [List.foldl_cons, List.foldl_cons, on_step]
    exact on_all X Y ws _
theorem back_all (X Y : Tab) : ∀ (ws : List Int) (S : Four), Tab.prod iAdd iMul (rdZ X Y ws.reverse) (tellT S X Y (backT X Y)) = tellT (ws.foldl (stepT X Y) S) X Y (backT X Y)
  | [], S => one_prod _
  | k :: ws, S => by
    rw [List.reverse_cons, rdZ_more, prod_assoc, back_step]
    exact back_all X Y ws _
theorem tell_one (X Y W : Tab) : tellT ⟨1, 0, 0, 0⟩ X Y W = oneT := by
  apply tab_ext <;> simp [tellT, toldTab, oneT]
theorem told_on (X Y : Tab) (ws : List Int) : rdZ X Y ws = tellT (four X Y ws) X Y (onT X Y) := by
  have h := on_all X Y ws ⟨1, 0, 0, 0⟩
  rw [tell_one] at h
  exact h
theorem told_back (X Y : Tab) (ws : List Int) : rdZ X Y ws.reverse = tellT (four X Y ws) X Y (backT X Y) := by
  have h := back_all X Y ws ⟨1, 0, 0, 0⟩
  rw [tell_one, prod_one] at h
  exact h
theorem traceZ (X Y : Tab) (ws : List Int) : (rdZ X Y ws).a + (rdZ X Y ws).d = (rdZ X Y ws.reverse).a + (rdZ X Y ws.reverse).d := by
  rw [told_on, told_back]
  simp only [tellT, toldTab, onT, backT]
  grind

def TabRel (R : Int → Int → Prop) (x y : Tab) : Prop := R x.a y.a ∧ R x.b y.b ∧ R x.c y.c ∧ R x.d y.d
theorem read_rel {R : Nat → Int → Int → Prop} {Lr : Int → Int → Prop} {f g : Int → Int → Int}
    (hg : ∀ n V x U y, R n V x → Lr U y → R n (V * U) (g x y)) (hf : ∀ n V x U y, R n V x → R n U y → R (n + 1) (V + U) (f x y)) {X Y X' Y' : Tab} (hX : TabRel Lr X' X) (hY : TabRel Lr Y' Y) :
    ∀ ws n P' P, TabRel (R n) P' P → TabRel (R (n + ws.length)) (readFrom iAdd iMul X' Y' P' ws) (readFrom f g X Y P ws)
  | [], _, _, _, h => h
  | k :: ws, n, P', P, h => by
    have hp : TabRel Lr (pick X' Y' k) (pick X Y k) := by
      unfold pick
      split
      · exact hX
      · exact hY
    have h' : TabRel (R (n + 1)) (Tab.prod iAdd iMul P' (pick X' Y' k)) (Tab.prod f g P (pick X Y k)) :=
      ⟨hf _ _ _ _ _ (hg _ _ _ _ _ h.1 hp.1) (hg _ _ _ _ _ h.2.1 hp.2.2.1), hf _ _ _ _ _ (hg _ _ _ _ _ h.1 hp.2.1) (hg _ _ _ _ _ h.2.1 hp.2.2.2),
        hf _ _ _ _ _ (hg _ _ _ _ _ h.2.2.1 hp.1) (hg _ _ _ _ _ h.2.2.2 hp.2.2.1), hf _ _ _ _ _ (hg _ _ _ _ _ h.2.2.1 hp.2.1) (hg _ _ _ _ _ h.2.2.2 hp.2.2.2)⟩
    have := read_rel hg hf hX hY ws (n + 1) _ _ h'
    rw [List.length_cons, show n + (ws.length + 1) = n + 1 + ws.length by omega]
    exact this
/-- the trace of a word and of its mirror, through any such likeness -/
theorem trace_rel {R : Nat → Int → Int → Prop} {Lr : Int → Int → Prop} {f g : Int → Int → Int}
    (hg : ∀ n V x U y, R n V x → Lr U y → R n (V * U) (g x y)) (hf : ∀ n V x U y, R n V x → R n U y → R (n + 1) (V + U) (f x y)) (h0 : ∀ U y, Lr U y → R 0 U y) {X Y X' Y' : Tab} (hX : TabRel Lr X' X) (hY : TabRel Lr Y' Y)
    {k j : Int} {ws vs : List Int} (hr : (k :: ws).reverse = j :: vs) :
    ∃ V, R (ws.length + 1) V (f (readFrom f g X Y (pick X Y k) ws).a (readFrom f g X Y (pick X Y k) ws).d) ∧ R (ws.length + 1) V (f (readFrom f g X Y (pick X Y j) vs).a (readFrom f g X Y (pick X Y j) vs).d) := by
  have hl : vs.length = ws.length := by
    have := congrArg List.length hr
    simpa using this.symm
  have hp : ∀ i, TabRel (R 0) (pick X' Y' i) (pick X Y i) := fun i => by
    unfold pick
    split
    · exact ⟨h0 _ _ hX.1, h0 _ _ hX.2.1, h0 _ _ hX.2.2.1, h0 _ _ hX.2.2.2⟩
    · exact ⟨h0 _ _ hY.1, h0 _ _ hY.2.1, h0 _ _ hY.2.2.1, h0 _ _ hY.2.2.2⟩
  have r1 := read_rel hg hf hX hY ws 0 _ _ (hp k)
  have r2 := read_rel hg hf hX hY vs 0 _ _ (hp j)
  rw [Nat.zero_add] at r1 r2
  rw [hl] at r2
  have t1 := hf _ _ _ _ _ r1.1 r1.2.2.2
  have t2 := hf _ _ _ _ _ r2.1 r2.2.2.2
  rw [rdZ_cons] at t1 t2
  rw [← hr, ← traceZ X' Y' (k :: ws)] at t2
  exact ⟨_, t1, t2⟩

/-- the law of the bits -/
def In15 (x : Int) : Prop := 0 ≤ x ∧ x ≤ 15
def Tab.In15 (X : Tab) : Prop := Mine.In15 X.a ∧ Mine.In15 X.b ∧ Mine.In15 X.c ∧ Mine.In15 X.d
def mapT (φ : Int → Int) (X : Tab) : Tab := ⟨φ X.a, φ X.b, φ X.c, φ X.d⟩
theorem in15_all {P : Int → Int → Prop} (h : ∀ x ∈ List.range 16, ∀ y ∈ List.range 16, P (x : Int) (y : Int)) {x y : Int} (hx : In15 x) (hy : In15 y) : P x y := by
  have ex : ((x.toNat : Nat) : Int) = x := Int.toNat_of_nonneg hx.1
  have ey : ((y.toNat : Nat) : Int) = y := Int.toNat_of_nonneg hy.1
  rw [← ex, ← ey]
  refine h _ (List.mem_range.mpr ?_) _ (List.mem_range.mpr ?_)
  · have := hx.1; have := hx.2; omega
  · have := hy.1; have := hy.2; omega
theorem and_in {x y : Int} (hx : In15 x) (hy : In15 y) : In15 (Builtin.bitAnd x y) := in15_all (P := fun x y => 0 ≤ Builtin.bitAnd x y ∧ Builtin.bitAnd x y ≤ 15) (by decide +kernel) hx hy
theorem or_in {x y : Int} (hx : In15 x) (hy : In15 y) : In15 (Builtin.bitOr x y) := in15_all (P := fun x y => 0 ≤ Builtin.bitOr x y ∧ Builtin.bitOr x y ≤ 15) (by decide +kernel) hx hy
theorem xor_in {x y : Int} (hx : In15 x) (hy : In15 y) : In15 (Builtin.bitXor x y) := in15_all (P := fun x y => 0 ≤ Builtin.bitXor x y ∧ Builtin.bitXor x y ≤ 15) (by decide +kernel) hx hy
theorem and_bit {x y : Int} (hx : In15 x) (hy : In15 y) : ∀ q ∈ ([1, 2, 4, 8] : List Int), Builtin.bitAnd x y / q % 2 = (x / q % 2) * (y / q % 2) := in15_all (P := fun x y => ∀ q ∈ ([1, 2, 4, 8] : List Int), Builtin.bitAnd x y / q % 2 = (x / q % 2) * (y / q % 2)) (by decide +kernel) hx hy
theorem xor_bit {x y : Int} (hx : In15 x) (hy : In15 y) : ∀ q ∈ ([1, 2, 4, 8] : List Int), Builtin.bitXor x y / q % 2 = (x / q % 2 + y / q % 2) % 2 := in15_all (P := fun x y => ∀ q ∈ ([1, 2, 4, 8] : List Int), Builtin.bitXor x y / q % 2 = (x / q % 2 + y / q % 2) % 2) (by decide +kernel) hx hy
theorem or_bit {x y : Int} (hx : In15 x) (hy : In15 y) : ∀ q ∈ ([1, 2, 4, 8] : List Int), (Builtin.bitOr x y / q % 2 = 0 ↔ x / q % 2 = 0 ∧ y / q % 2 = 0) := in15_all (P := fun x y => ∀ q ∈ ([1, 2, 4, 8] : List Int), (Builtin.bitOr x y / q % 2 = 0 ↔ x / q % 2 = 0 ∧ y / q % 2 = 0)) (by decide +kernel) hx hy
theorem bits_eq {x y : Int} (hx : In15 x) (hy : In15 y) (h : ∀ q ∈ ([1, 2, 4, 8] : List Int), x / q % 2 = y / q % 2) : x = y := by
  have h1 := h 1 (by simp)
  have h2 := h 2 (by simp)
  have h4 := h 4 (by simp)
  have h8 := h 8 (by simp)
  unfold In15 at hx hy
  omega

theorem trace_xor {X Y : Tab} (hX : X.In15) (hY : Y.In15) {k j : Int} {ws vs : List Int} (hr : (k :: ws).reverse = j :: vs) :
    Builtin.bitXor (readFrom Builtin.bitXor Builtin.bitAnd X Y (pick X Y k) ws).a (readFrom Builtin.bitXor Builtin.bitAnd X Y (pick X Y k) ws).d = Builtin.bitXor (readFrom Builtin.bitXor Builtin.bitAnd X Y (pick X Y j) vs).a (readFrom Builtin.bitXor Builtin.bitAnd X Y (pick X Y j) vs).d := by
  have key : ∀ q ∈ ([1, 2, 4, 8] : List Int), _ := fun q hq => trace_rel (R := fun _ V x => In15 x ∧ V % 2 = x / q % 2) (Lr := fun V x => In15 x ∧ V % 2 = x / q % 2) (f := Builtin.bitXor) (g := Builtin.bitAnd)
    (fun _ V x U y h1 h2 => ⟨and_in h1.1 h2.1, by rw [and_bit h1.1 h2.1 q hq, Int.mul_emod, h1.2, h2.2, ← Int.mul_emod]; have := Int.emod_two_eq (x / q); have := Int.emod_two_eq (y / q); rcases Int.emod_two_eq (x / q) with e | e <;> rcases Int.emod_two_eq (y / q) with e' | e' <;> simp [e, e', Int.mul_emod]⟩)
    (fun _ V x U y h1 h2 => ⟨xor_in h1.1 h2.1, by rw [xor_bit h1.1 h2.1 q hq, ← h1.2, ← h2.2]; omega⟩) (fun _ _ h => h) (X := X) (Y := Y) (X' := mapT (fun x => x / q % 2) X) (Y' := mapT (fun x => x / q % 2) Y)
    ⟨⟨hX.1, by simp [mapT]⟩, ⟨hX.2.1, by simp [mapT]⟩, ⟨hX.2.2.1, by simp [mapT]⟩, ⟨hX.2.2.2, by simp [mapT]⟩⟩ ⟨⟨hY.1, by simp [mapT]⟩, ⟨hY.2.1, by simp [mapT]⟩, ⟨hY.2.2.1, by simp [mapT]⟩, ⟨hY.2.2.2, by simp [mapT]⟩⟩ hr
  obtain ⟨_, a1, a2⟩ := key 1 (by simp)
  refine bits_eq a1.1 a2.1 fun q hq => ?_
  obtain ⟨V, b1, b2⟩ := key q hq
  rw [← b1.2, ← b2.2]
theorem trace_or {X Y : Tab} (hX : X.In15) (hY : Y.In15) {k j : Int} {ws vs : List Int} (hr : (k :: ws).reverse = j :: vs) :
    Builtin.bitOr (readFrom Builtin.bitOr Builtin.bitAnd X Y (pick X Y k) ws).a (readFrom Builtin.bitOr Builtin.bitAnd X Y (pick X Y k) ws).d = Builtin.bitOr (readFrom Builtin.bitOr Builtin.bitAnd X Y (pick X Y j) vs).a (readFrom Builtin.bitOr Builtin.bitAnd X Y (pick X Y j) vs).d := by
  have lift : ∀ {q x : Int}, In15 x → In15 x ∧ 0 ≤ x / q % 2 ∧ (x / q % 2 = 0 ↔ x / q % 2 = 0) := fun {q x} h => ⟨h, Int.emod_nonneg _ (by decide), Iff.rfl⟩
  have key : ∀ q ∈ ([1, 2, 4, 8] : List Int), _ := fun q hq => trace_rel (R := fun _ V x => In15 x ∧ 0 ≤ V ∧ (V = 0 ↔ x / q % 2 = 0)) (Lr := fun V x => In15 x ∧ 0 ≤ V ∧ (V = 0 ↔ x / q % 2 = 0)) (f := Builtin.bitOr) (g := Builtin.bitAnd)
    (fun _ V x U y h1 h2 => ⟨and_in h1.1 h2.1, Int.mul_nonneg h1.2.1 h2.2.1, by rw [and_bit h1.1 h2.1 q hq, Int.mul_eq_zero, Int.mul_eq_zero, h1.2.2, h2.2.2]⟩)
    (fun _ V x U y h1 h2 => ⟨or_in h1.1 h2.1, Int.add_nonneg h1.2.1 h2.2.1, by rw [or_bit h1.1 h2.1 q hq, ← h1.2.2, ← h2.2.2]; have := h1.2.1; have := h2.2.1; omega⟩) (fun _ _ h => h) (X := X) (Y := Y) (X' := mapT (fun x => x / q % 2) X) (Y' := mapT (fun x => x / q % 2) Y)
    ⟨lift hX.1, lift hX.2.1, lift hX.2.2.1, lift hX.2.2.2⟩ ⟨lift hY.1, lift hY.2.1, lift hY.2.2.1, lift hY.2.2.2⟩ hr
  obtain ⟨_, a1, a2⟩ := key 1 (by simp)
  refine bits_eq a1.1 a2.1 fun q hq => ?_
  obtain ⟨V, b1, b2⟩ := key q hq
  have h := b1.2.2.symm.trans b2.2.2
  rcases Int.emod_two_eq (Builtin.bitOr (readFrom Builtin.bitOr Builtin.bitAnd X Y (pick X Y k) ws).a (readFrom Builtin.bitOr Builtin.bitAnd X Y (pick X Y k) ws).d / q) with e | e
  · rw [e, h.mp e]
  · rcases Int.emod_two_eq (Builtin.bitOr (readFrom Builtin.bitOr Builtin.bitAnd X Y (pick X Y j) vs).a (readFrom Builtin.bitOr Builtin.bitAnd X Y (pick X Y j) vs).d / q) with e' | e'
    · rw [h.mpr e'] at e; cases e
    · rw [e, e']

/-- the law of max and plus: an entry x stands for T to the power x -/
theorem trace_max {X Y : Tab} (hX : 0 ≤ X.a ∧ 0 ≤ X.b ∧ 0 ≤ X.c ∧ 0 ≤ X.d) (hY : 0 ≤ Y.a ∧ 0 ≤ Y.b ∧ 0 ≤ Y.c ∧ 0 ≤ Y.d) {k j : Int} {ws vs : List Int} (hr : (k :: ws).reverse = j :: vs) :
    gI (readFrom gI iAdd X Y (pick X Y k) ws).a (readFrom gI iAdd X Y (pick X Y k) ws).d = gI (readFrom gI iAdd X Y (pick X Y j) vs).a (readFrom gI iAdd X Y (pick X Y j) vs).d := by
  generalize hT : 2 ^ (ws.length + 1) + 1 = T
  have hT1 : 1 ≤ T := by omega
  have lift : ∀ {x : Int}, 0 ≤ x → 0 ≤ x ∧ (((T ^ x.toNat : Nat) : Int)) = ((T ^ x.toNat : Nat) : Int) := fun h => ⟨h, rfl⟩
  obtain ⟨V, ⟨x0, v, rfl, l1, u1⟩, ⟨y0, v', e, l2, u2⟩⟩ := trace_rel (R := fun n V x => 0 ≤ x ∧ ∃ v : Nat, V = v ∧ T ^ x.toNat ≤ v ∧ v ≤ 2 ^ n * T ^ x.toNat) (Lr := fun V x => 0 ≤ x ∧ V = ((T ^ x.toNat : Nat) : Int)) (f := gI) (g := iAdd)
    (by
      rintro n V x U y ⟨h1, v, rfl, l, u⟩ ⟨h2, rfl⟩
      refine ⟨Int.add_nonneg h1 h2, v * T ^ y.toNat, by simp, ?_, ?_⟩
      · rw [show (iAdd x y).toNat = x.toNat + y.toNat from Int.toNat_add h1 h2, Nat.pow_add]
        exact Nat.mul_le_mul_right _ l
      · rw [show (iAdd x y).toNat = x.toNat + y.toNat from Int.toNat_add h1 h2, Nat.pow_add, ← Nat.mul_assoc]
        exact Nat.mul_le_mul_right _ u)
    (by
      rintro n V x U y ⟨h1, v, rfl, l, u⟩ ⟨h2, v', rfl, l', u'⟩
      have mono : ∀ a b : Int, a ≤ b → T ^ a.toNat ≤ T ^ b.toNat := fun a b h => Nat.pow_le_pow_right hT1 (by omega)
      have pw : 2 ^ (n + 1) = 2 ^ n + 2 ^ n := by rw [Nat.pow_succ]; omega
      unfold gI
      split
      · have := Nat.mul_le_mul_left (2 ^ n) (mono y x (by omega))
        refine ⟨h1, v + v', by simp, by omega, ?_⟩
        rw [pw, Nat.add_mul]
        omega
      · have := Nat.mul_le_mul_left (2 ^ n) (mono x y (by omega))
        refine ⟨h2, v + v', by simp, by omega, ?_⟩
        rw [pw, Nat.add_mul]
        omega)
    (fun U y h => ⟨h.1, _, h.2, Nat.le_refl _, by simp⟩) (X := X) (Y := Y) (X' := mapT (fun x => ((T ^ x.toNat : Nat) : Int)) X) (Y' := mapT (fun x => ((T ^ x.toNat : Nat) : Int)) Y)
    ⟨lift hX.1, lift hX.2.1, lift hX.2.2.1, lift hX.2.2.2⟩ ⟨lift hY.1, lift hY.2.1, lift hY.2.2.1, lift hY.2.2.2⟩ hr
  have ev : v = v' := by omega
  subst ev
  generalize gI (readFrom gI iAdd X Y (pick X Y k) ws).a (readFrom gI iAdd X Y (pick X Y k) ws).d = x at *
  generalize gI (readFrom gI iAdd X Y (pick X Y j) vs).a (readFrom gI iAdd X Y (pick X Y j) vs).d = y at *
  have no : ∀ a b : Int, 0 ≤ a → 0 ≤ b → a < b → v ≤ 2 ^ (ws.length + 1) * T ^ a.toNat → T ^ b.toNat ≤ v → False := by
    intro a b ha hb hab hu hl
    have h1 : T ^ (a.toNat + 1) ≤ T ^ b.toNat := Nat.pow_le_pow_right hT1 (by omega)
    rw [Nat.pow_succ] at h1
    have h2 : 0 < T ^ a.toNat := Nat.pow_pos (by omega)
    have h3 : T ^ a.toNat * T = 2 ^ (ws.length + 1) * T ^ a.toNat + T ^ a.toNat := by
      rw [← hT, Nat.mul_add, Nat.mul_one, Nat.mul_comm]
    omega
  rcases Int.lt_trichotomy x y with h | h | h
  · exact (no x y x0 y0 h u1 l2).elim
  · exact h
  · exact (no y x y0 x0 h u2 l1).elim
end Mine
end

/-! part NyBody -/
section
open PySem PySem.W PyProof.Rows
set_option maxRecDepth 100000
namespace Mine
open PySem PySem.W PySem.Calls PyProof.Rows PySem.Spec
/-- the law's own lines and names, out of the head's view of the program -/
noncomputable def lawBody : List Stmt := match defOf Mine.hd.view_39 (Str.ofString "law") with | some (d, _) => d.body | none => []
noncomputable def lawScope : Scope := match defOf Mine.hd.view_39 (Str.ofString "law") with | some (d, _) => d.scope | none => default
noncomputable abbrev lawEnv (L fa : Addr) (cd : Value) : Env := envOf (Str.ofString "law") lawScope L fa cd
theorem lawKind : lawScope.kind = .function := by rfl
end Mine
end

/-! part NyA1 -/
section
open PySem PySem.W PyProof.Rows
set_option maxRecDepth 100000
set_option maxHeartbeats 16000000
namespace Mine
open PySem PySem.W PySem.Calls PyProof.Rows PySem.Spec
section
variable {prog p : Program} {w : World} {loose : List Str} {mean : ExcName → Option Value} {mg mb : Str → Option Value}
theorem st1 {dp un : Nat} {gd : Option (List Code)} {fa : Addr} {ccd : Value} {outer : List Env}
    {A₀ : Around} {base h₀ : Heap} {L : Addr} {s : Shared} {Q : Flow → Shared → Prop} {E : Value → Shared → Prop} {m₀ : Str → Option Value} {sa : Addr} {vals : List Value} {ns : List Int}
    (B : Below A₀ base outer h₀) (F : Fr h₀ L s.heap (fun y => if y = Str.ofString "script" then some (.ref sa) else m₀ y)) (XK : (Mine.hd.heap_39 w.params).In h₀) (N : News h₀ L s.heap []) (T : Top p loose mean mg mb h₀)
    (hl : h₀.IsList sa vals.toArray) (hi : IntsAre vals ns) (hlen : ns.length ≤ 63) (hd : dp + 9 < recursionLimit) (hu : un + 60 < cLine)
    (ret : ∀ nu vs n h' tk', Fr h₀ L h' (fun y => if y = Str.ofString "numbers" then some (.ref nu) else if y = Str.ofString "script" then some (.ref sa) else m₀ y) → News h₀ L h' [(nu, listOf vs.toArray n)] → IntsAre vs (List.take 8 ns ++ List.drop ns.length [6, 3, 11, 4, 9, 2, 15, 12]) → Q .next { s with heap := h', toks := tk' }) :
    wpAny (model prog w) (ktrTop dp un gd (Str.ofString "law") lawScope L fa ccd [] outer) (exec (lawBody.getD 0 (.Pass default)) (lawEnv L fa ccd)) Q E s := by
  have kf : PySem.Challenge.rw_ny0011_01.prog = PySem.Challenge.rw_ny0011_01.prog ∧ Mine.hd.heap_39 = Mine.hd.heap_39 := by k_fill; exact ⟨rfl, rfl⟩
  clear kf
  w_on
  w_top on
  obtain ⟨hp, gn, dr, tk, os⟩ := s
  dsimp only at F N ret
  conv => arg 3; arg 1; whnf
  unfold lawEnv
  conv => arg 3; arg 2; arg 2; whnf
  conv => arg 2; arg 5; whnf
  repeat (first | (k_unfold; (try dsimp only)) | (walk1; first | (with_reducible show wpAny _ _ (subscriptTail _ _ _ _) _ _ _) | (try dsimp only)) | (dsimp only; walk1))
  (rename News _ _ _ _ => N9)
  (rename Fr _ _ _ _ => F9)
  (rename IntsAre _ _ => hI9)
  exact ret _ _ _ _ _ F9 (cb_drop N9 fun p hp => (List.mem_singleton.mp hp) ▸ .head _) hI9
end
end Mine
end

/-! part NyA2 -/
section
open PySem PySem.W PyProof.Rows
set_option maxRecDepth 100000
set_option maxHeartbeats 16000000
namespace Mine
open PySem PySem.W PySem.Calls PyProof.Rows PySem.Spec
section
variable {prog p : Program} {w : World} {loose : List Str} {mean : ExcName → Option Value} {mg mb : Str → Option Value}
theorem st2 {dp un : Nat} {gd : Option (List Code)} {fa : Addr} {ccd : Value} {outer : List Env}
    {A₀ : Around} {base h₀ : Heap} {L : Addr} {s : Shared} {Q : Flow → Shared → Prop} {E : Value → Shared → Prop} {m₀ : Str → Option Value} {sa nu : Addr} {vs : List Value} {n : Nat} {ks : List Int}
    (B : Below A₀ base outer h₀) (F : Fr h₀ L s.heap (fun y => if y = Str.ofString "numbers" then some (.ref nu) else if y = Str.ofString "script" then some (.ref sa) else m₀ y)) (XK : (Mine.hd.heap_39 w.params).In h₀) (N : News h₀ L s.heap [(nu, listOf vs.toArray n)]) (T : Top p loose mean mg mb h₀)
    (hi : IntsAre vs ks) (hlen : ks.length = 8) (hd : dp + 9 < recursionLimit) (hu : un + 60 < cLine)
    (ret : ∀ ce vs n h' tk', Fr h₀ L h' (fun y => if y = Str.ofString "cells" then some (.ref ce) else if y = Str.ofString "numbers" then some (.ref nu) else if y = Str.ofString "script" then some (.ref sa) else m₀ y) → News h₀ L h' [(ce, listOf vs.toArray n)] → IntsAre vs (ks.map fun k => (k.fdiv 2).fmod 16) → Q .next { s with heap := h', toks := tk' }) :
    wpAny (model prog w) (ktrTop dp un gd (Str.ofString "law") lawScope L fa ccd [] outer) (exec (lawBody.getD 1 (.Pass default)) (lawEnv L fa ccd)) Q E s := by
  have kf : PySem.Challenge.rw_ny0011_01.prog = PySem.Challenge.rw_ny0011_01.prog ∧ Mine.hd.heap_39 = Mine.hd.heap_39 := by k_fill; exact ⟨rfl, rfl⟩
  clear kf
  w_on
  w_top on
  obtain ⟨hp, gn, dr, tk, os⟩ := s
  dsimp only at F N ret
  conv => arg 3; arg 1; whnf
  unfold lawEnv
  conv => arg 3; arg 2; arg 2; whnf
  conv => arg 2; arg 5; whnf
  repeat (first | (k_unfold; (try dsimp only)) | (walk1; (try dsimp only)) | (dsimp only; walk1; (try dsimp only)))
  (rename News _ _ _ _ => N9)
  (rename Fr _ _ _ _ => F9)
  (rename IntsAre _ _ => hI9)
  exact ret _ _ _ _ _ F9 (cb_drop N9 fun p hp => (List.mem_singleton.mp hp) ▸ .head _) hI9
end
end Mine
end

/-! part NyA3 -/
section
open PySem PySem.W PyProof.Rows
set_option maxRecDepth 100000
set_option maxHeartbeats 16000000
namespace Mine
open PySem PySem.W PySem.Calls PyProof.Rows PySem.Spec
section
variable {prog p : Program} {w : World} {loose : List Str} {mean : ExcName → Option Value} {mg mb : Str → Option Value}
theorem ints4' {vs : List Value} {a b c d : Int} {n : Nat} (h : IntsAre vs [a, b, c, d]) : TabObj (listOf vs.toArray n) ⟨a, b, c, d⟩ := by
  cases h with | cons _ t0 h' => cases h' with | cons _ t1 h' => cases h' with | cons _ t2 h' => cases h' with | cons _ t3 h' => cases h' with | nil => exact ⟨t0, t1, t2, t3, n, rfl⟩
theorem drop4 {h₀ h : Heap} {L : Addr} {x y z u : Addr × Obj} (N : News h₀ L h [x, y, z, u]) : News h₀ L h [x, y, z] := cb_drop N fun p hp => by
  simp only [List.mem_cons, List.not_mem_nil, or_false] at hp ⊢
  rcases hp with h | h | h
  · exact .inl h
  · exact .inr (.inl h)
  · exact .inr (.inr (.inl h))
theorem st3 {dp un : Nat} {gd : Option (List Code)} {fa : Addr} {ccd : Value} {outer : List Env}
    {A₀ : Around} {base h₀ : Heap} {L : Addr} {s : Shared} {Q : Flow → Shared → Prop} {E : Value → Shared → Prop} {m₀ : Str → Option Value} {ce : Addr} {vs : List Value} {n : Nat} {a b c d e f g h : Int}
    (B : Below A₀ base outer h₀) (F : Fr h₀ L s.heap (fun y => if y = Str.ofString "cells" then some (.ref ce) else m₀ y)) (XK : (Mine.hd.heap_39 w.params).In h₀) (N : News h₀ L s.heap [(ce, listOf vs.toArray n)]) (T : Top p loose mean mg mb h₀)
    (hi : IntsAre vs [a, b, c, d, e, f, g, h]) (hd : dp + 9 < recursionLimit) (hu : un + 60 < cLine)
    (ret : ∀ lt l0 l1 o0 o1 n h' tk', Fr h₀ L h' (fun y => if y = Str.ofString "tables" then some (.ref lt) else if y = Str.ofString "cells" then some (.ref ce) else m₀ y) → News h₀ L h' [(lt, listOf #[.ref l0, .ref l1] n), (l1, o1), (l0, o0)] → TabObj o0 ⟨a, b, c, d⟩ → TabObj o1 ⟨e, f, g, h⟩ → Q .next { s with heap := h', toks := tk' }) :
    wpAny (model prog w) (ktrTop dp un gd (Str.ofString "law") lawScope L fa ccd [] outer) (exec (lawBody.getD 2 (.Pass default)) (lawEnv L fa ccd)) Q E s := by
  have kf : PySem.Challenge.rw_ny0011_01.prog = PySem.Challenge.rw_ny0011_01.prog ∧ Mine.hd.heap_39 = Mine.hd.heap_39 := by k_fill; exact ⟨rfl, rfl⟩
  clear kf
  w_on
  w_top on
  obtain ⟨hp, gn, dr, tk, os⟩ := s
  dsimp only at F N ret
  conv => arg 3; arg 1; whnf
  unfold lawEnv
  conv => arg 3; arg 2; arg 2; whnf
  conv => arg 2; arg 5; whnf
  repeat (first | (k_unfold; (try dsimp only)) | (walk1; first | (with_reducible show wpAny _ _ (subscriptTail _ _ _ _) _ _ _) | (try dsimp only)) | (dsimp only; walk1))
  (rename News _ _ _ _ => N9)
  (rename Fr _ _ _ _ => F9)
  (rename IntsAre _ (List.drop 4 _) => hI9)
  (rename IntsAre _ (List.take 4 _) => hI8)
  exact ret _ _ _ _ _ _ _ _ F9 (drop4 N9) (ints4' hI8) (ints4' hI9)
end
end Mine
end

/-! part NyA4 -/
section
open PySem PySem.W PyProof.Rows
set_option maxRecDepth 100000
set_option maxHeartbeats 16000000
namespace Mine
open PySem PySem.W PySem.Calls PyProof.Rows PySem.Spec
section
variable {prog p : Program} {w : World} {loose : List Str} {mean : ExcName → Option Value} {mg mb : Str → Option Value}
theorem st4 {dp un : Nat} {gd : Option (List Code)} {fa : Addr} {ccd : Value} {outer : List Env}
    {A₀ : Around} {base h₀ : Heap} {L : Addr} {s : Shared} {Q : Flow → Shared → Prop} {E : Value → Shared → Prop} {m₀ : Str → Option Value} {sa nu ce lt l0 l1 : Addr} {vals : List Value} {ns : List Int} {o0 o1 : Obj} {n : Nat}
    (B : Below A₀ base outer h₀) (F : Fr h₀ L s.heap (fun y => if y = Str.ofString "tables" then some (.ref lt) else if y = Str.ofString "cells" then some (.ref ce) else if y = Str.ofString "numbers" then some (.ref nu) else if y = Str.ofString "script" then some (.ref sa) else m₀ y)) (XK : (Mine.hd.heap_39 w.params).In h₀) (N : News h₀ L s.heap [(lt, listOf #[.ref l0, .ref l1] n), (l1, o1), (l0, o0)]) (T : Top p loose mean mg mb h₀)
    (hl : h₀.IsList sa vals.toArray) (hi : IntsAre vals ns) (hlen : ns.length ≤ 63) (hd : dp + 9 < recursionLimit) (hu : un + 60 < cLine)
    (ret : ∀ wb tb h' tk', Fr h₀ L h' (fun y => if y = Str.ofString "word" then some (.bytes wb tb) else if y = Str.ofString "tables" then some (.ref lt) else if y = Str.ofString "cells" then some (.ref ce) else if y = Str.ofString "numbers" then some (.ref nu) else if y = Str.ofString "script" then some (.ref sa) else m₀ y) → News h₀ L h' [(lt, listOf #[.ref l0, .ref l1] n), (l1, o1), (l0, o0)] → KBw.bInts wb = (ns.take 7).map (fun k => k.fmod 2) ++ [0, 1, 1] → Q .next { s with heap := h', toks := tk' }) :
    wpAny (model prog w) (ktrTop dp un gd (Str.ofString "law") lawScope L fa ccd [] outer) (exec (lawBody.getD 3 (.Pass default)) (lawEnv L fa ccd)) Q E s := by
  have kf : PySem.Challenge.rw_ny0011_01.prog = PySem.Challenge.rw_ny0011_01.prog ∧ Mine.hd.heap_39 = Mine.hd.heap_39 := by k_fill; exact ⟨rfl, rfl⟩
  clear kf
  w_on
  w_top on
  obtain ⟨hp, gn, dr, tk, os⟩ := s
  dsimp only at F N ret
  conv => arg 3; arg 1; whnf
  unfold lawEnv
  conv => arg 3; arg 2; arg 2; whnf
  conv => arg 2; arg 5; whnf
  repeat (first | (k_unfold; (try dsimp only)) | (walk1; (try dsimp only)) | (dsimp only; walk1; (try dsimp only)))
  (rename News _ _ _ _ => N9)
  (rename Fr _ _ _ _ => F9)
  (rename IntsAre _ _ => hI9)
  have hin : KBa.In (List.map (fun k' => Int.fmod k' 2) (List.take 7 ns) ++ [0, 1, 1]) := by
    intro k hk
    rcases List.mem_append.mp hk with h | h
    · obtain ⟨j, -, rfl⟩ := List.mem_map.mp h
      have h1 := Int.fmod_nonneg_of_pos j (b := 2) (by decide)
      have h2 := Int.fmod_lt_of_pos j (b := 2) (by decide)
      omega
    · simp only [List.mem_cons, List.not_mem_nil, or_false] at h
      omega
  refine KBa.make_K F9 N9 rfl (News.isList N9 (.head _)) hI9 hin (by simp only [List.length_append, List.length_map, List.length_take, List.length_cons, List.length_nil]; omega) ?_
  intro h7 t7 k7 F7 N7 _
  clear F9 N9
  (try dsimp only)
  repeat (first | (k_unfold; (try dsimp only)) | (walk1; (try dsimp only)) | (dsimp only; walk1; (try dsimp only)))
  (rename News _ _ _ _ => N6)
  (rename Fr _ _ _ _ => F6)
  exact ret _ _ _ _ F6 (cb_drop N6 fun p hp => .tail _ (.tail _ (.tail _ (.tail _ hp)))) (KBa.ints_make hin)
end
end Mine
end

/-! part NyA5 -/
section
open PySem PySem.W PyProof.Rows
set_option maxRecDepth 100000
set_option maxHeartbeats 16000000
namespace Mine
open PySem PySem.W PySem.Calls PyProof.Rows PySem.Spec
theorem wpS_callWith_K {M : Model} {A : Around} {E : Value → Shared → Prop} {s : Shared} {env : Env} {pos : Pos} {K : Frag} {f : Value} {e : Expr} {rest : List Expr} {Q : Value → Shared → Prop} (hk : keepIn K f = true)
    (h : wpAny M A (spliced (backTo pos (starEach (e :: rest) env))) (fun vs s₁ => K.In s₁.heap ∧ wpS M A (call f vs) Q E s₁) E s)
    (he : starEach (e :: rest) env = (false, eval e env) :: starEach rest env := by rfl)
    (hplain : (backTo pos (starEach rest env)).any (·.1) = false := by rfl) :
    wpS M A (callWith pos f [] (backTo pos (starEach (e :: rest) env)) []) Q E s := by
  rw [he] at h ⊢
  exact wpS_callWith (P := K.In) (by show (false || (backTo pos (starEach rest env)).any (·.1)) = false; rw [hplain]; rfl) (keeps_K hk) (evalArgs_plain h)
section
variable {prog p : Program} {w : World} {loose : List Str} {mean : ExcName → Option Value} {mg mb : Str → Option Value}
theorem st5 {dp un : Nat} {gd : Option (List Code)} {fa : Addr} {ccd : Value} {outer : List Env}
    {A₀ : Around} {base h₀ : Heap} {L : Addr} {s : Shared} {Q : Flow → Shared → Prop} {E : Value → Shared → Prop} {m₀ : Str → Option Value} {news : List (Addr × Obj)} {wb : Array UInt8} {tb : Tok} {ws : List Int}
    (B : Below A₀ base outer h₀) (F : Fr h₀ L s.heap (fun y => if y = Str.ofString "word" then some (.bytes wb tb) else m₀ y)) (XK : (Mine.hd.heap_39 w.params).In h₀) (N : News h₀ L s.heap news) (T : Top p loose mean mg mb h₀)
    (hw : KBw.bInts wb = ws) (hn0 : 0 < ws.length) (hn1 : ws.length ≤ 100) (hd : dp + 9 < recursionLimit) (hu : un + 60 < cLine)
    (ret : ∀ b' t' h' tk', Fr h₀ L h' (fun y => if y = Str.ofString "mirror" then some (.bytes b' t') else if y = Str.ofString "word" then some (.bytes wb tb) else m₀ y) → News h₀ L h' news → KBw.bInts b' = ws.reverse → Q .next { s with heap := h', toks := tk' }) :
    wpS (model prog w) (ktrTop dp un gd (Str.ofString "law") lawScope L fa ccd [] outer) (exec (lawBody.getD 4 (.Pass default)) (lawEnv L fa ccd)) Q E s := by
  have kf : PySem.Challenge.rw_ny0011_01.prog = PySem.Challenge.rw_ny0011_01.prog ∧ Mine.hd.heap_39 = Mine.hd.heap_39 := by k_fill; exact ⟨rfl, rfl⟩
  clear kf
  w_on
  w_top on
  obtain ⟨hp, gn, dr, tk, os⟩ := s
  dsimp only at F N ret
  conv => arg 3; arg 1; whnf
  unfold lawEnv
  conv => arg 3; arg 2; arg 2; whnf
  conv => arg 2; arg 5; whnf
  refine wpS_Assign_Name ?_
  refine wpS_Call_Name ?_
  repeat (first | (k_unfold; (try dsimp only)) | (walk1; (try dsimp only)) | (dsimp only; walk1; (try dsimp only)))
  refine wpS_callWith_K (K := Mine.hd.heap_39 w.params) (by k_is) ?_
  repeat (first | (k_unfold; (try dsimp only)) | (walk1; (try dsimp only)) | (dsimp only; walk1; (try dsimp only)))
  refine swap_call B F XK N T rfl hw rfl (by omega) (by omega) (by omega) (by omega) ?_
  intro b7 t7 h7 tk7 F7 N7 hb7
  clear F N
  dsimp only
  repeat (first | (k_unfold; (try dsimp only)) | (walk1; (try dsimp only)) | (dsimp only; walk1; (try dsimp only)))
  (rename News _ _ _ _ => N6)
  (rename Fr _ _ _ _ => F6)
  exact ret _ _ _ _ F6 N6 hb7
end
end Mine
end

/-! part NyT6 -/
section
open PySem PySem.W PyProof.Rows
set_option maxRecDepth 100000
set_option maxHeartbeats 16000000
namespace Mine
open PySem PySem.W PySem.Calls PyProof.Rows PySem.Spec
noncomputable def turnBody : List Stmt := match lawBody.getD 5 (.Pass default) with | .For _ _ body _ _ => body | _ => []
section
variable {prog p : Program} {w : World} {loose : List Str} {mean : ExcName → Option Value} {mg mb : Str → Option Value}
local macro_rules | `(tactic| walk_at "callWith ref") => `(tactic| (k_here; k_dflt (refine' callWith_K ?k1 ?k2 ?_; (case k1 => k_asm); (case k2 => assumption); k_whole)))
local macro_rules | `(tactic| walk_at "call ref") => `(tactic| (k_here; k_dflt (refine' opC_use ?O ?k1 ?k2 ?k3 ?k4 ?k5 ?kK ?kp ?kd ?ku ?_; (case O => assumption); (case k1 => k_asm); (case k2 => k_asm); (case k3 => k_asm); (case k4 => k_asm); (case k5 => k_asm); (case kK => first | exact rfl | assumption); (case kp => first | assumption | exact trivial); (case kd => ktr_room); (case ku => ktr_units); k_whole; intro t9 h9 tk9 F9 N9; (try dsimp only); (try k_sweep))))
local macro_rules | `(tactic| walk_at "call ref") => `(tactic| ((with_reducible show wpAny _ _ (call (Value.ref 84) _) _ _ _); refine Halt.intro ?_))
local macro_rules | `(tactic| k_mem) => `(tactic| first | assumption | exact .tail _ (by assumption) | exact .tail _ (.tail _ (by assumption)))
local macro_rules | `(tactic| walk_at "subscriptTail") => `(tactic| (k_here; (with_reducible show wpAny _ _ (subscriptTail _ _ (Value.ref _) (Value.int _ _)) _ _ _); k_dflt (refine' item_litK (vs := [_, _, _, _]) (News.isList ?k1 ?k1m) ?k2 ?k3 ?k4 ?_ ?k6; (case k1 => k_asm); (case k1m => k_mem); (case k2 => decide); (case k3 => decide); (case k4 => rfl); (case k6 => with_unfolding_all rfl); k_whole)))
theorem turn {dp un : Nat} {gd : Option (List Code)} {fa : Addr} {ccd : Value} {outer : List Env}
    {A₀ : Around} {base h₀ : Heap} {L : Addr} {s : Shared} {Q : Flow → Shared → Prop} {E : Value → Shared → Prop} {m₀ : Str → Option Value} {news : List (Addr × Obj)} {wb mb' : Array UInt8} {tb tm : Tok} {ws vs : List Int} {k0 k1 j0 j1 : Int} {lt l0 l1 fp fb : Addr} {n : Nat}
    {plus by' : Int → Int → Int} {pre : Int → Prop} {X Y : Tab}
    (O1 : OpC prog w p loose mean mg mb fp plus (fun _ => True)) (O2 : OpC prog w p loose mean mg mb fb by' pre) (hkp : keepIn (Mine.hd.heap_39 w.params) (.ref fp) = true) (hkb : keepIn (Mine.hd.heap_39 w.params) (.ref fb) = true)
    (B : Below A₀ base outer h₀) (F : Fr h₀ L s.heap (fun y => if y = Str.ofString "by" then some (.ref fb) else if y = Str.ofString "plus" then some (.ref fp) else if y = Str.ofString "mirror" then some (.bytes mb' tm) else if y = Str.ofString "word" then some (.bytes wb tb) else if y = Str.ofString "tables" then some (.ref lt) else m₀ y)) (XK : (Mine.hd.heap_39 w.params).In h₀) (N : News h₀ L s.heap news) (T : Top p loose mean mg mb h₀)
    (mt : (lt, listOf #[.ref l0, .ref l1] n) ∈ news) (hl0 : TabAt news l0 X) (hl1 : TabAt news l1 Y)
    (px : pre X.a ∧ pre X.b ∧ pre X.c ∧ pre X.d) (py : pre Y.a ∧ pre Y.b ∧ pre Y.c ∧ pre Y.d)
    (hw : KBw.bInts wb = k0 :: k1 :: ws) (h01 : ∀ k ∈ k0 :: k1 :: ws, k = 0 ∨ k = 1) (hlen : ws.length ≤ 90)
    (hm : KBw.bInts mb' = j0 :: j1 :: vs) (h01m : ∀ k ∈ j0 :: j1 :: vs, k = 0 ∨ k = 1) (hlenm : vs.length ≤ 90)
    (htr : plus (readFrom plus by' X Y (pick X Y k0) (k1 :: ws)).a (readFrom plus by' X Y (pick X Y k0) (k1 :: ws)).d = plus (readFrom plus by' X Y (pick X Y j0) (j1 :: vs)).a (readFrom plus by' X Y (pick X Y j0) (j1 :: vs)).d)
    (hd : dp + 9 < recursionLimit) (hu : un + 60 < cLine)
    (ret : ∀ h' tk' v1 v2, Fr h₀ L h' (fun y => if y = Str.ofString "one" then some v1 else if y = Str.ofString "other" then some v2 else if y = Str.ofString "by" then some (.ref fb) else if y = Str.ofString "plus" then some (.ref fp) else if y = Str.ofString "mirror" then some (.bytes mb' tm) else if y = Str.ofString "word" then some (.bytes wb tb) else if y = Str.ofString "tables" then some (.ref lt) else m₀ y) → News h₀ L h' news → Q .next { s with heap := h', toks := tk' }) :
    wpAny (model prog w) (ktrTop dp un gd (Str.ofString "law") lawScope L fa ccd [] outer) (execs turnBody (lawEnv L fa ccd)) Q E s := by
  have kf : PySem.Challenge.rw_ny0011_01.prog = PySem.Challenge.rw_ny0011_01.prog ∧ Mine.hd.heap_39 = Mine.hd.heap_39 := by k_fill; exact ⟨rfl, rfl⟩
  clear kf
  w_on
  w_top on
  obtain ⟨hp, gn, dr, tk, os⟩ := s
  dsimp only at F N ret
  conv => arg 3; arg 1; whnf
  unfold lawEnv
  conv => arg 3; arg 2; arg 2; whnf
  conv => arg 2; arg 5; whnf
  repeat (first | (k_unfold; (try dsimp only)) | (walk1; (try dsimp only)) | (dsimp only; walk1; (try dsimp only)))
  unfold Halt
  refine read_call O1 O2 hkp hkb B F XK N T rfl mt hl0 hl1 px py hw h01 hlen (by omega) (by omega) ?_
  intro r1 h1 tk1 nx1 F1 N1 hs1 ht1 hlt1
  clear F N
  (try dsimp only)
  repeat (first | (k_unfold; (try dsimp only)) | (walk1; (try dsimp only)) | (dsimp only; walk1; (try dsimp only)))
  unfold Halt
  refine read_call O1 O2 hkp hkb B F1 XK N1 T rfl (hs1 _ mt) (hl0.mono hs1) (hl1.mono hs1) px py hm h01m hlenm (by omega) (by omega) ?_
  intro r2 h2 tk2 nx2 F2 N2 hs2 ht2 hlt2
  clear F1 N1
  have ht1' := ht1.mono hs2
  have hsub : ∀ p ∈ news, p ∈ nx2 := fun p hp => hs2 p (hs1 p hp)
  clear ht1 hs1 hs2 hlt1 hlt2
  generalize readFrom plus by' X Y (pick X Y k0) (k1 :: ws) = W1 at htr ht1'
  generalize readFrom plus by' X Y (pick X Y j0) (j1 :: vs) = W2 at htr ht2
  obtain ⟨_, ⟨_, _, _, _, _, rfl⟩, hr1⟩ := ht1'
  obtain ⟨_, ⟨_, _, _, _, _, rfl⟩, hr2⟩ := ht2
  (try dsimp only)
  repeat' (first | (k_unfold; (try dsimp only)) | (walk1; (try dsimp only)) | (dsimp only; walk1; (try dsimp only)))
  · exact absurd htr (by assumption)
  · (rename News _ _ _ _ => N6)
    (rename Fr _ _ _ _ => F6)
    exact ret _ _ _ _ F6 (cb_drop N6 fun p hp => .tail _ (hsub p hp))
end
end Mine
end

/-! part NyS6 -/
section
open PySem PySem.W PyProof.Rows
set_option maxRecDepth 100000
set_option maxHeartbeats 16000000
namespace Mine
open PySem PySem.W PySem.Calls PyProof.Rows PySem.Spec
noncomputable def turnIter : Expr := match lawBody.getD 5 (.Pass default) with | .For _ it _ _ _ => it | _ => .Name default default
def tupO (vs : List Value) : Obj := { cls := .type "tuple", data := .seq vs.toArray }
section
variable {prog p : Program} {w : World} {loose : List Str} {mean : ExcName → Option Value} {mg mb : Str → Option Value}
theorem src6 {dp un : Nat} {gd : Option (List Code)} {fa : Addr} {ccd : Value} {outer : List Env}
    {A₀ : Around} {base h₀ : Heap} {L : Addr} {s : Shared} {Q : Value → Shared → Prop} {E : Value → Shared → Prop} {m : Str → Option Value} {news : List (Addr × Obj)}
    (B : Below A₀ base outer h₀) (F : Fr h₀ L s.heap m) (XK : (Mine.hd.heap_39 w.params).In h₀) (N : News h₀ L s.heap news) (T : Top p loose mean mg mb h₀)
    (hd : dp + 9 < recursionLimit) (hu : un + 60 < cLine)
    (ret : ∀ r t1 t2 t3 h' tk', Fr h₀ L h' m → News h₀ L h' ((r, tupO [.ref t1, .ref t2, .ref t3]) :: (t3, tupO [.ref 70, .ref 35]) :: (t2, tupO [.ref 56, .ref 42]) :: (t1, tupO [.ref 63, .ref 42]) :: news) → Q (.ref r) { s with heap := h', toks := tk' }) :
    wpAny (model prog w) (ktrTop dp un gd (Str.ofString "law") lawScope L fa ccd [] outer) (eval turnIter (lawEnv L fa ccd)) Q E s := by
  have kf : PySem.Challenge.rw_ny0011_01.prog = PySem.Challenge.rw_ny0011_01.prog ∧ Mine.hd.heap_39 = Mine.hd.heap_39 := by k_fill; exact ⟨rfl, rfl⟩
  clear kf
  w_on
  w_top on
  obtain ⟨hp, gn, dr, tk, os⟩ := s
  dsimp only at F N ret
  conv => arg 3; arg 1; whnf
  unfold lawEnv
  conv => arg 3; arg 2; arg 2; whnf
  conv => arg 2; arg 5; whnf
  repeat (first | (k_unfold; (try dsimp only)) | (walk1; (try dsimp only)) | (dsimp only; walk1; (try dsimp only)))
  (rename News _ _ _ _ => N9)
  (rename Fr _ _ _ _ => F9)
  exact ret _ _ _ _ _ _ F9 N9
end
end Mine
end

/-! part NyL6 -/
section
open PySem PySem.W PyProof.Rows
set_option maxRecDepth 100000
set_option maxHeartbeats 16000000
namespace Mine
open PySem PySem.W PySem.Calls PyProof.Rows PySem.Spec
noncomputable def turnTarget : Expr := match lawBody.getD 5 (.Pass default) with | .For t _ _ _ _ => t | _ => .Name default default
noncomputable def turnPos : Pos := match lawBody.getD 5 (.Pass default) with | .For _ _ _ _ p => p | _ => default
theorem turn_is : lawBody.getD 5 (.Pass default) = .For turnTarget turnIter turnBody [] turnPos := by rfl
/-- what the loop keeps of the frame -/
def Keeps (m : Str → Option Value) (v1 v2 v3 : Value) : Prop := m (Str.ofString "mirror") = some v1 ∧ m (Str.ofString "word") = some v2 ∧ m (Str.ofString "tables") = some v3
theorem Keeps.map {m : Str → Option Value} {v1 v2 v3 : Value} (h : Keeps m v1 v2 v3) : (fun y => if y = Str.ofString "mirror" then some v1 else if y = Str.ofString "word" then some v2 else if y = Str.ofString "tables" then some v3 else m y) = m := by
  funext y
  split
  · next e => rw [e, h.1]
  · split
    · next e => rw [e, h.2.1]
    · split
      · next e => rw [e, h.2.2]
      · rfl
section
variable {prog p : Program} {w : World} {loose : List Str} {mean : ExcName → Option Value} {mg mb : Str → Option Value}
local macro_rules | `(tactic| k_mem) => `(tactic| assumption)
theorem bind6 {dp un : Nat} {gd : Option (List Code)} {fa : Addr} {ccd : Value} {outer : List Env}
    {A₀ : Around} {base h₀ : Heap} {L : Addr} {s : Shared} {Q : Unit → Shared → Prop} {E : Value → Shared → Prop} {m : Str → Option Value} {news : List (Addr × Obj)} {t fp fb : Addr}
    (B : Below A₀ base outer h₀) (F : Fr h₀ L s.heap m) (XK : (Mine.hd.heap_39 w.params).In h₀) (N : News h₀ L s.heap news) (T : Top p loose mean mg mb h₀)
    (ht : (t, ({ cls := .type "tuple", data := .seq #[.ref fp, .ref fb] } : Obj)) ∈ news) (hd : dp + 9 < recursionLimit) (hu : un + 60 < cLine)
    (ret : ∀ h' tk', Fr h₀ L h' (fun y => if y = Str.ofString "by" then some (.ref fb) else if y = Str.ofString "plus" then some (.ref fp) else m y) → News h₀ L h' news → Q () { s with heap := h', toks := tk' }) :
    wpAny (model prog w) (ktrTop dp un gd (Str.ofString "law") lawScope L fa ccd [] outer) (assign turnTarget (lawEnv L fa ccd) (.ref t)) Q E s := by
  have kf : PySem.Challenge.rw_ny0011_01.prog = PySem.Challenge.rw_ny0011_01.prog ∧ Mine.hd.heap_39 = Mine.hd.heap_39 := by k_fill; exact ⟨rfl, rfl⟩
  clear kf
  w_on
  w_top on
  obtain ⟨hp, gn, dr, tk, os⟩ := s
  dsimp only at F N ret
  conv => arg 3; arg 1; whnf
  unfold lawEnv
  conv => arg 3; arg 2; arg 2; whnf
  conv => arg 2; arg 5; whnf
  repeat (first | (k_unfold; (try dsimp only)) | (walk1; (try dsimp only)) | (dsimp only; walk1; (try dsimp only)))
  (rename News _ _ _ _ => N9)
  (rename Fr _ _ _ _ => F9)
  exact ret _ _ F9 N9

theorem items_turn {dp un : Nat} {gd : Option (List Code)} {fa : Addr} {ccd : Value} {outer : List Env}
    {A₀ : Around} {base h₀ : Heap} {L : Addr} {s : Shared} {Q : Flow → Shared → Prop} {E : Value → Shared → Prop} {m : Str → Option Value} {news : List (Addr × Obj)} {keep : List (Addr × Obj)} {wb mb' : Array UInt8} {tb tm : Tok} {ws vs : List Int} {k0 k1 j0 j1 : Int} {lt l0 l1 fp fb t I : Addr} {n : Nat} {str : String}
    {plus by' : Int → Int → Int} {pre : Int → Prop} {X Y : Tab} {r : List Itm}
    (O1 : OpC prog w p loose mean mg mb fp plus (fun _ => True)) (O2 : OpC prog w p loose mean mg mb fb by' pre) (hkp : keepIn (Mine.hd.heap_39 w.params) (.ref fp) = true) (hkb : keepIn (Mine.hd.heap_39 w.params) (.ref fb) = true)
    (B : Below A₀ base outer h₀) (hm₀ : Keeps m (.bytes mb' tm) (.bytes wb tb) (.ref lt)) (XK : (Mine.hd.heap_39 w.params).In h₀) (T : Top p loose mean mg mb h₀)
    (ht : (t, ({ cls := .type "tuple", data := .seq #[.ref fp, .ref fb] } : Obj)) ∈ news)
    (mt : (lt, listOf #[.ref l0, .ref l1] n) ∈ news) (hl0 : TabAt news l0 X) (hl1 : TabAt news l1 Y)
    (px : pre X.a ∧ pre X.b ∧ pre X.c ∧ pre X.d) (py : pre Y.a ∧ pre Y.b ∧ pre Y.c ∧ pre Y.d)
    (hw : KBw.bInts wb = k0 :: k1 :: ws) (h01 : ∀ k ∈ k0 :: k1 :: ws, k = 0 ∨ k = 1) (hlen : ws.length ≤ 90)
    (hm : KBw.bInts mb' = j0 :: j1 :: vs) (h01m : ∀ k ∈ j0 :: j1 :: vs, k = 0 ∨ k = 1) (hlenm : vs.length ≤ 90)
    (htr : plus (readFrom plus by' X Y (pick X Y k0) (k1 :: ws)).a (readFrom plus by' X Y (pick X Y k0) (k1 :: ws)).d = plus (readFrom plus by' X Y (pick X Y j0) (j1 :: vs)).a (readFrom plus by' X Y (pick X Y j0) (j1 :: vs)).d)
    (hd : dp + 9 < recursionLimit) (hu : un + 60 < cLine) (hI : ∀ p ∈ news, p.1 < I) (hkeep : SubL keep news)
    (rest : ∀ m', Keeps m' (.bytes mb' tm) (.bytes wb tb) (.ref lt) → ItemsRest prog w (ktrTop dp un gd (Str.ofString "law") lawScope L fa ccd [] outer) E h₀ (lawEnv L fa ccd) turnTarget turnBody Q s [(I, str)] keep r m' news) :
    ItemsRest prog w (ktrTop dp un gd (Str.ofString "law") lawScope L fa ccd [] outer) E h₀ (lawEnv L fa ccd) turnTarget turnBody Q s [(I, str)] keep (.val (.ref t) :: r) m news := by
  refine ItemsRest.val fun h tk F => AllObj.cons fun o ho => AllObj.nil fun N => ?_
  rw [← hm₀.map] at F
  refine bind6 B F XK N T (.tail _ ht) hd hu ?_
  intro h1 tk1 F1 N1
  refine turn O1 O2 hkp hkb B F1 XK N1 T (.tail _ mt) (hl0.mono fun p hp => .tail _ hp) (hl1.mono fun p hp => .tail _ hp) px py hw h01 hlen hm h01m hlenm htr hd hu ?_
  intro h2 tk2 v1 v2 F2 N2
  exact ⟨h2, tk2, _, news, rfl, F2, N2, fun p hp q hq => by
    rw [List.mem_singleton.mp hq]; exact Nat.ne_of_lt (hI p hp), hkeep, rest _ ⟨rfl, rfl, rfl⟩⟩

theorem loop6 {dp un : Nat} {gd : Option (List Code)} {fa : Addr} {ccd : Value} {outer : List Env}
    {A₀ : Around} {base h₀ : Heap} {L : Addr} {s : Shared} {Q : Flow → Shared → Prop} {E : Value → Shared → Prop} {m : Str → Option Value} {news : List (Addr × Obj)} {wb mb' : Array UInt8} {tb tm : Tok} {ws vs : List Int} {k0 k1 j0 j1 : Int} {lt l0 l1 : Addr} {n : Nat}
    {X Y : Tab}
    (B : Below A₀ base outer h₀) (F : Fr h₀ L s.heap m) (hm₀ : Keeps m (.bytes mb' tm) (.bytes wb tb) (.ref lt)) (XK : (Mine.hd.heap_39 w.params).In h₀) (N : News h₀ L s.heap news) (T : Top p loose mean mg mb h₀)
    (mt : (lt, listOf #[.ref l0, .ref l1] n) ∈ news) (hl0 : TabAt news l0 X) (hl1 : TabAt news l1 Y)
    (px : X.In15) (py : Y.In15)
    (hw : KBw.bInts wb = k0 :: k1 :: ws) (h01 : ∀ k ∈ k0 :: k1 :: ws, k = 0 ∨ k = 1) (hlen : ws.length ≤ 90)
    (hm : KBw.bInts mb' = j0 :: j1 :: vs) (hrev : (k0 :: k1 :: ws).reverse = j0 :: j1 :: vs)
    (hd : dp + 9 < recursionLimit) (hu : un + 60 < cLine) (hE : PassesOwn (model prog w) (ktrTop dp un gd (Str.ofString "law") lawScope L fa ccd [] outer) (lawEnv L fa ccd) E)
    (ret : ∀ h' tk' m', Fr h₀ L h' m' → Keeps m' (.bytes mb' tm) (.bytes wb tb) (.ref lt) → News h₀ L h' news → Q .next { s with heap := h', toks := tk' }) :
    wpAny (model prog w) (ktrTop dp un gd (Str.ofString "law") lawScope L fa ccd [] outer) (exec (lawBody.getD 5 (.Pass default)) (lawEnv L fa ccd)) Q E s := by
  have h01m : ∀ k ∈ j0 :: j1 :: vs, k = 0 ∨ k = 1 := fun k hk => h01 k (List.mem_reverse.mp (hrev ▸ hk))
  have hlenm : vs.length ≤ 90 := by
    have := congrArg List.length hrev
    simp only [List.length_reverse, List.length_cons] at this
    omega
  rw [turn_is]
  refine For_turns F ?_ (fun _ => rfl) hE
  refine src6 B F XK N T hd hu ?_
  intro r t1 t2 t3 h1 tk1 F1 N1
  refine iter_tupTurns rfl F1 N1 (.head _) rfl rfl ?_
  intro I hI
  refine items_turn op_xor op_and (by k_is) (by k_is) B hm₀ XK T (.tail _ (.tail _ (.tail _ (.head _)))) (.tail _ (.tail _ (.tail _ (.tail _ mt)))) (hl0.mono fun p hp => .tail _ (.tail _ (.tail _ (.tail _ hp)))) (hl1.mono fun p hp => .tail _ (.tail _ (.tail _ (.tail _ hp)))) ⟨trivial, trivial, trivial, trivial⟩ ⟨trivial, trivial, trivial, trivial⟩ hw h01 hlen hm h01m hlenm (trace_xor px py hrev) hd hu hI (by k_subL) ?_
  intro m1 hm1
  refine items_turn op_or op_and (by k_is) (by k_is) B hm1 XK T (.tail _ (.tail _ (.head _))) (.tail _ (.tail _ (.tail _ (.tail _ mt)))) (hl0.mono fun p hp => .tail _ (.tail _ (.tail _ (.tail _ hp)))) (hl1.mono fun p hp => .tail _ (.tail _ (.tail _ (.tail _ hp)))) ⟨trivial, trivial, trivial, trivial⟩ ⟨trivial, trivial, trivial, trivial⟩ hw h01 hlen hm h01m hlenm (trace_or px py hrev) hd hu hI (by k_subL) ?_
  intro m2 hm2
  refine items_turn op_greater op_add (by k_is) (by k_is) B hm2 XK T (.tail _ (.head _)) (.tail _ (.tail _ (.tail _ (.tail _ mt)))) (hl0.mono fun p hp => .tail _ (.tail _ (.tail _ (.tail _ hp)))) (hl1.mono fun p hp => .tail _ (.tail _ (.tail _ (.tail _ hp)))) ⟨trivial, trivial, trivial, trivial⟩ ⟨trivial, trivial, trivial, trivial⟩ hw h01 hlen hm h01m hlenm (trace_max ⟨px.1.1, px.2.1.1, px.2.2.1.1, px.2.2.2.1⟩ ⟨py.1.1, py.2.1.1, py.2.2.1.1, py.2.2.2.1⟩ hrev) hd hu hI (by k_subL) ?_
  intro m3 hm3
  refine ItemsRest.zero fun h4 tk4 F4 N4 => ?_
  exact ret h4 tk4 m3 F4 hm3 (cb_drop N4 fun p hp => .tail _ (.tail _ (.tail _ (.tail _ hp))))
end
end Mine
end

/-! part NyR7 -/
section
open PySem PySem.W PyProof.Rows
set_option maxRecDepth 100000
set_option maxHeartbeats 16000000
namespace Mine
open PySem PySem.W PySem.Calls PyProof.Rows PySem.Spec
theorem mul_in {x y : Int} {a b : Int} (hx : 0 ≤ x ∧ x ≤ a) (hy : 0 ≤ y ∧ y ≤ b) : 0 ≤ x * y ∧ x * y ≤ a * b :=
  ⟨Int.mul_nonneg hx.1 hy.1, Int.le_trans (Int.mul_le_mul_of_nonneg_right hx.2 hy.1) (Int.mul_le_mul_of_nonneg_left hy.2 (Int.le_trans hx.1 hx.2))⟩
theorem add_in {x y : Int} {a b : Int} (hx : 0 ≤ x ∧ x ≤ a) (hy : 0 ≤ y ∧ y ≤ b) : 0 ≤ x + y ∧ x + y ≤ a + b := by omega
theorem six {l : List (Addr × Obj)} {a b c d e f : Addr × Obj} (ha : a ∈ l) (hb : b ∈ l) (hc : c ∈ l) (hd : d ∈ l) (he : e ∈ l) (hf : f ∈ l) : ∀ p ∈ [a, b, c, d, e, f], p ∈ l := by
  intro p hp
  simp only [List.mem_cons, List.not_mem_nil, or_false] at hp
  rcases hp with rfl | rfl | rfl | rfl | rfl | rfl <;> assumption
section
variable {prog p : Program} {w : World} {loose : List Str} {mean : ExcName → Option Value} {mg mb : Str → Option Value}
theorem told_use {dp un : Nat} {gd : Option (List Code)} {cn : Str} {cs : Scope} {a' : Addr} {ccd : Value} {cl : List (Str × Addr)} {outer : List Env}
    {A₀ : Around} {base h₀ : Heap} {L : Addr} {m : Str → Option Value} {news : List (Addr × Obj)} {s : Shared} {Q E : Value → Shared → Prop}
    {lt l0 l1 : Addr} {nt : Nat} {wb : Array UInt8} {tb : Tok} {ws : List Int} {X Y : Tab}
    (B : Below A₀ base outer h₀) (F : Fr h₀ L s.heap m) (XK : (Mine.hd.heap_39 w.params).In h₀) (N : News h₀ L s.heap news) (T : Top p loose mean mg mb h₀) (hk : cs.kind = .function)
    (mt : (lt, listOf #[.ref l0, .ref l1] nt) ∈ news) (hl0 : TabAt news l0 X) (hl1 : TabAt news l1 Y) (px : X.In15) (py : Y.In15)
    (hw : KBw.bInts wb = ws) (hlen : ws.length ≤ 100)
    (hd : dp + 5 < recursionLimit) (hu : un + 32 < cLine)
    (ret : ∀ r ra rb h' tk' nx n, Fr h₀ L h' m → News h₀ L h' nx → (∀ p ∈ news, p ∈ nx) → (r, listOf #[.ref ra, .ref rb] n) ∈ nx → TabAt nx ra (rdZ X Y ws) → TabAt nx rb (rdZ X Y ws.reverse) → Q (.ref r) { s with heap := h', toks := tk' }) :
    wpAny (model prog w) (ktrTop dp un gd cn cs L a' ccd cl outer) (call (.ref 89) [.bytes wb tb, .ref lt]) Q E s := by
  obtain ⟨a, b, c, d⟩ := X
  obtain ⟨e, f, g, h⟩ := Y
  obtain ⟨_, ⟨_, _, _, _, _, rfl⟩, m1⟩ := hl0
  obtain ⟨_, ⟨_, _, _, _, _, rfl⟩, m2⟩ := hl1
  obtain ⟨ha, hb, hc, hdd⟩ := px
  obtain ⟨he, hf, hg, hh⟩ := py
  dsimp only [In15] at ha hb hc hdd he hf hg hh
  refine told_call B F XK N T hk mt m1 m2 ha hb hc hdd he hf hg hh hw hlen hd hu (mul_in ha he) (mul_in hb hg) (mul_in hc hf) (mul_in hdd hh) (mul_in ha hdd) (mul_in hb hc) (mul_in he hh) (mul_in hf hg) (mul_in (add_in ha hdd) (add_in he hh))
    (add_in (mul_in ha he) (mul_in hb hg)) (add_in (mul_in ha hf) (mul_in hb hh)) (add_in (mul_in hc he) (mul_in hdd hg)) (add_in (mul_in hc hf) (mul_in hdd hh)) (add_in (mul_in he ha) (mul_in hf hc)) (add_in (mul_in he hb) (mul_in hf hdd)) (add_in (mul_in hg ha) (mul_in hh hc)) (add_in (mul_in hg hb) (mul_in hh hdd)) ?_
  intro r ra rb h' tk' nx n F' N' hs hr htab
  obtain ⟨h1, h2⟩ := htab _ rfl
  refine ret r ra rb h' tk' nx n F' N' hs hr ?_ ?_
  · rw [told_on]; exact h1
  · rw [told_back]; exact h2
local macro_rules | `(tactic| walk_at "call ref") => `(tactic| (refine Halt.intro ?_))
theorem st7 {dp un : Nat} {gd : Option (List Code)} {fa : Addr} {ccd : Value} {outer : List Env}
    {A₀ : Around} {base h₀ : Heap} {L : Addr} {s : Shared} {Q : Flow → Shared → Prop} {E : Value → Shared → Prop} {m : Str → Option Value} {news : List (Addr × Obj)} {wb mb' : Array UInt8} {tb tm : Tok} {ws vs : List Int} {k0 k1 j0 j1 : Int} {lt l0 l1 : Addr} {n : Nat}
    {X Y : Tab}
    (B : Below A₀ base outer h₀) (F : Fr h₀ L s.heap m) (hm₀ : Keeps m (.bytes mb' tm) (.bytes wb tb) (.ref lt)) (XK : (Mine.hd.heap_39 w.params).In h₀) (N : News h₀ L s.heap news) (T : Top p loose mean mg mb h₀)
    (mt : (lt, listOf #[.ref l0, .ref l1] n) ∈ news) (hl0 : TabAt news l0 X) (hl1 : TabAt news l1 Y)
    (px : X.In15) (py : Y.In15)
    (hw : KBw.bInts wb = k0 :: k1 :: ws) (h01 : ∀ k ∈ k0 :: k1 :: ws, k = 0 ∨ k = 1) (hlen : ws.length ≤ 90)
    (hm : KBw.bInts mb' = j0 :: j1 :: vs) (hrev : (k0 :: k1 :: ws).reverse = j0 :: j1 :: vs)
    (hd : dp + 9 < recursionLimit) (hu : un + 80 < cLine)
    (ret : ∀ h' tk', Fr h₀ L h' m → Q (.ret (.bool true)) { s with heap := h', toks := tk' }) :
    wpAny (model prog w) (ktrTop dp un gd (Str.ofString "law") lawScope L fa ccd [] outer) (exec (lawBody.getD 6 (.Pass default)) (lawEnv L fa ccd)) Q E s := by
  have h01m : ∀ k ∈ j0 :: j1 :: vs, k = 0 ∨ k = 1 := fun k hk => h01 k (List.mem_reverse.mp (hrev ▸ hk))
  have hlenm : vs.length ≤ 90 := by
    have := congrArg List.length hrev
    simp only [List.length_reverse, List.length_cons] at this
    omega
  have kf : PySem.Challenge.rw_ny0011_01.prog = PySem.Challenge.rw_ny0011_01.prog ∧ Mine.hd.heap_39 = Mine.hd.heap_39 := by k_fill; exact ⟨rfl, rfl⟩
  clear kf
  w_on
  w_top on
  obtain ⟨hp, gn, dr, tk, os⟩ := s
  dsimp only at F N ret
  rw [← hm₀.map] at F ret
  conv => arg 3; arg 1; whnf
  unfold lawEnv
  conv => arg 3; arg 2; arg 2; whnf
  conv => arg 2; arg 5; whnf
  repeat (first | (k_unfold; (try dsimp only)) | (walk1; (try dsimp only)) | (dsimp only; walk1; (try dsimp only)))
  unfold Halt
  refine read_call op_add op_mul (by k_is) (by k_is) B F XK N T rfl mt hl0 hl1 px py hw h01 hlen (by omega) (by omega) ?_
  intro r1 h1 tk1 nx1 F1 N1 hs1 ht1 hlt1
  clear F N
  (try dsimp only)
  repeat (first | (k_unfold; (try dsimp only)) | (walk1; (try dsimp only)) | (dsimp only; walk1; (try dsimp only)))
  unfold Halt
  refine read_call op_add op_mul (by k_is) (by k_is) B F1 XK N1 T rfl (hs1 _ mt) (hl0.mono hs1) (hl1.mono hs1) px py hm h01m hlenm (by omega) (by omega) ?_
  intro r2 h2 tk2 nx2 F2 N2 hs2 ht2 hlt2
  clear F1 N1
  have ht1' := ht1.mono hs2
  have hsub : ∀ p ∈ news, p ∈ nx2 := fun p hp => hs2 p (hs1 p hp)
  clear ht1 hs1 hs2 hlt1 hlt2
  (try dsimp only)
  repeat (first | (k_unfold; (try dsimp only)) | (walk1; (try dsimp only)) | (dsimp only; walk1; (try dsimp only)))
  unfold Halt
  (rename News _ _ _ _ => N3)
  (rename Fr _ _ _ _ => F3)
  refine told_use B F3 XK N3 T rfl (.tail _ (hsub _ mt)) (hl0.mono fun p hp => .tail _ (hsub p hp)) (hl1.mono fun p hp => .tail _ (hsub p hp)) px py hw (by simp only [List.length_cons]; omega) (by omega) (by omega) ?_
  intro r ra rb h4 tk4 nx4 n4 F4 N4 hs4 hr4 hra hrb
  have hA := hs4 _ (.head _)
  have ht1 := ht1'.mono fun p hp => hs4 p (.tail _ hp)
  have ht2' := ht2.mono fun p hp => hs4 p (.tail _ hp)
  have e1 : readFrom (fun x y => x + y) (fun x y => x * y) X Y (pick X Y k0) (k1 :: ws) = rdZ X Y (k0 :: k1 :: ws) := rdZ_cons X Y k0 (k1 :: ws)
  have e2 : readFrom (fun x y => x + y) (fun x y => x * y) X Y (pick X Y j0) (j1 :: vs) = rdZ X Y (k0 :: k1 :: ws).reverse := by rw [hrev]; exact rdZ_cons X Y j0 (j1 :: vs)
  rw [e1] at ht1
  rw [e2] at ht2'
  clear ht1' ht2 hs4 N3 F3 e1 e2
  generalize rdZ X Y (k0 :: k1 :: ws) = P1 at ht1 hra
  generalize rdZ X Y (k0 :: k1 :: ws).reverse = P2 at ht2' hrb
  obtain ⟨P1a, P1b, P1c, P1d⟩ := P1
  obtain ⟨P2a, P2b, P2c, P2d⟩ := P2
  obtain ⟨_, ⟨a1, a2, a3, a4, na, rfl⟩, q1⟩ := ht1
  obtain ⟨_, ⟨b1, b2, b3, b4, nb, rfl⟩, q2⟩ := ht2'
  obtain ⟨_, ⟨c1, c2, c3, c4, nc, rfl⟩, q3⟩ := hra
  obtain ⟨_, ⟨d1, d2, d3, d4, nd, rfl⟩, q4⟩ := hrb
  dsimp only at q1 q2 q3 q4
  have N5 := cb_drop N4 (six hA q1 q2 hr4 q3 q4)
  clear N4 hA q1 q2 hr4 q3 q4 hsub hm₀
  (try dsimp only)
  refine eq_dataH (by ked_read) (by ked_read) (by ked_shaped) (by ked_shaped) (show un + 64 < cLine by omega) ?_
  ked_norm
  exact ret _ _ F4
end
end Mine
end

/-! part NyRun -/
section
open PySem PySem.W PyProof.Rows
set_option maxRecDepth 100000
set_option maxHeartbeats 16000000
namespace Mine
open PySem PySem.W PySem.Calls PyProof.Rows PySem.Spec
/-- a first part of a list of statements by the library's logic -/
theorem wpS_consA {M : Model} {A : Around} {E : Value → Shared → Prop} {s : Shared} {env : Env} {st : Stmt} {rest : List Stmt} {Q : Flow → Shared → Prop}
    (h : wpAny M A (exec st env) (fun f s' => match f with | .next => wpS M A (execs rest env) Q E s' | f => Q f s') E s) : wpS M A (execs (st :: rest) env) Q E s := wpS_execs_cons (wpS_of h)
theorem lawBody_is : lawBody = [lawBody.getD 0 (.Pass default), lawBody.getD 1 (.Pass default), lawBody.getD 2 (.Pass default), lawBody.getD 3 (.Pass default), lawBody.getD 4 (.Pass default), lawBody.getD 5 (.Pass default), lawBody.getD 6 (.Pass default)] := by rfl
theorem eight {l : List Int} (h : l.length = 8) : ∃ a b c d e f g i, l = [a, b, c, d, e, f, g, i] := by
  match l, h with
  | [a, b, c, d, e, f, g, i], _ => exact ⟨a, b, c, d, e, f, g, i, rfl⟩
theorem two {l : List Int} (h : 2 ≤ l.length) : ∃ a b r, l = a :: b :: r := by
  match l, h with
  | a :: b :: r, _ => exact ⟨a, b, r, rfl⟩
section
variable {prog p : Program} {w : World} {loose : List Str} {mean : ExcName → Option Value} {mg mb : Str → Option Value}
theorem law_run {dp un : Nat} {gd : Option (List Code)} {fa : Addr} {ccd : Value} {outer : List Env}
    {A₀ : Around} {base h₀ : Heap} {L : Addr} {s : Shared} {Q : Flow → Shared → Prop} {E : Value → Shared → Prop} {m₀ : Str → Option Value} {sa : Addr} {vals : List Value} {ns : List Int}
    (B : Below A₀ base outer h₀) (F : Fr h₀ L s.heap (fun y => if y = Str.ofString "script" then some (.ref sa) else m₀ y)) (XK : (Mine.hd.heap_39 w.params).In h₀) (T : Top p loose mean mg mb h₀)
    (hl : h₀.IsList sa vals.toArray) (hi : IntsAre vals ns) (hlen : ns.length ≤ 63) (hd : dp + 9 < recursionLimit) (hu : un + 80 < cLine)
    (hE : PassesOwn (model prog w) (ktrTop dp un gd (Str.ofString "law") lawScope L fa ccd [] outer) (lawEnv L fa ccd) E)
    (ret : ∀ h' tk' m', Fr h₀ L h' m' → Q (.ret (.bool true)) { s with heap := h', toks := tk' }) :
    wpS (model prog w) (ktrTop dp un gd (Str.ofString "law") lawScope L fa ccd [] outer) (execs lawBody (lawEnv L fa ccd)) Q E s := by
  have hu' : un + 60 < cLine := by omega
  have N : News h₀ L s.heap [] := fun p hp => nomatch hp
  rw [lawBody_is]
  refine wpS_consA (st1 B F XK N T hl hi hlen hd hu' ?_)
  intro nu v1 n1 h1 tk1 F1 N1 hI1
  have hks : (List.take 8 ns ++ List.drop ns.length [6, 3, 11, 4, 9, 2, 15, 12]).length = 8 := by
    simp only [List.length_append, List.length_take, List.length_drop, List.length_cons, List.length_nil]
    omega
  generalize List.take 8 ns ++ List.drop ns.length [6, 3, 11, 4, 9, 2, 15, 12] = ks at hI1 hks
  refine wpS_consA (st2 B F1 XK N1 T hI1 hks hd hu' ?_)
  intro ce v2 n2 h2 tk2 F2 N2 hI2
  have hcs : ∀ x ∈ ks.map (fun k => (k.fdiv 2).fmod 16), In15 x := by
    intro x hx
    obtain ⟨j, -, rfl⟩ := List.mem_map.mp hx
    have h1 := Int.fmod_nonneg_of_pos (j.fdiv 2) (b := 16) (by decide)
    have h2 := Int.fmod_lt_of_pos (j.fdiv 2) (b := 16) (by decide)
    exact ⟨h1, by omega⟩
  obtain ⟨a, b, c, d, e, f, g, i, hc⟩ := eight (l := ks.map (fun k => (k.fdiv 2).fmod 16)) (by rw [List.length_map]; exact hks)
  rw [hc] at hI2 hcs
  have px : Tab.In15 ⟨a, b, c, d⟩ := ⟨hcs a (by simp), hcs b (by simp), hcs c (by simp), hcs d (by simp)⟩
  have py : Tab.In15 ⟨e, f, g, i⟩ := ⟨hcs e (by simp), hcs f (by simp), hcs g (by simp), hcs i (by simp)⟩
  clear F N F1 N1 hI1 hcs hc hks
  refine wpS_consA (st3 B F2 XK N2 T hI2 hd hu' ?_)
  intro lt l0 l1 o0 o1 n3 h3 tk3 F3 N3 ho0 ho1
  clear F2 N2 hI2
  refine wpS_consA (st4 B F3 XK N3 T hl hi hlen hd hu' ?_)
  intro wb tb h4 tk4 F4 N4 hw
  clear F3 N3
  generalize hws : (ns.take 7).map (fun k => k.fmod 2) ++ [0, 1, 1] = W at hw
  have h01 : ∀ k ∈ W, k = 0 ∨ k = 1 := by
    intro k hk
    rw [← hws] at hk
    rcases List.mem_append.mp hk with h | h
    · obtain ⟨j, -, rfl⟩ := List.mem_map.mp h
      have h1 := Int.fmod_nonneg_of_pos j (b := 2) (by decide)
      have h2 := Int.fmod_lt_of_pos j (b := 2) (by decide)
      omega
    · simp only [List.mem_cons, List.not_mem_nil, or_false] at h
      omega
  have hW : 3 ≤ W.length ∧ W.length ≤ 10 := by
    rw [← hws]
    simp only [List.length_append, List.length_map, List.length_take, List.length_cons, List.length_nil]
    omega
  clear hws
  refine wpS_execs_cons (st5 B F4 XK N4 T hw (by omega) (by omega) hd hu' ?_)
  intro mb' tm h5 tk5 F5 N5 hm
  clear F4 N4
  obtain ⟨k0, k1, ws, rfl⟩ := two (l := W) (by omega)
  obtain ⟨j0, j1, vs, hrev⟩ := two (l := (k0 :: k1 :: ws).reverse) (by rw [List.length_reverse]; omega)
  rw [hrev] at hm
  have hlw : ws.length ≤ 90 := by simp only [List.length_cons] at hW; omega
  have mt : (lt, listOf #[.ref l0, .ref l1] n3) ∈ [(lt, listOf #[.ref l0, .ref l1] n3), (l1, o1), (l0, o0)] := .head _
  have hl1 : TabAt [(lt, listOf #[.ref l0, .ref l1] n3), (l1, o1), (l0, o0)] l1 ⟨e, f, g, i⟩ := ⟨o1, ho1, .tail _ (.head _)⟩
  have hl0 : TabAt [(lt, listOf #[.ref l0, .ref l1] n3), (l1, o1), (l0, o0)] l0 ⟨a, b, c, d⟩ := ⟨o0, ho0, .tail _ (.tail _ (.head _))⟩
  refine wpS_consA (loop6 B F5 ⟨rfl, rfl, rfl⟩ XK N5 T mt hl0 hl1 px py hw h01 hlw hm hrev hd hu' hE ?_)
  intro h6 tk6 m6 F6 hk6 N6
  clear F5 N5
  refine wpS_consA (st7 B F6 hk6 XK N6 T mt hl0 hl1 px py hw h01 hlw hm hrev hd hu ?_)
  intro h7 tk7 F7
  exact ret _ _ _ F7
end
end Mine
end

/-! part NyRow -/
section
open PySem PySem.W PyProof.Rows
set_option maxRecDepth 100000
set_option maxHeartbeats 16000000
namespace Mine
open PySem PySem.W PySem.Calls PyProof.Rows PySem.Spec
theorem enterS {M : Model} {s : Shared} {p : Pos} {f : Value} {pos : List Value} {kw : List (PySem.Str × Value)} {c : ClaimW} {cl : PySem.Str → Option Addr} {mean : ExcName → Option Value} {args : List WData} {s₁ : Shared}
    (h : codeS M callerA (.call f ⟨pos, kw⟩) (GoodW c cl mean args s₁) s) : Sem.wp M callerG (PySem.call f pos kw) (fun v _ s' => GoodWG c cl mean args s₁ (.ok (.ret v)) s') (fun e _ s' => GoodWG c cl mean args s₁ (.error e) s') p s := by
  have h2 : wpS M callerA (PySem.call f pos kw) (fun v s' => GoodWG c cl mean args s₁ (.ok (.ret v)) s') (fun e s' => GoodWG c cl mean args s₁ (.error e) s') s :=
    wpS_call (codeS_mono h fun res s' g => by
      have g' := GoodW.toG g
      rcases g'.1 with ⟨v, _, _, rfl, _⟩ | ⟨e, _, _, rfl, _⟩ <;> exact g')
  exact h2 callerG p caller_in (by decide +kernel) (fun x hx => by cases hx)
theorem call_fullS {prog : Program} {w : World} {A : Around} {R : Result → Shared → Prop} {s : Shared} {name : Str} {params : Arguments} {body : List Stmt} {scope : Scope}
    {dV kV pm cd doc : Value} {a : Addr} {o : Obj} {args : Args} {binds : List (Str × Value)}
    (hroom : A.depth < recursionLimit) (ho : s.heap.get? a = some o) (hdata : o.data = .func { docDef name params body scope pm cd doc with defaults := dV, kwdefaults := kV }) (hlim : s.heap.NoLimit) (hcd : s.heap.CodeRec cd name)
    (hbind : BindsTo s { docDef name params body scope pm cd doc with defaults := dV, kwdefaults := kV } args binds)
    (hloc : ∀ x ∈ binds, scope.names.lookup x.1 = some .local)
    (h : ∀ h₁, Fr s.heap s.heap.objs.size h₁ (fun x => binds.reverse.lookup x) →
      wpS (model prog w) (A.deeper (envOf name scope s.heap.objs.size a cd)) (execs body (envOf name scope s.heap.objs.size a cd))
        (fun f s' => R (.ok (.ret (match f with | .ret v => v | _ => .none))) s')
        (fun e s' => wpAny (model prog w) (A.deeper (envOf name scope s.heap.objs.size a cd)) (leaving (envOf name scope s.heap.objs.size a cd) e)
          (fun _ s'' => R (.error e) s'') (fun e' s'' => R (.error e') s'') s')
        { s with heap := h₁, toks := s.toks + binds.length })
    (hco : scope.isCoroutine = false := by rfl) (hgen : scope.isGenerator = false := by rfl) (hk : scope.kind = .function := by rfl)
    (hcell : ∀ x ∈ scope.names, x.2 ≠ .cell := by decide) :
    codeS (model prog w) A (.call (.ref a) args) R s :=
  codeS_call_def hroom ho hdata hlim hcd rfl hbind hcell hloc (fun h₁ hns hkeep => h h₁ ⟨hns, hkeep, Nat.le_refl _⟩) hco hgen hk
theorem lookup_one {k : Str} {v : Value} : (fun x => List.lookup x ([(k, v)] : List (Str × Value)).reverse) = fun y => if y = k then some v else none := by
  funext y
  simp only [List.reverse_singleton, List.lookup_cons, List.lookup_nil]
  by_cases h : y = k
  · simp [h]
  · rw [if_neg h, show (y == k) = false from beq_eq_false_iff_ne.mpr h]
theorem row : PySem.Challenge.rw_ny0011_01.Holds := by
  refine Mine.hd ?_
  w_on
  k_fill
  intro w s₀ s₁ mg mb G Y fa o pm cd doc dV kV ho hd hcd hD hmg hg args vals as hpre hlay hrd hwl hlo pp
  have KX := kIn_of Y
  have X := (Ground.X G).1
  have V := (Ground.X G).2
  try w_nolog (first | (have GL := glob_more (Ground.glob G (by first | k_qdec | decide +kernel) (by first | k_qdec | decide +kernel)) V) | (have GL := glob_more (Ground.glob G (by decide +kernel)) V))
  refine Ground.open G ?_
  intro T B D TE TW
  try (refine guard_noD D (by decide +kernel) ?_; clear D)
  obtain ⟨_, _, M⟩ := bmod_of_top T
  have TA := at_of_top T
  try (obtain ⟨_, _, he, B0⟩ := based_of_top T rfl hmg ho hd; have he' : cd = _ := he; subst he'; clear he)
  clear hmg
  wrow_args hpre hlay hrd hwl hlo
  w_top on
  show Sem.wp _ callerG (PySem.call _ _) _ _ _ _
  refine enterS ?_
  have K0 := below_caller (Top.heap T)
  have he := Dflts.none hD rfl; subst he
  refine call_fullS (by decide) ho hd (Top.nolimit T) hcd (BindsTo.of_eq rfl) (locs rfl) fun h₁ F => ?_
  w_binds F
  have N0 := (News.nil : News _ _ _ []).at F
  (rename Heap.IsList _ _ _ => hL9)
  (rename IntsAre _ _ => hI9)
  (rename (¬ (_ < _)) => hc9)
  rw [lookup_one] at F
  refine law_run (m₀ := fun _ => none) K0 F KX T hL9 hI9 (by omega) ?_ ?_ ?_ ?_
  · decide
  · decide
  · passes_own
  · intro h7 tk7 m7 F7
    (k_end; wrow_close)
end Mine
end

open PySem PySem.W PyProof.Rows
theorem PySem.Challenge.cw_ny0011_01_holds : PySem.Challenge.rw_ny0011_01.Holds := by
  exact Mine.row
