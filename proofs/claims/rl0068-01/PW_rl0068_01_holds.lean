import PyProof.Rows.All
import Wide.All
import OpenK.AllK
import Wide.FinOn
import PySem.Challenge.RW_rl0068_01
set_option Elab.async false
set_option rowWalk.seconds 0
section
open PySem PySem.W PyProof.Rows
set_option maxRecDepth 100000
set_option maxHeartbeats 8000000
namespace RL
open_top hd for PySem.Challenge.rw_rl0068_01
end RL
end
theorem RL.off_RLa : True := by
  w_top off
  trivial
section
open PySem PySem.W PyProof.Rows
set_option maxRecDepth 100000
namespace RL
/-- the frames of the caller, weakened to written numbers -/
abbrev At (d u : Nat) (env : Env) (outer : List Env) : Around := { handled := none, depth := d, frames := some (env :: outer), guards := none, units := u }
theorem weak {α : Type} {M : Model} {A : Around} {d u : Nat} {env : Env} {outer : List Env} {t : Sem α} {Q : α → Shared → Prop} {E : Value → Shared → Prop} {s : Shared}
    (hh : A.handled = none) (hd : A.depth ≤ d) (hf : A.frames = some (env :: outer)) (hu : A.units ≤ u)
    (h : wpAny M (At d u env outer) t Q E s) : wpAny M A t Q E s := fun Γ p hΓ =>
  h Γ p ⟨hΓ.1.trans hh, Nat.le_trans hΓ.2.1 hd, fun l hl => by
    have e : some (env :: outer) = some l := hl
    cases e
    exact hΓ.2.2.1 _ hf, fun g hg => (by cases hg), Nat.le_trans hΓ.2.2.2.2 hu⟩

theorem News.sub {h₀ h : Heap} {L : Addr} {l l' : List (Addr × Obj)} (N : News h₀ L h l) (hs : ∀ p ∈ l', p ∈ l) : News h₀ L h l' := fun p hp => N p (hs p hp)

end RL
end
theorem RL.off_RLb : True := by
  w_top off
  trivial
section
open PySem PySem.W PyProof.Rows PySem.Calls
set_option maxRecDepth 100000
namespace RL
section
variable {prog : Program} {w : World} {A A₀ : Around} {s : Shared} {K : Frag} {L : Addr} {h₀ base : Heap} {m mg mb : Str → Option Value} {kp : List (Addr × Obj)} {p : Program} {loose : List Str} {mean : ExcName → Option Value}
  {env : Env} {outer : List Env} {R : Result → Shared → Prop} {name qual : Str} {params : Arguments} {body : List Stmt} {scope : Scope} {dV kV doc pm cdv ct oc : Value} {an od : Option Addr} {osl : Array (Option Value)} {f : Addr} {args : Args} {binds : List (Str × Value)}
/-- what the callee's ground keeps of the caller's heap: all but the entries that it may turn -/
def Grd (h g : Heap) (kp : List (Addr × Obj)) : Prop := ∀ b o, h.get? b = some o → b ∉ kp.map (·.1) → g.get? b = some o
theorem grd_hide {h : Heap} {kp : List (Addr × Obj)} : Grd h (hideAll h (kp.map (·.1))) kp := fun _ _ e n => hideAll_get _ e n
/-- a call of a def without cells; only kp goes into the callee's ledger -/
theorem callP (B : Below A₀ base outer h₀) (F : Fr h₀ L s.heap m) (X₀ : K.In h₀) (N : News h₀ L s.heap kp) (T : Top p loose mean mg mb h₀) (hA : A.frames = some (env :: outer)) (hf : env.frame = some L) (hke : env.scope.kind = .function)
    (ho : K.lookup f = some ⟨oc, od, .func (fnOf name qual params body scope dV kV doc pm an cdv ct), osl⟩) (hcd : codeIn K cdv qual = true) (hroom : A.depth < recursionLimit)
    (hbind : BindsTo s (fnOf name qual params body scope dV kV doc pm an cdv ct) args binds) (hloc : ∀ y ∈ binds, scope.names.lookup y.1 = some .local)
    (h : ∀ g L' h₁, Grd s.heap g kp → Fr h₀ L g m → Fr g L' h₁ (fun y => binds.reverse.lookup y) → News g L' h₁ kp → Below A base (env :: outer) g → K.In g → Top p loose mean mg mb g → (∀ p ∈ kp, p.1 < L') →
      wpAny (model prog w) (A.deeper (envOf qual scope L' f cdv)) (execs body (envOf qual scope L' f cdv))
        (fun fl s' => LeaveK h₀ L m g R (match fl with | .ret v => v | _ => .none) s')
        (fun e s' => wpAny (model prog w) (A.deeper (envOf qual scope L' f cdv)) (leaving (envOf qual scope L' f cdv) e) (fun _ s'' => R (.error e) s'') (fun e' s'' => R (.error e') s'') s')
        { s with heap := h₁, toks := s.toks + binds.length })
    (hco : scope.isCoroutine = false) (hgen : scope.isGenerator = false) (hk : scope.kind = .function)
    (hcell : ∀ x ∈ scope.names, x.2 ≠ .cell) : codeAny (model prog w) A (.call (.ref f) args) R s := by
  have hof := (X₀.keeps F.keep) _ _ ho
  have hcr := codeRec_of (X₀.keeps F.keep) hcd
  obtain ⟨FG, BG, st, lv⟩ := groundX (R := R) B F N hA hf hke
  refine codeAny_call_def (fd := fnOf name qual params body scope dV kV doc pm an cdv ct) (body := body) (binds := binds) hroom hof rfl (T.nolimit.keeps F.keep) hcr rfl hbind hcell hloc (fun h₁ hns hk₁ => ?_) hco hgen hk
  refine wpAny_mono (h _ s.heap.objs.size h₁ grd_hide FG ⟨hns, fun b o e => hk₁ b o (of_hideAll _ e), Nat.le_of_eq (hideAll_size _ _)⟩ ?_ BG (X₀.keeps st) (T.keeps st) (fun p hp => Heap.lt_size (N p hp).1)) (fun fl s' hl => lv _ _ hl) fun _ _ y => y
  exact fun p hp => ⟨hk₁ _ _ (N p hp).1, Nat.ne_of_lt (Heap.lt_size (N p hp).1), hideAll_none _ (List.mem_map_of_mem hp)⟩
/-- the same for a def with cells -/
theorem callC (B : Below A₀ base outer h₀) (F : Fr h₀ L s.heap m) (X₀ : K.In h₀) (N : News h₀ L s.heap kp) (T : Top p loose mean mg mb h₀) (hA : A.frames = some (env :: outer)) (hf : env.frame = some L) (hke : env.scope.kind = .function)
    (ho : K.lookup f = some ⟨oc, od, .func (fnOf name qual params body scope dV kV doc pm an cdv ct), osl⟩) (hcd : codeIn K cdv qual = true) (hroom : A.depth < recursionLimit)
    (hbind : BindsTo s (fnOf name qual params body scope dV kV doc pm an cdv ct) args binds) (hkind : (binds.all fun y => scope.names.lookup y.1 == some .local || scope.names.lookup y.1 == some .cell) = true)
    (hnd : ((cellsFrom 0 scope.names []).map (·.1)).Nodup)
    (h : ∀ g L' h₁ tk cells, Grd s.heap g kp → Fr h₀ L g m → Fr g L' h₁ (bindL (envOfC qual scope L' f cdv).kindOf binds fun _ => none) → News g L' h₁ (cells ++ kp) →
      CellsAre (bindC (envOfC qual scope L' f cdv).kindOf binds fun _ => none) (cellsFrom (L' + 1) scope.names []) cells → Below A base (env :: outer) g → K.In g → Top p loose mean mg mb g → (∀ p ∈ kp, p.1 < L') →
      wpAny (model prog w) (A.deeper (envOfC qual scope L' f cdv)) (execs body (envOfC qual scope L' f cdv))
        (fun fl s' => LeaveK h₀ L m g R (match fl with | .ret v => v | _ => .none) s')
        (fun e s' => wpAny (model prog w) (A.deeper (envOfC qual scope L' f cdv)) (leaving (envOfC qual scope L' f cdv) e) (fun _ s'' => R (.error e) s'') (fun e' s'' => R (.error e') s'') s')
        { s with heap := h₁, toks := tk })
    (hco : scope.isCoroutine = false) (hgen : scope.isGenerator = false) (hk : scope.kind = .function) : codeAny (model prog w) A (.call (.ref f) args) R s := by
  have hof := (X₀.keeps F.keep) _ _ ho
  have hcr := codeRec_of (X₀.keeps F.keep) hcd
  obtain ⟨FG, BG, st, lv⟩ := groundX (R := R) B F N hA hf hke
  refine codeAny_call_function hroom hof rfl hco hgen rfl hcr (hbind _ _ _ _ ?_)
  refine wpAny_newFunctionEnv_cells hk (kindsX hkind _) fun env' he s' x => ?_
  subst he
  refine ⟨(T.nolimit.keeps F.keep).keeps x.toInCall.keep, codeAny_func ?_⟩
  obtain ⟨h₁, tk, rfl, _⟩ := x.done
  have hk₁ := x.toInCall.keep
  obtain ⟨cells, NC, Y⟩ := Cl.news (h₀ := s.heap) (Nat.le_refl _) fun n c hm => ⟨x.cell n c (lookup_of_mem_nodup (cellsFrom_names scope.names 0 (s.heap.objs.size + 1) [] [] rfl ▸ hnd) hm), x.above n c hm⟩
  refine wpAny_mono (h _ s.heap.objs.size h₁ tk cells grd_hide FG ⟨x.toInCall.ns, fun b o e => hk₁ b o (of_hideAll _ e), Nat.le_of_eq (hideAll_size _ _)⟩ (fun p hp => ?_) Y BG (X₀.keeps st) (T.keeps st) (fun p hp => Heap.lt_size (N p hp).1)) (fun fl s' hl => lv _ _ hl) fun _ _ y => y
  rcases List.mem_append.mp hp with hp | hp
  · refine ⟨(NC p hp).1, (NC p hp).2.1, ?_⟩
    cases q : (hideAll s.heap (kp.map (·.1))).get? p.1 with
    | none => rfl
    | some o => have := of_hideAll _ q; rw [(NC p hp).2.2] at this; cases this
  · exact ⟨hk₁ _ _ (N p hp).1, Nat.ne_of_lt (Heap.lt_size (N p hp).1), hideAll_none _ (List.mem_map_of_mem hp)⟩
end
end RL
end
theorem RL.off_RLc : True := by
  w_top off
  trivial
section
open PySem PySem.W PyProof.Rows PySem.Calls
set_option maxRecDepth 100000
set_option maxHeartbeats 4000000
namespace RL
abbrev tupOf (its : Array Value) (e : Nat) : Obj := { cls := .type "tuple", data := .seq its e }
def Ext (h h' : Heap) : Prop := ∀ b o, h.get? b = some o → h'.get? b = some o
/-- a call's promise at the heap: from any caller's frame -/
def HSpec (w : World) (d u : Nat) (f : Addr) (args : List Value) (Pre : Heap → Prop) (Post : Heap → Value → Heap → Prop) : Prop :=
  ∀ (p : Program) (loose : List Str) (mean : ExcName → Option Value) (mg mb : Str → Option Value) (A₀ : Around) (env : Env) (outer : List Env) (base h₀ : Heap) (L : Addr) (m : Str → Option Value) (s : Shared) (Q E : Value → Shared → Prop),
    Below A₀ base outer h₀ → Fr h₀ L s.heap m → (hd.heap_39 w.params).In h₀ → Top p loose mean mg mb h₀ → env.frame = some L → env.scope.kind = .function → Pre s.heap →
    (∀ v h' tk', Ext s.heap h' → Post s.heap v h' → Q v { s with heap := h', toks := tk' }) →
    wpAny (model PySem.Challenge.rw_rl0068_01.prog w) (At d u env outer) (call (.ref f) args) Q E s
section
variable {h₀ g h h' : Heap} {L L' : Addr} {m' : Str → Option Value} {kp news' : List (Addr × Obj)}
theorem ext_of (G : Grd h g []) (F : Fr g L' h' m') : Ext h h' := fun b o e => F.keep b o (G b o e (by simp))
theorem fresh_of {r : Addr} {o : Obj} (G : Grd h g []) (N : News g L' h' news') (hr : (r, o) ∈ news') : h.get? r = none := by
  cases q : h.get? r with
  | none => rfl
  | some o' => have := G r o' q (by simp); rw [(N _ hr).2.2] at this; cases this
end
local macro_rules | `(tactic| walk_at "call builtin:divmod") => `(tactic| (k_dflt (refine' divmod_N ?F ?N ?b ?_ ?p; (case F => k_asm); (case N => k_asm); (case b => omega); (case p => exact Or.inl (PyProof.noPylong_small (by omega)))); k_whole; intro h' F' N'))
theorem div2n1n_spec {w : World} {a b n : Int} {ta tb tn : Tok} (ha : 0 ≤ a) (ha' : a < 2 ^ 60) (hb : 0 < b) (hb' : b < 2 ^ 30) (hn : 0 ≤ n) :
    HSpec w 360 300 49 [.int a ta, .int b tb, .int n tn] (fun _ => True) (fun h v h' => ∃ r t1 t2, v = .ref r ∧ h.get? r = none ∧ h'.get? r = some (tupOf #[.int (a.fdiv b) t1, .int (a.fmod b) t2] 0)) := by
  intro p loose mean mg mb A₀ env outer base h₀ L m s Q E B F X T hf hk _ ret
  revert X
  k_fill
  intro X
  have hbits : Builtin.Int.intBits a ≤ 60 := intBits_le (by omega)
  refine wpAny_call ?_
  k_dflt (refine' callP (kp := []) ?k1 ?k2 ?k3 ?k4 ?k5 ?kA ?kF ?kK ?k6 ?k7 ?k8 ?k9 ?kB ?_ ?c2 ?c3 ?c4 ?c5; (case kA => exact rfl); (case kF => assumption); (case kK => assumption); (case k1 => k_asm); (case k2 => k_asm); (case k3 => k_asm); (case k4 => exact News.nil); (case k5 => k_asm); (case k6 => k_is); (case k7 => k_is); (case k8 => k_room); (case k9 => first | exact BindsTo.of_eq rfl | exact binds_K (by k_in) rfl (by k_is) rfl rfl rfl | fail "k_enter: no rule for these arguments"); (case c5 => decide); (case kB => exact locs rfl); (case c2 => exact rfl); (case c3 => exact rfl); (case c4 => exact rfl); k_whole; intro g' L' h' G' FG' F' N' B' X' T' l0'; clear l0'; (try dsimp only); (try k_fold))
  k_steps
  exact ret _ _ _ (ext_of (by assumption) (by assumption)) ⟨_, _, _, rfl, fresh_of (by assumption) (by assumption) (by k_mem), News.get (by assumption) (by k_mem)⟩
end RL
end
theorem RL.off_RLd : True := by
  w_top off
  trivial
section
open PySem PySem.W PyProof.Rows PySem.Calls
set_option maxRecDepth 100000
set_option maxHeartbeats 400000
namespace RL
section
variable {prog : Program} {w : World} {A A₀ : Around} {s : Shared} {K : Frag} {L : Addr} {h₀ base : Heap} {m mg mb : Str → Option Value} {kp : List (Addr × Obj)} {p : Program} {loose : List Str} {mean : ExcName → Option Value}
  {env : Env} {outer : List Env} {R : Result → Shared → Prop} {name qual : Str} {params : Arguments} {body : List Stmt} {scope : Scope} {doc pm ctv : Value} {cl : List (Str × Addr)} {f c' : Addr} {args : Args} {binds : List (Str × Value)}
/-- a call of a def that stands in the heap, with its closure -/
theorem callN (B : Below A₀ base outer h₀) (F : Fr h₀ L s.heap m) (X₀ : K.In h₀) (N : News h₀ L s.heap kp) (T : Top p loose mean mg mb h₀) (hA : A.frames = some (env :: outer)) (hf : env.frame = some L) (hke : env.scope.kind = .function)
    (ho : s.heap.get? f = some (fnMade name qual params body scope cl doc pm c' ctv)) (hcd : s.heap.CodeRec (.ref c') qual) (hroom : A.depth < recursionLimit)
    (hbind : BindsTo s (fnX name qual params body scope cl .none .none doc pm none (.ref c') ctv) args binds) (hloc : ∀ y ∈ binds, scope.names.lookup y.1 = some .local)
    (h : ∀ g L' h₁, Grd s.heap g kp → Fr h₀ L g m → Fr g L' h₁ (fun y => binds.reverse.lookup y) → News g L' h₁ kp → Below A base (env :: outer) g → K.In g → Top p loose mean mg mb g → (∀ p ∈ kp, p.1 < L') →
      wpAny (model prog w) (A.deeper (envX qual scope L' f (.ref c') cl)) (execs body (envX qual scope L' f (.ref c') cl))
        (fun fl s' => LeaveK h₀ L m g R (match fl with | .ret v => v | _ => .none) s')
        (fun e s' => wpAny (model prog w) (A.deeper (envX qual scope L' f (.ref c') cl)) (leaving (envX qual scope L' f (.ref c') cl) e) (fun _ s'' => R (.error e) s'') (fun e' s'' => R (.error e') s'') s')
        { s with heap := h₁, toks := s.toks + binds.length })
    (hco : scope.isCoroutine = false) (hgen : scope.isGenerator = false) (hk : scope.kind = .function)
    (hcell : ∀ x ∈ scope.names, x.2 ≠ .cell) : codeAny (model prog w) A (.call (.ref f) args) R s := by
  obtain ⟨FG, BG, st, lv⟩ := groundX (R := R) B F N hA hf hke
  refine codeAny_call_def (fd := fnX name qual params body scope cl .none .none doc pm none (.ref c') ctv) (body := body) (binds := binds) hroom ho rfl (T.nolimit.keeps F.keep) hcd rfl hbind hcell hloc (fun h₁ hns hk₁ => ?_) hco hgen hk
  refine wpAny_mono (h _ s.heap.objs.size h₁ grd_hide FG ⟨hns, fun b o e => hk₁ b o (of_hideAll _ e), Nat.le_of_eq (hideAll_size _ _)⟩ ?_ BG (X₀.keeps st) (T.keeps st) (fun p hp => Heap.lt_size (N p hp).1)) (fun fl s' hl => lv _ _ hl) fun _ _ y => y
  exact fun p hp => ⟨hk₁ _ _ (N p hp).1, Nat.ne_of_lt (Heap.lt_size (N p hp).1), hideAll_none _ (List.mem_map_of_mem hp)⟩
end
abbrev q1 : Str := Str.ofString "_int2digits.<locals>.inner"
abbrev q2 : Str := Str.ofString "_digits2int.<locals>.inner"
/-- a table of codes in a heap: empty, or the one code of `inner` -/
def TabH (h : Heap) (ln cl : Int) (q : Str) (t : Array Value) : Prop :=
  t = #[] ∨ ∃ c oc vs tk, t = #[rawInt ln, rawInt cl, .ref c] ∧ h.get? c = some oc ∧ oc.data = .fields vs ∧ vs[1]? = some (.str q tk)
def TBh (h : Heap) : Prop := ∃ t1 t2, h.get? 58 = some (tabObj t1) ∧ h.get? 65 = some (tabObj t2) ∧ TabH h 33 4 q1 t1 ∧ TabH h 48 4 q2 t2
def ExtT (h h' : Heap) : Prop := ∀ b o, b ≠ 58 → b ≠ 65 → h.get? b = some o → h'.get? b = some o
def HSpecT (w : World) (d u : Nat) (f : Addr) (args : List Value) (Pre : Heap → Prop) (Post : Heap → Value → Heap → Prop) : Prop :=
  ∀ (p : Program) (loose : List Str) (mean : ExcName → Option Value) (mg mb : Str → Option Value) (A₀ : Around) (env : Env) (outer : List Env) (base h₀ : Heap) (L : Addr) (m : Str → Option Value) (s : Shared) (Q E : Value → Shared → Prop),
    Below A₀ base outer h₀ → Fr h₀ L s.heap m → (hd.heap_39 w.params).In h₀ → Top p loose mean mg mb h₀ → CodeHd h₀ 62 58 → CodeHd h₀ 69 65 → h₀.get? 58 = none → h₀.get? 65 = none → env.frame = some L → env.scope.kind = .function → TBh s.heap → Pre s.heap →
    (∀ v h' tk', ExtT s.heap h' → TBh h' → Post s.heap v h' → Q v { s with heap := h', toks := tk' }) →
    wpAny (model PySem.Challenge.rw_rl0068_01.prog w) (At d u env outer) (call (.ref f) args) Q E s
/-- a table in a frame's ledger -/
def TabL (h₀ : Heap) (ln cl : Int) (q : Str) (t : Array Value) (a : Addr × Obj) : Prop :=
  t = #[] ∨ ∃ c oc vs tk, t = #[rawInt ln, rawInt cl, .ref c] ∧ (h₀.get? c = some oc ∨ a = (c, oc)) ∧ oc.data = .fields vs ∧ vs[1]? = some (.str q tk)
def TBl (h₀ : Heap) (tb : List (Addr × Obj)) : Prop := ∃ t1 t2 a b, tb = [(65, tabObj t2), (58, tabObj t1), a, b] ∧ TabL h₀ 33 4 q1 t1 a ∧ TabL h₀ 48 4 q2 t2 b
def AllNe (r : Addr) : List (Addr × Obj) → Prop
  | [] => True
  | p :: l => @Ne Nat p.1 r ∧ AllNe r l
theorem allNe_of {r : Addr} {l : List (Addr × Obj)} (h : ∀ p ∈ l, p.1 ≠ r) : AllNe r l := by
  induction l with
  | nil => exact trivial
  | cons p l ih => exact ⟨h p List.mem_cons_self, ih fun q hq => h q (List.mem_cons_of_mem _ hq)⟩
theorem AllNe.get {r : Addr} {l : List (Addr × Obj)} (h : AllNe r l) : ∀ p ∈ l, p.1 ≠ r := by
  induction l with
  | nil => intro p hp; exact absurd hp List.not_mem_nil
  | cons p l ih =>
    intro q hq
    rcases List.mem_cons.mp hq with e | hq
    · rw [e]; exact h.1
    · exact ih h.2 q hq
def Apart (r : List (Addr × Obj)) : List (Addr × Obj) → Prop
  | [] => True
  | p :: l => AllNe p.1 r ∧ Apart r l
theorem Apart.get {r l : List (Addr × Obj)} (h : Apart r l) : ∀ p ∈ l, ∀ q ∈ r, q.1 ≠ p.1 := by
  induction l with
  | nil => intro p hp; exact absurd hp List.not_mem_nil
  | cons p l ih =>
    intro q hq
    rcases List.mem_cons.mp hq with e | hq
    · rw [e]; exact h.1.get
    · exact ih h.2 q hq
theorem tab_str {h : Heap} {P : Addr} {t : Array Value} {ln cl : Int} {q q' : Str} {oc : Obj} {vs : Array Value} {tk : Tok} (hP : h.get? P = some (tabObj t)) (T : TabH h ln cl q t) (e : h.get? P = some oc) (hd : oc.data = .fields vs) (hv : vs[1]? = some (.str q' tk)) : False := by
  have e1 : tabObj t = oc := Option.some.inj (hP.symm.trans e)
  subst e1
  have e2 : t = vs := Data.fields.inj hd
  subst e2
  rcases T with rfl | ⟨c, oc, vs, tk', rfl, _⟩
  · simp at hv
  · have : some (rawInt cl) = some (Value.str q' tk) := hv
    exact nomatch this
theorem TBh.code_ne {h : Heap} (T : TBh h) {c : Addr} {oc : Obj} {vs : Array Value} {q : Str} {tk : Tok} (e : h.get? c = some oc) (hd : oc.data = .fields vs) (hv : vs[1]? = some (.str q tk)) : c ≠ 58 ∧ c ≠ 65 := by
  obtain ⟨t1, t2, h1, h2, T1, T2⟩ := T
  exact ⟨fun z => tab_str h1 T1 (z ▸ e) hd hv, fun z => tab_str h2 T2 (z ▸ e) hd hv⟩
theorem ns_ne_fields {h : Heap} {L c : Addr} {m : Str → Option Value} {oc : Obj} {vs : Array Value} (hn : h.Ns L m) (e : h.get? c = some oc) (hd : oc.data = .fields vs) : c ≠ L := by
  rintro rfl
  obtain ⟨o, es, ep, ho, hdd, _⟩ := hn
  have e1 : o = oc := Option.some.inj (ho.symm.trans e)
  rw [e1, hd] at hdd
  exact nomatch hdd
theorem none_ne {h : Heap} {a b : Addr} {o : Obj} (e : h.get? a = some o) (n : h.get? b = none) : a ≠ b := fun z => by
  rw [z, n] at e
  exact nomatch e
section
variable {w : World} {p : Program} {loose : List Str} {mean : ExcName → Option Value} {mg mb : Str → Option Value} {A A₀ : Around} {env : Env} {outer : List Env} {base h₀ h' : Heap} {L : Addr} {m : Str → Option Value} {l rest tb : List (Addr × Obj)} {s : Shared} {Q E : Value → Shared → Prop}
theorem tabL_H {h : Heap} {ln cl : Int} {q : Str} {t : Array Value} {a : Addr × Obj} (F : Fr h₀ L h m) (ha : h.get? a.1 = some a.2) (T : TabL h₀ ln cl q t a) : TabH h ln cl q t := by
  rcases T with e | ⟨c, oc, vs, tk, e, hc, hd, hv⟩
  · exact .inl e
  · refine .inr ⟨c, oc, vs, tk, e, ?_, hd, hv⟩
    rcases hc with hc | rfl
    · exact F.keep _ _ hc
    · exact ha
theorem tbl_h {h : Heap} (F : Fr h₀ L h m) (N : News h₀ L h tb) (T : TBl h₀ tb) : TBh h := by
  obtain ⟨t1, t2, a, b, rfl, T1, T2⟩ := T
  exact ⟨t1, t2, (N (58, tabObj t1) (.tail _ (.head _))).1, (N (65, tabObj t2) (.head _)).1, tabL_H F (N a (.tail _ (.tail _ (.head _)))).1 T1, tabL_H F (N b (.tail _ (.tail _ (.tail _ (.head _))))).1 T2⟩
/-- a code that a table tells, as a ledger's entry -/
theorem tabH_L {h : Heap} {ln cl : Int} {q : Str} {t : Array Value} {P : Addr} (F : Fr h₀ L h m) (eP : h.get? P = some (tabObj t)) (pn : h₀.get? P = none) (T : TabH h ln cl q t) :
    ∃ a : Addr × Obj, TabL h₀ ln cl q t a ∧ h.get? a.1 = some a.2 ∧ h₀.get? a.1 = none ∧ (∃ fs, a.2.data = .fields fs) ∧ (a.1 = P ∨ ∃ vs tk, a.2.data = .fields vs ∧ vs[1]? = some (.str q tk)) := by
  rcases T with e | ⟨c, oc, vs, tk, e, hc, hd, hv⟩
  · exact ⟨(P, tabObj t), .inl e, eP, pn, ⟨_, rfl⟩, .inl rfl⟩
  · cases q0 : h₀.get? c with
    | some o' =>
      have z : o' = oc := Option.some.inj ((F.keep _ _ q0).symm.trans hc)
      rw [z] at q0
      exact ⟨(P, tabObj t), .inr ⟨c, oc, vs, tk, e, .inl q0, hd, hv⟩, eP, pn, ⟨_, rfl⟩, .inl rfl⟩
    | none => exact ⟨(c, oc), .inr ⟨c, oc, vs, tk, e, .inr rfl, hd, hv⟩, hc, q0, ⟨vs, hd⟩, .inr ⟨vs, tk, hd, hv⟩⟩
/-- no code of an inner def among the entries -/
def NoCode (rest : List (Addr × Obj)) : Prop := ∀ q ∈ rest, ∀ vs qs tk, q.2.data = .fields vs → vs[1]? ≠ some (.str qs tk)
/-- a frame's ledger and frame behind a call that may grow the tables -/
theorem ledT {h : Heap} (F : Fr h₀ L h m) (N : News h₀ L h (rest ++ tb)) (T : TBl h₀ tb) (nc : NoCode rest) (ap : AllNe 58 rest ∧ AllNe 65 rest) (n1 : h₀.get? 58 = none) (n2 : h₀.get? 65 = none) (X : ExtT h h') (T' : TBh h') :
    Fr h₀ L h' m ∧ ∃ tb', TBl h₀ tb' ∧ News h₀ L h' (rest ++ tb') ∧ Apart rest tb' ∧ ∀ r obj its e, h.get? r = none → h'.get? r = some obj → obj.data = .seq its e → News h₀ L h' ((r, obj) :: (rest ++ tb')) ∧ AllNe r (rest ++ tb') := by
  have Th := tbl_h F (fun q hq => N q (List.mem_append_right _ hq)) T
  obtain ⟨s1, s2, g1, g2, S1, S2⟩ := Th
  have L58 : (58 : Nat) ≠ L := ns_ne_fields F.ns g1 rfl
  have L65 : (65 : Nat) ≠ L := ns_ne_fields F.ns g2 rfl
  have hns : h'.Ns L m := by
    obtain ⟨o, es, ep, ho, r⟩ := F.ns
    exact ⟨o, es, ep, X _ _ (Ne.symm L58) (Ne.symm L65) ho, r⟩
  have F' : Fr h₀ L h' m := ⟨hns, fun b o e => X b o (none_ne e n1) (none_ne e n2) (F.keep b o e), F.above⟩
  refine ⟨F', ?_⟩
  obtain ⟨t1, t2, e1, e2, T1, T2⟩ := T'
  obtain ⟨a, A1, A2, A3, ⟨fa, A4⟩, A5⟩ := tabH_L F' e1 n1 T1
  obtain ⟨b, B1, B2, B3, ⟨fb, B4⟩, B5⟩ := tabH_L F' e2 n2 T2
  have old : ∀ q ∈ rest, h'.get? q.1 = some q.2 ∧ q.1 ≠ L ∧ h₀.get? q.1 = none := fun q hq =>
    ⟨X _ _ (ap.1.get q hq) (ap.2.get q hq) (N q (List.mem_append_left _ hq)).1, (N q (List.mem_append_left _ hq)).2⟩
  have apc : ∀ (c : Addr × Obj) (P : Addr) (qs : Str), h'.get? c.1 = some c.2 → AllNe P rest → (c.1 = P ∨ ∃ vs tk, c.2.data = .fields vs ∧ vs[1]? = some (.str qs tk)) → ∀ q ∈ rest, q.1 ≠ c.1 := fun c P qs hc hP hh q hq => by
    rcases hh with z | ⟨vs, tk, hd, hv⟩
    · rw [z]; exact hP.get q hq
    · intro z
      have e := (old q hq).1
      rw [z, hc] at e
      have e' : c.2 = q.2 := Option.some.inj e
      exact nc q hq vs qs tk (by rw [← e']; exact hd) hv
  have apa := apc a 58 _ A2 ap.1 A5
  have apb := apc b 65 _ B2 ap.2 B5
  have N' : News h₀ L h' (rest ++ [(65, tabObj t2), (58, tabObj t1), a, b]) := fun q hq => by
    rcases List.mem_append.mp hq with hq | hq
    · exact old q hq
    · simp only [List.mem_cons, List.not_mem_nil, or_false] at hq
      rcases hq with rfl | rfl | rfl | rfl
      · exact ⟨e2, L65, n2⟩
      · exact ⟨e1, L58, n1⟩
      · exact ⟨A2, ns_ne_fields hns A2 A4, A3⟩
      · exact ⟨B2, ns_ne_fields hns B2 B4, B3⟩
  refine ⟨_, ⟨t1, t2, a, b, rfl, A1, B1⟩, N', ⟨ap.2, ap.1, allNe_of apa, allNe_of apb, trivial⟩, fun r obj its e hr ho hd => ?_⟩
  have rne : ∀ c oc fs, h'.get? c = some oc → oc.data = .fields fs → c ≠ r := fun c oc fs hc hdc z => by
    rw [z, ho] at hc
    have e' : obj = oc := Option.some.inj hc
    rw [e', hdc] at hd
    exact nomatch hd
  refine ⟨fun q hq => ?_, allNe_of fun q hq => ?_⟩
  · rcases List.mem_cons.mp hq with rfl | hq
    · refine ⟨ho, fun z => ?_, ?_⟩
      · obtain ⟨oL, _, _, hL, _⟩ := F.ns
        exact none_ne hL hr z.symm
      · cases q0 : h₀.get? r with
        | none => rfl
        | some o' => exact absurd rfl (none_ne (F.keep _ _ q0) hr)
    · exact N' q hq
  · rcases List.mem_append.mp hq with hq | hq
    · exact none_ne (N q (List.mem_append_left _ hq)).1 hr
    · simp only [List.mem_cons, List.not_mem_nil, or_false] at hq
      rcases hq with rfl | rfl | rfl | rfl
      · exact rne _ _ _ e2 rfl
      · exact rne _ _ _ e1 rfl
      · exact rne _ _ _ A2 A4
      · exact rne _ _ _ B2 B4
end
end RL
end
theorem RL.off_RLn : True := by
  w_top off
  trivial
section
open PySem PySem.W PyProof.Rows PySem.Calls
set_option maxRecDepth 10000
set_option maxHeartbeats 400000
namespace RL
theorem and_high (x k : Nat) : x &&& (x / 2 ^ k * 2 ^ k) = x / 2 ^ k * 2 ^ k := by
  apply Nat.eq_of_testBit_eq
  intro i
  rw [Nat.testBit_and, ← Nat.shiftLeft_eq, ← Nat.shiftRight_eq_div_pow, Nat.testBit_shiftLeft, Nat.testBit_shiftRight]
  by_cases h : k ≤ i
  · have : k + (i - k) = i := by omega
    simp [h, this]
  · simp [h]
theorem xor_high (x k : Nat) : Builtin.bitXor (x : Int) ((x / 2 ^ k * 2 ^ k : Nat) : Int) = ((x % 2 ^ k : Nat) : Int) := by
  rw [bitXor_and]
  have e : Builtin.bitAnd (x : Int) ((x / 2 ^ k * 2 ^ k : Nat) : Int) = ((x &&& (x / 2 ^ k * 2 ^ k) : Nat) : Int) := rfl
  rw [e, and_high]
  have h := Nat.div_add_mod x (2 ^ k)
  have h2 : x / 2 ^ k * 2 ^ k = 2 ^ k * (x / 2 ^ k) := Nat.mul_comm _ _
  omega
theorem fdiv_nat (x k : Nat) : (x : Int).fdiv ((k : Nat) : Int) = ((x / k : Nat) : Int) := by
  rw [Int.fdiv_eq_ediv_of_nonneg _ (by omega)]
  exact (Int.natCast_ediv x k).symm
theorem fdiv_pow (x k : Nat) : (x : Int).fdiv (2 ^ k) = ((x / 2 ^ k : Nat) : Int) := by
  have : (2 : Int) ^ k = ((2 ^ k : Nat) : Int) := by simp
  rw [this, fdiv_nat]
section
variable {prog : Program} {w : World} {A : Around} {E : Value → Shared → Prop} {s : Shared} {a b : Nat} {t u : Tok} {Q : Value → Shared → Prop}
theorem addN (h : Q (.int ((a + b : Nat) : Int) s.toks) { s with toks := s.toks + 1 }) : wpAny (model prog w) A (binaryOp .Add (.int (a : Int) t) (.int (b : Int) u)) Q E s :=
  add_int (by rw [← Int.natCast_add]; exact h)
theorem subN (hle : b ≤ a) (h : Q (.int ((a - b : Nat) : Int) s.toks) { s with toks := s.toks + 1 }) : wpAny (model prog w) A (binaryOp .Sub (.int (a : Int) t) (.int (b : Int) u)) Q E s :=
  sub_int (by rw [← Int.natCast_sub hle]; exact h)
theorem mulN (hb : b < 2 ^ 64) (h : Q (.int ((a * b : Nat) : Int) s.toks) { s with toks := s.toks + 1 }) : wpAny (model prog w) A (binaryOp .Mult (.int (a : Int) t) (.int (b : Int) u)) Q E s :=
  mul_int (by rw [← Int.natCast_mul]; exact h) (IntMulOk.of_right (intBits_le (by omega)))
theorem shrN (h : Q (.int ((a / 2 ^ b : Nat) : Int) s.toks) { s with toks := s.toks + 1 }) : wpAny (model prog w) A (binaryOp .RShift (.int (a : Int) t) (.int (b : Int) u)) Q E s :=
  rshift_int (Int.natCast_nonneg _) (by rw [Int.toNat_natCast, fdiv_pow]; exact h)
theorem shr1 (h : Q (.int ((a / 2 : Nat) : Int) s.toks) { s with toks := s.toks + 1 }) : wpAny (model prog w) A (binaryOp .RShift (.int (a : Int) t) (.int 1 u)) Q E s :=
  rshift_int (by decide) (by
    have := fdiv_pow a 1
    rw [Nat.pow_one] at this
    have e : (1 : Int).toNat = 1 := rfl
    rw [e, this]; exact h)
theorem shlN (hn : b ≤ 100000) (ha : a < 2 ^ 64) (h : Q (.int ((a * 2 ^ b : Nat) : Int) s.toks) { s with toks := s.toks + 1 }) : wpAny (model prog w) A (binaryOp .LShift (.int (a : Int) t) (.int (b : Int) u)) Q E s :=
  lshift_int_small (Int.natCast_nonneg _) (by omega) (by simpa using ha) (by
    rw [Int.toNat_natCast]
    have : (a : Int) * 2 ^ b = ((a * 2 ^ b : Nat) : Int) := by simp
    rw [this]; exact h)
theorem xorN {x k : Nat} (h : Q (.int ((x % 2 ^ k : Nat) : Int) s.toks) { s with toks := s.toks + 1 }) : wpAny (model prog w) A (binaryOp .BitXor (.int (x : Int) t) (.int ((x / 2 ^ k * 2 ^ k : Nat) : Int) u)) Q E s :=
  xor_int (by rw [xor_high]; exact h)
end
/-- the digits of x, n bits each, k of them -/
def digitsOf (n : Nat) : Nat → Nat → List Int
  | 0, _ => []
  | k + 1, x => ((x % 2 ^ n : Nat) : Int) :: digitsOf n k (x / 2 ^ n)
theorem digitsOf_length (n : Nat) : ∀ k x, (digitsOf n k x).length = k
  | 0, _ => rfl
  | k + 1, x => by rw [digitsOf, List.length_cons, digitsOf_length n k]
theorem digitsOf_one (n x : Nat) (h : x < 2 ^ n) : digitsOf n 1 x = [(x : Int)] := by
  simp [digitsOf, Nat.mod_eq_of_lt h]
theorem digitsOf_add (n : Nat) : ∀ a b x, digitsOf n (a + b) x = digitsOf n a (x % 2 ^ (n * a)) ++ digitsOf n b (x / 2 ^ (n * a))
  | 0, b, x => by simp [digitsOf]
  | a + 1, b, x => by
    have e : a + 1 + b = (a + b) + 1 := by omega
    rw [e, digitsOf, digitsOf, digitsOf_add n a b]
    have p : 2 ^ (n * (a + 1)) = 2 ^ n * 2 ^ (n * a) := by rw [Nat.mul_add, Nat.mul_one, Nat.add_comm, Nat.pow_add]
    have h1 : x % 2 ^ (n * (a + 1)) % 2 ^ n = x % 2 ^ n := by rw [p]; exact Nat.mod_mod_of_dvd _ ⟨_, rfl⟩
    have h2 : x % 2 ^ (n * (a + 1)) / 2 ^ n = x / 2 ^ n % 2 ^ (n * a) := by rw [p]; exact Nat.mod_mul_right_div_self x (2 ^ n) (2 ^ (n * a))
    have h3 : x / 2 ^ n / 2 ^ (n * a) = x / 2 ^ (n * (a + 1)) := by rw [p]; exact Nat.div_div_eq_div_mul x (2 ^ n) (2 ^ (n * a))
    rw [h1, h2, h3]
    rfl
end RL
end
theorem RL.off_RLf : True := by
  w_top off
  trivial
section
open PySem PySem.W PyProof.Rows PySem.Calls
set_option maxRecDepth 100000
set_option maxHeartbeats 1000000
namespace RL
theorem filled (w : World) (h : Heap) : (hd.heap_39 w.params).In h → PySem.Challenge.rw_rl0068_01.prog = PySem.Challenge.rw_rl0068_01.prog := by
  k_fill
  exact fun _ => rfl
noncomputable def innerOf (w : World) (f : Addr) (i : Nat) : Arguments × List Stmt × Scope := match (hd.heap_39 w.params).lookup f with
  | some ⟨_, _, .func fd, _⟩ => (match fd.body with
    | .stmts b => (match b[i]? with | some (.FunctionDef _ a bd _ _ _ sc _ _ _) => (a, bd, sc) | _ => default)
    | _ => default)
  | _ => default
theorem inner_lit {w : World} {f : Addr} {i : Nat} {P : Arguments → List Stmt → Scope → Prop} {oc dV kV doc pm cdv ct : Value} {od an : Option Addr} {osl : Array (Option Value)} {name qual : Str} {params a : Arguments} {body bd : List Stmt} {scope sc : Scope} {nm bn : Str} {ds : List Expr} {rt : Option Expr} {tp : List TypeParam} {ts : Option Scope} {ps : Pos}
    (ho : (hd.heap_39 w.params).lookup f = some ⟨oc, od, .func (fnOf name qual params body scope dV kV doc pm an cdv ct), osl⟩) (hb : body[i]? = some (.FunctionDef nm a bd ds rt tp sc ts bn ps)) :
    P a bd sc ↔ P (innerOf w f i).1 (innerOf w f i).2.1 (innerOf w f i).2.2 := by
  have e : innerOf w f i = (a, bd, sc) := by
    unfold innerOf
    rw [ho]
    show (match body[i]? with | some (.FunctionDef _ a bd _ _ _ sc _ _ _) => (a, bd, sc) | _ => default) = _
    rw [hb]
  rw [e]
theorem ne_data {h : Heap} {a b : Addr} {o1 o2 : Obj} (e1 : h.get? a = some o1) (e2 : h.get? b = some o2) (n : o1.data ≠ o2.data) : a ≠ b := fun z => by
  rw [z, e2] at e1
  exact n (by rw [Option.some.inj e1])
/-- frame and ledger behind a call that turned the one entry l -/
theorem ledB {h₀ h h' : Heap} {L l : Addr} {m : Str → Option Value} {o o' : Obj} {rest : List (Addr × Obj)} (F : Fr h₀ L h m) (N : News h₀ L h ((l, o) :: rest)) (ne : AllNe l rest) (X : ∀ b o, b ≠ l → h.get? b = some o → h'.get? b = some o) (hl : h'.get? l = some o') :
    Fr h₀ L h' m ∧ News h₀ L h' ((l, o') :: rest) := by
  have nl := N (l, o) List.mem_cons_self
  have k0 : ∀ b ob, h₀.get? b = some ob → b ≠ l := fun b ob e => none_ne e nl.2.2
  refine ⟨⟨?_, fun b ob e => X b ob (k0 b ob e) (F.keep b ob e), F.above⟩, fun p hp => ?_⟩
  · obtain ⟨oL, es, ep, ho, r⟩ := F.ns
    exact ⟨oL, es, ep, X _ _ (Ne.symm nl.2.1) ho, r⟩
  · rcases List.mem_cons.mp hp with e | hp
    · rw [e]; exact ⟨hl, nl.2⟩
    · have n := N p (List.mem_cons_of_mem _ hp)
      exact ⟨X _ _ (ne.get p hp) n.1, n.2⟩
theorem intsAre_set {t : Tok} {v : Int} {vs : List Value} {ns : List Int} (h : IntsAre vs ns) : ∀ i : Nat, IntsAre (vs.set i (.int v t)) (ns.set i v) := by
  induction h with
  | nil => intro i; exact .nil
  | cons n tn hh ih =>
    intro i
    cases i with
    | zero => exact .cons v t hh
    | succ i => exact .cons n tn (ih i)
/-- what stands behind a call that could turn the one entry l -/
theorem extB {h₀ h g h' : Heap} {L L' l : Addr} {m' : Str → Option Value} {o o' : Obj} {rest : List (Addr × Obj)} (G : Grd h g ((l, o) :: rest)) (N0 : News h₀ L h ((l, o) :: rest)) (F : Fr g L' h' m') (N : News g L' h' ((l, o') :: rest)) :
    ∀ b ob, b ≠ l → h.get? b = some ob → h'.get? b = some ob := fun b ob hb e => by
  by_cases hm : b ∈ (((l, o) :: rest).map (·.1))
  · obtain ⟨p, hp, hp1⟩ := List.mem_map.mp hm
    have hp1 : p.1 = b := hp1
    rcases List.mem_cons.mp hp with z | hp
    · rw [z] at hp1; exact absurd hp1.symm hb
    · have e0 := (N0 p (List.mem_cons_of_mem _ hp)).1
      have e1 := (N p (List.mem_cons_of_mem _ hp)).1
      rw [hp1] at e0 e1
      rw [e1, ← Option.some.inj (e0.symm.trans e)]
  · exact F.keep b ob (G b ob e hm)
theorem code_not_in {h₀ h : Heap} {L c' : Addr} {oc : Obj} {fs : Array Value} {kp : List (Addr × Obj)} (N : News h₀ L h kp) (hc : h.get? c' = some oc) (hd : oc.data = .fields fs) (hk : ∀ p ∈ kp, ∀ fs, p.2.data ≠ .fields fs) : c' ∉ kp.map (·.1) := fun hm => by
  obtain ⟨p, hp, hp1⟩ := List.mem_map.mp hm
  have hp1 : p.1 = c' := hp1
  have e0 := (N p hp).1
  rw [hp1, hc] at e0
  exact hk p hp fs (by rw [← Option.some.inj e0]; exact hd)
def IsFn (fo : Obj) : Prop := ∃ oc od fd sl, fo = ⟨oc, od, .func fd, sl⟩
theorem fnAt_fo {h₀ h : Heap} {L q : Addr} {fo : Obj} {news : List (Addr × Obj)} (N : News h₀ L h news) (hm : (q, fo) ∈ news) (hf : IsFn fo) : FnAt q h := by
  obtain ⟨oc, od, fd, sl, e⟩ := hf
  exact ⟨oc, od, fd, sl, by rw [← e]; exact (N _ hm).1⟩
def Inner63 (w : World) (params : Arguments) (body : List Stmt) (scope : Scope) : Prop :=
  ∀ (k dp un : Nat), dp + k ≤ 450 → un + 10 * k ≤ 2000 →
  ∀ (p : Program) (loose : List Str) (mean : ExcName → Option Value) (mg mb : Str → Option Value) (A₀ : Around) (env : Env) (outer : List Env) (base h₀ : Heap) (L : Addr) (m : Str → Option Value) (s : Shared) (Q E : Value → Shared → Prop)
    (fi ca ci cn l c' : Addr) (oa oi on oc fo : Obj) (doc pm ctv : Value) (vs : List Value) (ns : List Int) (e n : Nat) (tn tq t1 t2 t3 : Tok) (fs : Array Value) (x lo hi : Nat),
    Below A₀ base outer h₀ → Fr h₀ L s.heap m → (hd.heap_39 w.params).In h₀ → Top p loose mean mg mb h₀ → env.frame = some L → env.scope.kind = .function →
    News h₀ L s.heap [(l, listOf vs.toArray e), (ca, oa), (ci, oi), (cn, on), (fi, fo)] →
    fo = fnMade (Str.ofString "inner") q1 params body scope [(Str.ofString "n", cn), (Str.ofString "inner", ci), (Str.ofString "a_digits", ca)] doc pm c' ctv →
    ca ≠ l → ci ≠ l → cn ≠ l → fi ≠ l →
    oa.data = .cell (some (.ref l)) → oi.data = .cell (some (.ref fi)) → on.data = .cell (some (.int n tn)) →
    s.heap.get? c' = some oc → oc.data = .fields fs → fs[1]? = some (.str q1 tq) →
    IntsAre vs ns → lo < hi → hi ≤ ns.length → ns.length ≤ 64 → hi - lo ≤ k → 0 < n → n ≤ 64 → x < 2 ^ 60 → x < 2 ^ (n * (hi - lo)) →
    (∀ vs' h' tk', (∀ b o, b ≠ l → s.heap.get? b = some o → h'.get? b = some o) → h'.get? l = some (listOf (List.toArray vs') e) → IntsAre vs' (ns.take lo ++ digitsOf n (hi - lo) x ++ ns.drop hi) → Q .none { s with heap := h', toks := tk' }) →
    wpAny (model PySem.Challenge.rw_rl0068_01.prog w) (At dp un env outer) (call (.ref fi) [.int x t1, .int lo t2, .int hi t3]) Q E s
section
local macro_rules | `(tactic| walk_at "eval Name") => `(tactic| (k_dflt (refine' nameX_F ?N ?c ?m ?d ?_ ?a ?b; (case a => rfl); (case b => rfl); (case N => k_asm); (case c => rfl); (case m => k_mem); (case d => k_asm); k_whole)))
local macro_rules | `(tactic| walk_at "binaryOp Add int int") => `(tactic| (with_reducible refine addN ?_))
local macro_rules | `(tactic| walk_at "binaryOp Sub int int") => `(tactic| ((with_reducible refine subN ?hle ?_); (case hle => omega)))
local macro_rules | `(tactic| walk_at "binaryOp Mult int int") => `(tactic| ((with_reducible refine mulN ?hle ?_); (case hle => omega)))
local macro_rules | `(tactic| walk_at "binaryOp RShift int int") => `(tactic| (with_reducible refine shrN ?_))
local macro_rules | `(tactic| walk_at "binaryOp RShift int int") => `(tactic| (with_reducible refine shr1 ?_))
local macro_rules | `(tactic| walk_at "binaryOp LShift int int") => `(tactic| ((with_reducible refine shlN ?hn ?ha ?_); (case hn => assumption); (case ha => assumption)))
local macro_rules | `(tactic| walk_at "binaryOp BitXor int int") => `(tactic| (with_reducible refine xorN ?_))
local macro_rules | `(tactic| walk_at "callWith ref") => `(tactic| (k_dflt (refine' callWith_F ?k1 ?_; (case k1 => exact fnAt_fo (by k_asm) (by k_mem) (by assumption)); k_whole)))
local macro_rules | `(tactic| walk_at "And") => `(tactic| ((with_reducible show FnAt _ _ ∧ _); refine ⟨fnAt_fo (by k_asm) (by k_mem) (by assumption), ?_⟩; try dsimp only [List.nil_append, List.cons_append]))
theorem inner63 (w : World) : Inner63 w (innerOf w 63 1).1 (innerOf w 63 1).2.1 (innerOf w 63 1).2.2 := by
  refine (inner_lit (P := fun a b sc => Inner63 w a b sc) (by with_reducible k_is) (by exact rfl)).mp ?_
  intro k
  induction k with
  | zero => intros; omega
  | succ k ih =>
    intro dp un hdp hun p loose mean mg mb A₀ env outer base h₀ L m s Q E fi ca ci cn l c' oa oi on oc fo doc pm ctv vs ns e n tn tq t1 t2 t3 fs x lo hi B F X T hf hk N hfo n1 n2 n3 n4 da di dn hc1 hc2 hc3 hI hlo hhi h64 hkk hn0 hn hx60 hx ret
    have hlen := IntsAre.length hI
    have hof := News.get N (show (fi, fo) ∈ _ by k_mem)
    rw [hfo] at hof
    have hsh : ((lo + hi) / 2 - lo) * n ≤ 100000 := by
      have : ((lo + hi) / 2 - lo) * n ≤ 64 * 64 := Nat.mul_le_mul (by omega) hn
      omega
    have hup : x / 2 ^ (((lo + hi) / 2 - lo) * n) < 2 ^ 64 := Nat.lt_of_le_of_lt (Nat.div_le_self _ _) (by omega)
    have hfn : IsFn fo := ⟨_, _, _, _, hfo⟩
    refine wpAny_call ?_
    k_dflt (refine' callN ?k1 ?k2 ?k3 ?k4 ?k5 ?kA ?kF ?kK ?k6 ?k7 ?k8 ?k9 ?kB ?_ ?c2 ?c3 ?c4 ?c5; (case kA => exact rfl); (case kF => assumption); (case kK => assumption); (case k1 => k_asm); (case k2 => k_asm); (case k3 => k_asm); (case k4 => k_asm); (case k5 => k_asm); (case k6 => assumption); (case k7 => exact ⟨_, _, _, _, rfl, by assumption, by assumption, by assumption⟩); (case k8 => (show _ < _; unfold recursionLimit; dsimp only; omega)); (case k9 => exact BindsTo.of_eq rfl); (case c5 => decide); (case kB => exact locs rfl); (case c2 => exact rfl); (case c3 => exact rfl); (case c4 => exact rfl); k_whole; intro g' L' h' G' FG' F' N' B' X' T' l0'; (try k_lt l0'); (try dsimp only); (try k_fold))
    have hkp : ∀ p ∈ [(l, listOf vs.toArray e), (ca, oa), (ci, oi), (cn, on), (fi, fo)], ∀ fs, p.2.data ≠ .fields fs := by
      intro p hp fs
      simp only [List.mem_cons, List.not_mem_nil, or_false] at hp
      rcases hp with rfl | rfl | rfl | rfl | rfl
      · exact nofun
      · rw [da]; exact nofun
      · rw [di]; exact nofun
      · rw [dn]; exact nofun
      · rw [hfo]; exact nofun
    have hcg := ‹Grd s.heap _ _› c' oc hc1 (code_not_in N hc1 hc2 hkp)
    k_steps
    · refine ret _ _ _ (extB (by assumption) N (by assumption) (by assumption)) (News.get (by assumption) (by k_mem)) ?_
      have e1 : hi = lo + 1 := by omega
      subst e1
      have e2 : lo + 1 - lo = 1 := by omega
      rw [e2] at hx ⊢
      rw [digitsOf_one _ _ (by simpa using hx)]
      have z := intsAre_set (v := (x : Int)) (t := t1) hI lo
      have e3 : ns.set lo (x : Int) = ns.take lo ++ [(x : Int)] ++ ns.drop (lo + 1) := by
        rw [List.set_eq_take_append_cons_drop, if_pos (by omega)]; simp
      rw [e3] at z
      exact z
    · exact fnAt_fo (by assumption) (by k_mem) hfn
    · rename Below _ _ _ _ => B1
      rename Fr _ _ _ _ => F1
      rename News _ _ _ _ => N1
      rename Frag.In _ _ => X1
      rename Top _ _ _ _ _ _ => T1
      refine weak (d := dp + 1) (u := un + 3) (by exact rfl) (by exact Nat.le_refl _) (by exact rfl) (by exact Nat.le_refl _) ?_
      refine ih (dp + 1) (un + 3) (by omega) (by omega) p loose mean mg mb _ _ _ _ _ _ _ _ _ _ fi ca ci cn l c' oa oi on oc fo doc pm ctv vs ns e n tn tq _ _ _ fs _ lo _ B1 F1 X1 T1 rfl rfl N1 hfo n1 n2 n3 n4 da di dn (F1.keep _ _ hcg) hc2 hc3 hI (by omega) (by omega) h64 (by omega) hn0 hn (Nat.lt_of_le_of_lt (Nat.mod_le _ _) hx60) ?_ ?_
      · rw [Nat.mul_comm n]; exact Nat.mod_lt _ (Nat.two_pow_pos _)
      · intro vs1 h1 tk1 X2 hl1 hI1
        obtain ⟨F2, N2⟩ := ledB F1 N1 ⟨n1, n2, n3, n4, trivial⟩ X2 hl1
        clear F1 N1
        dsimp only
        k_steps
        · exact fnAt_fo (by assumption) (by k_mem) hfn
        · have e5 : n * (hi - lo) = ((lo + hi) / 2 - lo) * n + n * (hi - (lo + hi) / 2) := by
            rw [Nat.mul_comm _ n, ← Nat.mul_add]; congr 1; omega
          have hl2 : (ns.take lo ++ digitsOf n ((lo + hi) / 2 - lo) (x % 2 ^ (((lo + hi) / 2 - lo) * n))).length = (lo + hi) / 2 := by
            rw [List.length_append, digitsOf_length, List.length_take]; omega
          have hl3 : (ns.take lo ++ digitsOf n ((lo + hi) / 2 - lo) (x % 2 ^ (((lo + hi) / 2 - lo) * n)) ++ ns.drop ((lo + hi) / 2)).length = ns.length := by
            rw [List.length_append, hl2, List.length_drop]; omega
          refine weak (d := dp + 1) (u := un + 3) (by exact rfl) (by exact Nat.le_refl _) (by exact rfl) (by exact Nat.le_refl _) ?_
          refine ih (dp + 1) (un + 3) (by omega) (by omega) p loose mean mg mb _ _ _ _ _ _ _ _ _ _ fi ca ci cn l c' oa oi on oc fo doc pm ctv vs1 _ e n tn tq _ _ _ fs _ ((lo + hi) / 2) hi B1 F2 X1 T1 rfl rfl N2 hfo n1 n2 n3 n4 da di dn (F2.keep _ _ hcg) hc2 hc3 hI1 (by omega) (by omega) (by omega) (by omega) hn0 hn (Nat.lt_of_le_of_lt (Nat.div_le_self _ _) hx60) ?_ ?_
          · apply Nat.div_lt_of_lt_mul
            rw [← Nat.pow_add, ← e5]; exact hx
          · intro vs2 h2 tk2 X3 hl2' hI2
            obtain ⟨F3, N3⟩ := ledB F2 N2 ⟨n1, n2, n3, n4, trivial⟩ X3 hl2'
            clear F2 N2
            dsimp only
            k_steps
            refine ret vs2 h2 _ (extB (by assumption) N F3 N3) hl2' ?_
            have e6 : hi - lo = ((lo + hi) / 2 - lo) + (hi - (lo + hi) / 2) := by omega
            have e7 : (ns.take lo ++ digitsOf n ((lo + hi) / 2 - lo) (x % 2 ^ (((lo + hi) / 2 - lo) * n)) ++ ns.drop ((lo + hi) / 2)).take ((lo + hi) / 2) = ns.take lo ++ digitsOf n ((lo + hi) / 2 - lo) (x % 2 ^ (((lo + hi) / 2 - lo) * n)) := by
              rw [List.take_append_of_le_length (by omega)]
              exact List.take_of_length_le (by omega)
            have e8 : (ns.take lo ++ digitsOf n ((lo + hi) / 2 - lo) (x % 2 ^ (((lo + hi) / 2 - lo) * n)) ++ ns.drop ((lo + hi) / 2)).drop hi = ns.drop hi := by
              rw [List.drop_append, hl2, List.drop_of_length_le (by omega), List.nil_append, List.drop_drop]
              congr 1; omega
            rw [e7, e8] at hI2
            rw [e6, digitsOf_add, Nat.mul_comm n ((lo + hi) / 2 - lo), ← List.append_assoc]
            exact hI2
end
end RL
end
theorem RL.off_RLg : True := by
  w_top off
  trivial
section
open PySem PySem.W PyProof.Rows PySem.Calls
set_option maxRecDepth 100000
set_option maxHeartbeats 1000000
namespace RL
theorem filledG (w : World) (h : Heap) : (hd.heap_39 w.params).In h → PySem.Challenge.rw_rl0068_01.prog = PySem.Challenge.rw_rl0068_01.prog := by
  k_fill
  exact fun _ => rfl
section
variable {prog : Program} {w : World} {A : Around} {E : Value → Shared → Prop} {s : Shared} {a b : Nat} {t u : Tok} {Q : Value → Shared → Prop}
theorem sub1N (hle : 1 ≤ a) (h : Q (.int ((a - 1 : Nat) : Int) s.toks) { s with toks := s.toks + 1 }) : wpAny (model prog w) A (binaryOp .Sub (.int (a : Int) t) (.int 1 u)) Q E s :=
  sub_int (by have e : (a : Int) - 1 = ((a - 1 : Nat) : Int) := by omega
              rw [e]; exact h)
theorem divN {D : Nat} (hD : a / b = D) (hb : 0 < b) (hb' : b < 2 ^ 30) (h : Q (.int (D : Int) s.toks) { s with toks := s.toks + 1 }) : wpAny (model prog w) A (binaryOp .FloorDiv (.int (a : Int) t) (.int (b : Int) u)) Q E s :=
  floordiv_int (by omega) (by rw [fdiv_nat, hD]; exact h) (.inl (PyProof.noPylong_small (by omega)))
end
/-- the walk rests here -/
def Hold (P : Prop) : Prop := P
theorem Hold.of {P : Prop} (h : Hold P) : P := h
/-- the digits that _int2digits tells -/
def i2d (a n : Nat) : List Int := digitsOf n ((Builtin.Int.intBits a + n - 1) / n) a
def ListPost (ds : List Int) (h : Heap) (v : Value) (h' : Heap) : Prop := ∃ r vs e, v = .ref r ∧ h.get? r = none ∧ h'.get? r = some (listOf (List.toArray vs) e) ∧ IntsAre vs ds
theorem newsT {h₀ h : Heap} {L : Addr} {m : Str → Option Value} {t1 t2 : Array Value} (F : Fr h₀ L h m) (g1 : h.get? 58 = some (tabObj t1)) (g2 : h.get? 65 = some (tabObj t2)) (n1 : h₀.get? 58 = none) (n2 : h₀.get? 65 = none) : News h₀ L h [(65, tabObj t2), (58, tabObj t1)] := fun q hq => by
  simp only [List.mem_cons, List.not_mem_nil, or_false] at hq
  rcases hq with rfl | rfl
  · exact ⟨g2, ns_ne_fields F.ns g2 rfl, n2⟩
  · exact ⟨g1, ns_ne_fields F.ns g1 rfl, n1⟩
theorem flat_rep1 {α : Type} (v : α) : ∀ D : Nat, (List.replicate D [v]).flatten = List.replicate D v
  | 0 => rfl
  | D + 1 => by rw [List.replicate_succ, List.flatten_cons, flat_rep1 v D, List.replicate_succ]; rfl
theorem intsAre_rep (c : Int) (t : Tok) : ∀ D : Nat, IntsAre (List.replicate D (Value.int c t)) (List.replicate D c)
  | 0 => .nil
  | D + 1 => .cons c t (intsAre_rep c t D)
section
variable {prog : Program} {w : World} {A : Around} {E : Value → Shared → Prop} {s : Shared} {h₀ : Heap} {L : Addr} {m : Str → Option Value} {news : List (Addr × Obj)} {l : Addr} {e D : Nat} {c : Int} {tc u : Tok} {Q : Value → Shared → Prop}
theorem mul1N (F : Fr h₀ L s.heap m) (N : News h₀ L s.heap news) (hm : (l, listOf #[.int c tc] e) ∈ news) (hD : D ≤ 100000)
    (h : ∀ r h', Fr h₀ L h' m → News h₀ L h' ((r, listOf (List.replicate D (Value.int c tc)).toArray 0) :: news) → (∀ p ∈ news, p.1 < r) → IntsAre (List.replicate D (Value.int c tc)) (List.replicate D c) → Q (.ref r) { s with heap := h' }) :
    wpAny (model prog w) A (binaryOp .Mult (.ref l) (.int (D : Int) u)) Q E s := by
  refine KM.mul F N (vs := [.int c tc]) (News.isList N hm) (.cons c tc .nil) (by omega) (by omega) (by simp only [List.length_cons, List.length_nil, Int.toNat_natCast]; omega) ?_
  intro r h' F' N' l1 _ _ _ _ _ _
  rw [Int.toNat_natCast, flat_rep1] at N'
  exact h r h' F' N' l1 (intsAre_rep c tc D)
theorem lenN {vs : List Value} {n : Nat} (N : News h₀ L s.heap news) (hm : (l, listOf vs.toArray e) ∈ news) (hn : vs.length = n) (hf : n < 2 ^ 60) (h : Q (.int (n : Int) (s.toks + 1)) { s with toks := s.toks + 1 + 1 }) :
    wpAny (model prog w) A (call (.builtin "len") [.ref l]) Q E s :=
  KM.len_K N hm (by rw [List.size_toArray]; exact hn) (by omega) h
end
section
variable {h₀ h g h' : Heap} {L L' : Addr} {m' : Str → Option Value} {o1 o2 : Obj} {news' : List (Addr × Obj)}
theorem extT_of (G : Grd h g [(65, o2), (58, o1)]) (F : Fr g L' h' m') : ExtT h h' := fun b o n1 n2 e => F.keep b o (G b o e (by simp [n1, n2]))
theorem freshT {r : Addr} {o : Obj} (G : Grd h g [(65, o2), (58, o1)]) (N : News g L' h' news') (hr : (r, o) ∈ news') (n1 : r ≠ 58) (n2 : r ≠ 65) : h.get? r = none := by
  cases q : h.get? r with
  | none => rfl
  | some o' => have := G r o' q (by simp [n1, n2]); rw [(N _ hr).2.2] at this; exact nomatch this
theorem tabH_ext {ln cl : Int} {q : Str} {t : Array Value} (T : TBh h) (X : ExtT h h') (H : TabH h ln cl q t) : TabH h' ln cl q t := by
  rcases H with e | ⟨c, oc, vs, tk, e, hc, hd, hv⟩
  · exact .inl e
  · have z := T.code_ne hc hd hv
    exact .inr ⟨c, oc, vs, tk, e, X _ _ z.1 z.2 hc, hd, hv⟩
end
/-- frame and ledger behind a call that turned one entry, in its place -/
theorem ledU {h₀ h h' : Heap} {L l : Addr} {m : Str → Option Value} {o o' : Obj} {led : List (Addr × Obj)} {gg : Obj → List (Addr × Obj)} {P : Prop} (F : Fr h₀ L h m) (N : News h₀ L h led) (U : UpdF l o led gg) (X : ∀ b o, b ≠ l → h.get? b = some o → h'.get? b = some o) (hl : h'.get? l = some o')
    (k : Fr h₀ L h' m → News h₀ L h' (gg o') → P) : P := by
  obtain ⟨own, rest, rfl, hg, h1, h2⟩ := U.split
  have N2 : News h₀ L h ((l, o) :: (own ++ rest)) := News.sub N (fun p hp => by
    rcases List.mem_cons.mp hp with e | hp
    · rw [e]; exact List.mem_append_right _ List.mem_cons_self
    · rcases List.mem_append.mp hp with hp | hp
      · exact List.mem_append_left _ hp
      · exact List.mem_append_right _ (List.mem_cons_of_mem _ hp))
  have ne : AllNe l (own ++ rest) := allNe_of fun p hp => by
    rcases List.mem_append.mp hp with hp | hp
    · exact h1 p hp
    · exact h2 p hp
  obtain ⟨F2, N3⟩ := ledB F N2 ne X hl
  refine k F2 ?_
  rw [hg]
  exact News.sub N3 (fun p hp => by
    rcases List.mem_append.mp hp with hp | hp
    · exact List.mem_cons_of_mem _ (List.mem_append_left _ hp)
    · rcases List.mem_cons.mp hp with e | hp
      · rw [e]; exact List.mem_cons_self
      · exact List.mem_cons_of_mem _ (List.mem_append_right _ hp))
theorem fin63 {h g h' : Heap} {L' : Addr} {m' : Str → Option Value} {t1 t1' t2 : Array Value} {led : List (Addr × Obj)} (TB0 : TBh h) (G : Grd h g [(65, tabObj t2), (58, tabObj t1)]) (F : Fr g L' h' m') (N : News g L' h' led)
    (m65 : (65, tabObj t2) ∈ led) (m58 : (58, tabObj t1') ∈ led) (T2 : TabH h 48 4 q2 t2) (T1' : TabH h' 33 4 q1 t1') : ExtT h h' ∧ TBh h' := by
  have X := extT_of G F
  exact ⟨X, t1', t2, N.get m58, N.get m65, T1', tabH_ext TB0 X T2⟩
theorem use63 {w : World} {p : Program} {loose : List Str} {mean : ExcName → Option Value} {mg mb : Str → Option Value} {A₀ : Around} {env : Env} {outer : List Env} {base h₀ : Heap} {L : Addr} {m : Str → Option Value} {s : Shared} {Q E : Value → Shared → Prop} {params : Arguments} {body : List Stmt} {scope : Scope}
    {fi ca ci cn l c' : Addr} {oa oi on oc : Obj} {doc pm ctv : Value} {a n D : Nat} {tn tq t0 t1 t2 t3 : Tok} {fs : Array Value} {q q' : Str} {led : List (Addr × Obj)} {d u : Nat}
    (IS : Inner63 w params body scope) (hdd : d + 64 ≤ 450) (huu : u + 640 ≤ 2000)
    (B : Below A₀ base outer h₀) (F : Fr h₀ L s.heap m) (X : (hd.heap_39 w.params).In h₀) (T : Top p loose mean mg mb h₀) (hf : env.frame = some L) (hk : env.scope.kind = .function)
    (N : News h₀ L s.heap led) (m1 : (fi, fnMade (Str.ofString "inner") q params body scope [(Str.ofString "n", cn), (Str.ofString "inner", ci), (Str.ofString "a_digits", ca)] doc pm c' ctv) ∈ led) (hq : q = q1)
    (m2 : (l, listOf (List.replicate D (Value.int 0 t0)).toArray 0) ∈ led) (m3 : (ca, oa) ∈ led) (m4 : (ci, oi) ∈ led) (m5 : (cn, on) ∈ led)
    (da : oa.data = .cell (some (.ref l))) (di : oi.data = .cell (some (.ref fi))) (dn : on.data = .cell (some (.int n tn)))
    (hc1 : s.heap.get? c' = some oc) (hc2 : oc.data = .fields fs) (hc3 : fs[1]? = some (.str q' tq)) (hq' : q' = q1)
    (hD0 : 0 < D) (hD : D ≤ 60) (hn0 : 0 < n) (hn : n ≤ 64) (ha : a < 2 ^ 60) (haD : a < 2 ^ (n * D))
    (ret : ∀ vs' h' tk', (∀ b o, b ≠ l → s.heap.get? b = some o → h'.get? b = some o) → h'.get? l = some (listOf (List.toArray vs') 0) → IntsAre vs' (digitsOf n D a) → Q .none { s with heap := h', toks := tk' }) :
    wpAny (model PySem.Challenge.rw_rl0068_01.prog w) (At d u env outer) (call (.ref fi) [.int a t1, .int 0 t2, .int D t3]) Q E s := by
  subst hq
  subst hq'
  have gl := N.get m2
  have hsub : ∀ p ∈ [(l, listOf (List.replicate D (Value.int 0 t0)).toArray 0), (ca, oa), (ci, oi), (cn, on), (fi, fnMade (Str.ofString "inner") q1 params body scope [(Str.ofString "n", cn), (Str.ofString "inner", ci), (Str.ofString "a_digits", ca)] doc pm c' ctv)], p ∈ led := by
    intro p hp
    simp only [List.mem_cons, List.not_mem_nil, or_false] at hp
    rcases hp with e | e | e | e | e <;> rw [e] <;> assumption
  refine IS 64 d u hdd huu p loose mean mg mb A₀ env outer base h₀ L m s Q E fi ca ci cn l c' oa oi on oc _ doc pm ctv (List.replicate D (Value.int 0 t0)) (List.replicate D 0) 0 n tn tq t1 t2 t3 fs a 0 D B F X T hf hk (News.sub N hsub) rfl
    (ne_data (N.get m3) gl (by rw [da]; exact nofun)) (ne_data (N.get m4) gl (by rw [di]; exact nofun)) (ne_data (N.get m5) gl (by rw [dn]; exact nofun)) (ne_data (N.get m1) gl nofun) da di dn hc1 hc2 hc3 (intsAre_rep 0 t0 D) hD0 (by simp) (by simp; omega) (by omega) hn0 hn ha (by simpa using haD) ?_
  intro vs' h' tk' X' hl hI
  refine ret vs' h' tk' X' hl ?_
  simpa using hI
theorem bits_ceil {a n : Nat} (hn0 : 0 < n) (ha : a ≠ 0) : 0 < (Builtin.Int.intBits (a : Int) + n - 1) / n ∧ a < 2 ^ (n * ((Builtin.Int.intBits (a : Int) + n - 1) / n)) := by
  have h1 : 0 < Builtin.Int.intBits (a : Int) := by
    unfold Builtin.Int.intBits
    have : ((a : Int) == 0) = false := by simp [ha]
    rw [this]
    simp
  refine ⟨Nat.div_pos (by omega) hn0, ?_⟩
  have h2 : Builtin.Int.intBits (a : Int) ≤ n * ((Builtin.Int.intBits (a : Int) + n - 1) / n) := by
    have := Nat.div_add_mod (Builtin.Int.intBits (a : Int) + n - 1) n
    have := Nat.mod_lt (Builtin.Int.intBits (a : Int) + n - 1) hn0
    omega
  have := intBits_le_iff.mp h2
  simpa using this
theorem bits_zero {n : Nat} (hn0 : 0 < n) : (Builtin.Int.intBits ((0 : Nat) : Int) + n - 1) / n = 0 := by
  have : Builtin.Int.intBits ((0 : Nat) : Int) = 0 := rfl
  rw [this]
  exact Nat.div_eq_of_lt (by omega)
section
local macro_rules | `(tactic| walk_at "binaryOp Add int int") => `(tactic| (with_reducible refine addN ?_))
local macro_rules | `(tactic| walk_at "binaryOp Sub int int") => `(tactic| ((with_reducible refine sub1N ?hle ?_); (case hle => omega)))
local macro_rules | `(tactic| walk_at "binaryOp Mult ref int") => `(tactic| (k_dflt (refine' mul1N ?F ?N ?m ?d ?_; (case F => k_asm); (case N => k_asm); (case m => k_mem); (case d => omega)); k_whole; intro r' h' F' N' l1 i1; (try k_lt l1)))
local macro_rules | `(tactic| walk_at "call builtin:len") => `(tactic| (k_dflt (refine' lenN ?N ?m ?d ?f ?_; (case N => k_asm); (case m => k_mem); (case d => exact List.length_replicate); (case f => omega)); k_whole))
local macro_rules | `(tactic| walk_at "binaryOp FloorDiv int int") => `(tactic| ((with_reducible refine' divN ?hd ?hb ?hc ?_); (case hd => assumption); (case hb => omega); (case hc => omega)))
local macro_rules | `(tactic| walk_at "call ref") => `(tactic| ((k_dflt (show wpAny _ _ (call (Value.ref _) [Value.int _ _, Value.int _ _, Value.int _ _]) _ _ _)); refine Hold.of ?_))
theorem int2digits_spec {w : World} {a n : Nat} {ta tn : Tok} (ha : a < 2 ^ 60) (hn0 : 0 < n) (hn : n ≤ 64) :
    HSpecT w 340 200 63 [.int a ta, .int n tn] (fun _ => True) (ListPost (i2d a n)) := by
  intro p loose mean mg mb A₀ env outer base h₀ L m s Q E B F X T C1 C2 z1 z2 hf hk TB _ ret
  have IS := inner63 w
  rw [← inner_lit (P := fun a b sc => Inner63 w a b sc) (by with_reducible k_is) (by exact rfl)] at IS
  have TB0 := TB
  obtain ⟨t1, t2, g1, g2, T1, T2⟩ := TB
  have N := newsT F g1 g2 z1 z2
  have hbits : Builtin.Int.intBits (a : Int) ≤ 60 := intBits_le (by omega)
  have hD : (Builtin.Int.intBits (a : Int) + n - 1) / n ≤ 60 := Nat.le_of_lt_succ ((Nat.div_lt_iff_lt_mul hn0).mpr (by
    have : 61 * n ≥ 61 + (n - 1) * 1 := by
      have := Nat.mul_le_mul_left 60 hn0
      omega
    omega))
  generalize hDe : (Builtin.Int.intBits (a : Int) + n - 1) / n = D at hD
  refine wpAny_call ?_
  k_dflt (refine' callC ?k1 ?k2 ?k3 ?k4 ?k5 ?kA ?kF ?kK ?k6 ?k7 ?k8 ?k9 ?kB ?kD ?_ ?c2 ?c3 ?c4; (case kA => exact rfl); (case kF => assumption); (case kK => assumption); (case k1 => k_asm); (case k2 => k_asm); (case k3 => k_asm); (case k4 => k_asm); (case k5 => k_asm); (case k6 => k_is); (case k7 => k_is); (case k8 => k_room); (case k9 => exact BindsTo.of_eq rfl); (case kB => exact rfl); (case kD => decide +kernel); (case c2 => exact rfl); (case c3 => exact rfl); (case c4 => exact rfl); k_whole; intro g' L' h' tk' cells' G' FG' F' N' Y' B' X' T' l1; (try k_lt l1); k_cells Y'; (try simp only [List.cons_append, List.nil_append] at N'); (try dsimp only); (try k_fold))
  rename CodeHd h₀ 62 58 => C1'
  have C1g := CodeHd.keeps C1' (Fr.keep ‹Fr h₀ L _ m›)
  rcases T1 with rfl | ⟨c, oc, fs, tq, rfl, hc1, hc2, hc3⟩
  · k_steps
    · rename Below _ _ _ _ => B1
      rename Fr _ _ _ _ => F1
      rename News _ _ _ _ => N1
      rename Frag.In _ _ => X1
      rename Top _ _ _ _ _ _ => T1
      have hane : a ≠ 0 := by omega
      have hbc := bits_ceil hn0 hane
      rw [hDe] at hbc
      refine weak (d := 341) (u := 203) (by exact rfl) (by exact Nat.le_refl _) (by exact rfl) (by exact Nat.le_refl _) ?_
      refine' use63 IS ?q0 ?q0' B1 F1 X1 T1 ?q1 ?q2 N1 ?m1 ?hq ?m2 ?m3 ?m4 ?m5 ?da ?di ?dn ?h1 ?h2 ?h3 ?hq' hbc.1 hD hn0 hn ha hbc.2 ?_
      (case q0 => decide)
      (case q0' => decide)
      (case q1 => exact rfl)
      (case q2 => exact rfl)
      (case m1 => k_mem)
      (case m2 => k_mem)
      (case m3 => k_mem)
      (case m4 => k_mem)
      (case m5 => k_mem)
      (case da => assumption)
      (case di => assumption)
      (case dn => assumption)
      (case h1 => exact News.get N1 (by k_mem))
      (case h2 => assumption)
      (case h3 => assumption)
      (case hq => kernel_rfl)
      (case hq' => kernel_rfl)
      intro vs1 h1 tk1 X2 hl1 hI1
      refine' ledU F1 N1 ?U X2 hl1 ?_
      (case U => k_updF)
      intro F2 N2
      clear F1 N1
      dsimp only at N2 ⊢
      k_steps
      have hfin := fin63 (t1' := #[rawInt 33, rawInt 4, .ref _]) TB0 (by assumption) F2 N2 (by k_mem) (by k_mem) T2 (.inr ⟨_, _, _, _, rfl, News.get N2 (by k_mem), by assumption, by assumption⟩)
      refine ret _ _ _ hfin.1 hfin.2 ⟨_, vs1, 0, rfl, ?_, hl1, ?_⟩
      · refine' freshT ?G N2 ?m ?a ?b
        (case G => assumption)
        (case m => k_mem)
        (case a => k_ne)
        (case b => k_ne)
      · unfold i2d
        rw [hDe]
        exact hI1
    · have ha0 : a = 0 := by omega
      subst ha0
      rw [bits_zero hn0] at hDe
      subst hDe
      rename Grd _ _ _ => G1
      have hfin := fin63 (t1' := #[rawInt 33, rawInt 4, .ref _]) TB0 G1 (by assumption) (by assumption) (by k_mem) (by k_mem) T2 (.inr ⟨_, _, _, _, rfl, News.get (by assumption) (by k_mem), by assumption, by assumption⟩)
      refine ret _ _ _ hfin.1 hfin.2 ⟨_, [], 0, rfl, ?_, News.get (by assumption) (by k_mem), ?_⟩
      · refine' freshT G1 ?N ?m ?a ?b
        (case N => assumption)
        (case m => k_mem)
        (case a => k_ne)
        (case b => k_ne)
      · unfold i2d
        rw [bits_zero hn0]
        exact .nil
  · have hcne := TBh.code_ne TB0 hc1 hc2 hc3
    have hcg := ‹Grd s.heap _ _› c oc hc1 (by simp [hcne.1, hcne.2])
    k_steps
    · rename Below _ _ _ _ => B1
      rename Fr _ _ _ _ => F1
      rename News _ _ _ _ => N1
      rename Frag.In _ _ => X1
      rename Top _ _ _ _ _ _ => T1
      have hane : a ≠ 0 := by omega
      have hbc := bits_ceil hn0 hane
      rw [hDe] at hbc
      refine weak (d := 341) (u := 203) (by exact rfl) (by exact Nat.le_refl _) (by exact rfl) (by exact Nat.le_refl _) ?_
      refine' use63 IS ?q0 ?q0' B1 F1 X1 T1 ?q1 ?q2 N1 ?m1 ?hq ?m2 ?m3 ?m4 ?m5 ?da ?di ?dn (F1.keep _ _ hcg) hc2 hc3 rfl hbc.1 hD hn0 hn ha hbc.2 ?_
      (case q0 => decide)
      (case q0' => decide)
      (case q1 => exact rfl)
      (case q2 => exact rfl)
      (case m1 => k_mem)
      (case m2 => k_mem)
      (case m3 => k_mem)
      (case m4 => k_mem)
      (case m5 => k_mem)
      (case da => assumption)
      (case di => assumption)
      (case dn => assumption)
      (case hq => kernel_rfl)
      intro vs1 h1 tk1 X2 hl1 hI1
      refine' ledU F1 N1 ?U X2 hl1 ?_
      (case U => k_updF)
      intro F2 N2
      clear F1 N1
      dsimp only at N2 ⊢
      k_steps
      have hfin := fin63 TB0 (by assumption) F2 N2 (by k_mem) (by k_mem) T2 (.inr ⟨c, oc, fs, tq, rfl, F2.keep _ _ hcg, hc2, hc3⟩)
      refine ret _ _ _ hfin.1 hfin.2 ⟨_, vs1, 0, rfl, ?_, hl1, ?_⟩
      · refine' freshT ?G N2 ?m ?a ?b
        (case G => assumption)
        (case m => k_mem)
        (case a => k_ne)
        (case b => k_ne)
      · unfold i2d
        rw [hDe]
        exact hI1
    · have ha0 : a = 0 := by omega
      subst ha0
      rw [bits_zero hn0] at hDe
      subst hDe
      rename Grd _ _ _ => G1
      have F2 := ‹Fr _ _ _ _›
      have hfin := fin63 TB0 G1 (by assumption) (by assumption) (by k_mem) (by k_mem) T2 (.inr ⟨c, oc, fs, tq, rfl, Fr.keep (by assumption) _ _ hcg, hc2, hc3⟩)
      refine ret _ _ _ hfin.1 hfin.2 ⟨_, [], 0, rfl, ?_, News.get (by assumption) (by k_mem), ?_⟩
      · refine' freshT G1 ?N ?m ?a ?b
        (case N => assumption)
        (case m => k_mem)
        (case a => k_ne)
        (case b => k_ne)
      · unfold i2d
        rw [bits_zero hn0]
        exact .nil
end
end RL
end
theorem RL.off_RLi : True := by
  w_top off
  trivial
section
open PySem PySem.W PyProof.Rows PySem.Calls
set_option maxRecDepth 100000
set_option maxHeartbeats 1000000
namespace RL
theorem filledI (w : World) (h : Heap) : (hd.heap_39 w.params).In h → PySem.Challenge.rw_rl0068_01.prog = PySem.Challenge.rw_rl0068_01.prog := by
  k_fill
  exact fun _ => rfl
/-- the number that digits tell, n bits each -/
def valOf (n : Nat) : List Nat → Nat
  | [] => 0
  | d :: r => d + 2 ^ n * valOf n r
theorem valOf_append (n : Nat) : ∀ a b : List Nat, valOf n (a ++ b) = valOf n a + 2 ^ (n * a.length) * valOf n b
  | [], b => by simp [valOf]
  | d :: r, b => by
    have e1 : n * (d :: r).length = n + n * r.length := by rw [List.length_cons, Nat.mul_add, Nat.mul_one, Nat.add_comm]
    rw [e1, Nat.pow_add, List.cons_append, valOf, valOf, valOf_append n r b, Nat.mul_add, Nat.mul_assoc]
    omega
theorem valOf_take_le (n : Nat) (ds : List Nat) (k : Nat) : valOf n (ds.take k) ≤ valOf n ds := by
  conv => rhs; rw [← List.take_append_drop k ds]
  rw [valOf_append]
  exact Nat.le_add_right _ _
theorem valOf_drop_le (n : Nat) (ds : List Nat) (k : Nat) : valOf n (ds.drop k) ≤ valOf n ds := by
  conv => rhs; rw [← List.take_append_drop k ds]
  rw [valOf_append]
  refine Nat.le_trans ?_ (Nat.le_add_left _ _)
  exact Nat.le_mul_of_pos_left _ (Nat.two_pow_pos _)
/-- the part of digits from lo up to hi -/
abbrev part (ds : List Nat) (lo hi : Nat) : List Nat := (ds.drop lo).take (hi - lo)
theorem part_le (n : Nat) (ds : List Nat) (lo hi : Nat) : valOf n (part ds lo hi) ≤ valOf n ds := Nat.le_trans (valOf_take_le _ _ _) (valOf_drop_le _ _ _)
theorem part_split (n : Nat) (ds : List Nat) {lo mid hi : Nat} (h1 : lo ≤ mid) (h2 : mid ≤ hi) (h3 : hi ≤ ds.length) : valOf n (part ds lo hi) = valOf n (part ds mid hi) * 2 ^ ((mid - lo) * n) + valOf n (part ds lo mid) := by
  have e : part ds lo hi = part ds lo mid ++ part ds mid hi := by
    unfold part
    have e1 : hi - lo = (mid - lo) + (hi - mid) := by omega
    have e2 : ds.drop mid = (ds.drop lo).drop (mid - lo) := by rw [List.drop_drop]; congr 1; omega
    rw [e1, List.take_add, e2]
  rw [e, valOf_append]
  have e3 : (part ds lo mid).length = mid - lo := by unfold part; rw [List.length_take, List.length_drop]; omega
  rw [e3, Nat.mul_comm n, Nat.mul_comm (2 ^ _)]
  omega
theorem part_one {ds : List Nat} {lo : Nat} (h : lo < ds.length) : part ds lo (lo + 1) = [ds[lo]] := by
  unfold part
  rw [show lo + 1 - lo = 1 by omega, List.drop_eq_getElem_cons h]
  rfl
def Inner70 (w : World) (params : Arguments) (body : List Stmt) (scope : Scope) : Prop :=
  ∀ (k dp un : Nat), dp + k ≤ 450 → un + 10 * k ≤ 2000 →
  ∀ (p : Program) (loose : List Str) (mean : ExcName → Option Value) (mg mb : Str → Option Value) (A₀ : Around) (env : Env) (outer : List Env) (base h₀ : Heap) (L : Addr) (m : Str → Option Value) (s : Shared) (Q E : Value → Shared → Prop)
    (fi cd ci cn dl c' : Addr) (od oi on oc fo : Obj) (doc pm ctv : Value) (vs : List Value) (ds : List Nat) (e n : Nat) (tn tq t2 t3 : Tok) (fs : Array Value) (lo hi : Nat),
    Below A₀ base outer h₀ → Fr h₀ L s.heap m → (hd.heap_39 w.params).In h₀ → Top p loose mean mg mb h₀ → env.frame = some L → env.scope.kind = .function →
    News h₀ L s.heap [(cd, od), (ci, oi), (cn, on), (fi, fo)] →
    fo = fnMade (Str.ofString "inner") q2 params body scope [(Str.ofString "n", cn), (Str.ofString "inner", ci), (Str.ofString "digits", cd)] doc pm c' ctv →
    od.data = .cell (some (.ref dl)) → oi.data = .cell (some (.ref fi)) → on.data = .cell (some (.int n tn)) →
    s.heap.get? c' = some oc → oc.data = .fields fs → fs[1]? = some (.str q2 tq) →
    s.heap.get? dl = some (listOf vs.toArray e) →
    IntsAre vs (ds.map fun (d : Nat) => (d : Int)) → lo < hi → hi ≤ ds.length → ds.length ≤ 64 → hi - lo ≤ k → n ≤ 64 → valOf n ds < 2 ^ 60 →
    (∀ t h' tk', Ext s.heap h' → Q (.int (valOf n (part ds lo hi) : Nat) t) { s with heap := h', toks := tk' }) →
    wpAny (model PySem.Challenge.rw_rl0068_01.prog w) (At dp un env outer) (call (.ref fi) [.int lo t2, .int hi t3]) Q E s
theorem ext_all {h₀ h g h' : Heap} {L L' : Addr} {m' : Str → Option Value} {kp : List (Addr × Obj)} (G : Grd h g kp) (N0 : News h₀ L h kp) (F : Fr g L' h' m') (N : News g L' h' kp) : Ext h h' := fun b ob e => by
  by_cases hm : b ∈ kp.map (·.1)
  · obtain ⟨p, hp, hp1⟩ := List.mem_map.mp hm
    have hp1 : p.1 = b := hp1
    have e0 := (N0 p hp).1
    have e1 := (N p hp).1
    rw [hp1] at e0 e1
    rw [e1, ← Option.some.inj (e0.symm.trans e)]
  · exact F.keep b ob (G b ob e hm)
theorem fr_ext {h₀ h h' : Heap} {L : Addr} {m : Str → Option Value} (F : Fr h₀ L h m) (X : Ext h h') : Fr h₀ L h' m := F.kept X
theorem news_ext {h₀ h h' : Heap} {L : Addr} {l : List (Addr × Obj)} (N : News h₀ L h l) (X : Ext h h') : News h₀ L h' l := fun p hp => ⟨X _ _ (N p hp).1, (N p hp).2⟩
section
local macro_rules | `(tactic| walk_at "eval Name") => `(tactic| (k_dflt (refine' nameX_F ?N ?c ?m ?d ?_ ?a ?b; (case a => rfl); (case b => rfl); (case N => k_asm); (case c => rfl); (case m => k_mem); (case d => k_asm); k_whole)))
local macro_rules | `(tactic| walk_at "binaryOp Add int int") => `(tactic| (with_reducible refine addN ?_))
local macro_rules | `(tactic| walk_at "binaryOp Sub int int") => `(tactic| ((with_reducible refine subN ?hle ?_); (case hle => omega)))
local macro_rules | `(tactic| walk_at "binaryOp Mult int int") => `(tactic| ((with_reducible refine mulN ?hle ?_); (case hle => omega)))
local macro_rules | `(tactic| walk_at "binaryOp RShift int int") => `(tactic| (with_reducible refine shr1 ?_))
local macro_rules | `(tactic| walk_at "binaryOp LShift int int") => `(tactic| ((with_reducible refine shlN ?hn ?ha ?_); (case hn => assumption); (case ha => omega)))
local macro_rules | `(tactic| walk_at "callWith ref") => `(tactic| (k_dflt (refine' callWith_F ?k1 ?_; (case k1 => exact fnAt_fo (by k_asm) (by k_mem) (by assumption)); k_whole)))
local macro_rules | `(tactic| walk_at "call ref") => `(tactic| ((k_dflt (show wpAny _ _ (call (Value.ref _) [Value.int _ _, Value.int _ _]) _ _ _)); refine Hold.of ?_))
local macro_rules | `(tactic| walk_at "FnAt") => `(tactic| exact fnAt_fo (by k_asm) (by k_mem) (by assumption))
theorem inner70 (w : World) : Inner70 w (innerOf w 70 0).1 (innerOf w 70 0).2.1 (innerOf w 70 0).2.2 := by
  refine (inner_lit (P := fun a b sc => Inner70 w a b sc) (by with_reducible k_is) (by exact rfl)).mp ?_
  intro k
  induction k with
  | zero => intros; omega
  | succ k ih =>
    intro dp un hdp hun p loose mean mg mb A₀ env outer base h₀ L m s Q E fi cd ci cn dl c' od oi on oc fo doc pm ctv vs ds e n tn tq t2 t3 fs lo hi B F X T hf hk N hfo da di dn hc1 hc2 hc3 hdl hI hlo hhi h64 hkk hn hval ret
    have hlen := IntsAre.length hI
    rw [List.length_map] at hlen
    have hof := News.get N (show (fi, fo) ∈ _ by k_mem)
    rw [hfo] at hof
    have hsh : ((lo + hi) / 2 - lo) * n ≤ 100000 := by
      have : ((lo + hi) / 2 - lo) * n ≤ 64 * 64 := Nat.mul_le_mul (by omega) hn
      omega
    have hfn : IsFn fo := ⟨_, _, _, _, hfo⟩
    refine wpAny_call ?_
    k_dflt (refine' callN ?k1 ?k2 ?k3 ?k4 ?k5 ?kA ?kF ?kK ?k6 ?k7 ?k8 ?k9 ?kB ?_ ?c2 ?c3 ?c4 ?c5; (case kA => exact rfl); (case kF => assumption); (case kK => assumption); (case k1 => k_asm); (case k2 => k_asm); (case k3 => k_asm); (case k4 => k_asm); (case k5 => k_asm); (case k6 => assumption); (case k7 => exact ⟨_, _, _, _, rfl, by assumption, by assumption, by assumption⟩); (case k8 => (show _ < _; unfold recursionLimit; dsimp only; omega)); (case k9 => exact BindsTo.of_eq rfl); (case c5 => decide); (case kB => exact locs rfl); (case c2 => exact rfl); (case c3 => exact rfl); (case c4 => exact rfl); k_whole; intro g' L' h' G' FG' F' N' B' X' T' l0'; (try k_lt l0'); (try dsimp only); (try k_fold))
    have hkp : ∀ p ∈ [(cd, od), (ci, oi), (cn, on), (fi, fo)], ∀ fs, p.2.data ≠ .fields fs := by
      intro p hp fs
      simp only [List.mem_cons, List.not_mem_nil, or_false] at hp
      rcases hp with rfl | rfl | rfl | rfl
      · rw [da]; exact nofun
      · rw [di]; exact nofun
      · rw [dn]; exact nofun
      · rw [hfo]; exact nofun
    have hkq : dl ∉ ([(cd, od), (ci, oi), (cn, on), (fi, fo)].map (·.1)) := fun hm => by
      obtain ⟨p, hp, hp1⟩ := List.mem_map.mp hm
      have hp1 : p.1 = dl := hp1
      refine ne_data (N.get (show (p.1, p.2) ∈ _ from hp)) hdl ?_ hp1
      simp only [List.mem_cons, List.not_mem_nil, or_false] at hp
      rcases hp with rfl | rfl | rfl | rfl
      · rw [da]; exact nofun
      · rw [di]; exact nofun
      · rw [dn]; exact nofun
      · rw [hfo]; exact nofun
    have hcg := ‹Grd s.heap _ _› c' oc hc1 (code_not_in N hc1 hc2 hkp)
    have hdg := ‹Grd s.heap _ _› dl _ hdl hkq
    have hgl : Heap.IsList _ dl vs.toArray := ⟨_, hdg, rfl, _, rfl⟩
    have hv1 := Nat.lt_of_le_of_lt (part_le n ds ((lo + hi) / 2) hi) hval
    have hv2 := Nat.lt_of_le_of_lt (part_le n ds lo ((lo + hi) / 2)) hval
    k_steps
    · have e1 : hi = lo + 1 := by omega
      subst e1
      have e2 : (ds.map fun (d : Nat) => (d : Int)).getD (lo : Int).toNat 0 = ((valOf n (part ds lo (lo + 1)) : Nat) : Int) := by
        rw [part_one (by omega), Int.toNat_natCast, List.getD_eq_getElem?_getD, List.getElem?_map, List.getElem?_eq_getElem (show lo < ds.length by omega)]
        simp [valOf]
      rw [e2]
      exact ret _ _ _ (ext_all (by assumption) N (by assumption) (by assumption))
    · rename Below _ _ _ _ => B1
      rename Fr _ _ _ _ => F1
      rename News _ _ _ _ => N1
      rename Frag.In _ _ => X1
      rename Top _ _ _ _ _ _ => T1
      refine weak (d := dp + 1) (u := un + 3) (by exact rfl) (by exact Nat.le_refl _) (by exact rfl) (by exact Nat.le_refl _) ?_
      refine ih (dp + 1) (un + 3) (by omega) (by omega) p loose mean mg mb _ _ _ _ _ _ _ _ _ _ fi cd ci cn dl c' od oi on oc fo doc pm ctv vs ds e n tn tq _ _ fs _ _ B1 F1 X1 T1 rfl rfl N1 hfo da di dn (F1.keep _ _ hcg) hc2 hc3 (F1.keep _ _ hdg) hI (by omega) (by omega) h64 (by omega) hn hval ?_
      intro tv h1 tk1 X2
      have F2 := fr_ext F1 X2
      have N2 := news_ext N1 X2
      clear F1 N1
      dsimp only
      k_steps
      refine weak (d := dp + 1) (u := un + 3) (by exact rfl) (by exact Nat.le_refl _) (by exact rfl) (by exact Nat.le_refl _) ?_
      refine ih (dp + 1) (un + 3) (by omega) (by omega) p loose mean mg mb _ _ _ _ _ _ _ _ _ _ fi cd ci cn dl c' od oi on oc fo doc pm ctv vs ds e n tn tq _ _ fs _ _ B1 F2 X1 T1 rfl rfl N2 hfo da di dn (F2.keep _ _ hcg) hc2 hc3 (F2.keep _ _ hdg) hI (by omega) (by omega) h64 (by omega) hn hval ?_
      intro tv2 h2 tk2 X3
      have F3 := fr_ext F2 X3
      have N3 := news_ext N2 X3
      clear F2 N2
      dsimp only
      k_steps
      rw [← part_split n ds (lo := lo) (mid := (lo + hi) / 2) (hi := hi) (by omega) (by omega) hhi]
      exact ret _ _ _ (ext_all (by assumption) N F3 N3)
end
end RL
end
theorem RL.off_RLj : True := by
  w_top off
  trivial
section
open PySem PySem.W PyProof.Rows PySem.Calls
set_option maxRecDepth 100000
set_option maxHeartbeats 1000000
namespace RL
theorem filledJ (w : World) (h : Heap) : (hd.heap_39 w.params).In h → PySem.Challenge.rw_rl0068_01.prog = PySem.Challenge.rw_rl0068_01.prog := by
  k_fill
  exact fun _ => rfl
theorem TBh.list_ne {h : Heap} (T : TBh h) {l : Addr} {its : Array Value} {e : Nat} {o : Obj} (hl : h.get? l = some o) (hd : o.data = .seq its e) : l ≠ 58 ∧ l ≠ 65 := by
  obtain ⟨t1, t2, h1, h2, _, _⟩ := T
  exact ⟨ne_data hl h1 (by rw [hd]; exact nofun), ne_data hl h2 (by rw [hd]; exact nofun)⟩
theorem fin70 {h g h' : Heap} {L' : Addr} {m' : Str → Option Value} {t1 t2 t2' : Array Value} {led : List (Addr × Obj)} (TB0 : TBh h) (G : Grd h g [(65, tabObj t2), (58, tabObj t1)]) (F : Fr g L' h' m') (N : News g L' h' led)
    (m65 : (65, tabObj t2') ∈ led) (m58 : (58, tabObj t1) ∈ led) (T1 : TabH h 33 4 q1 t1) (T2' : TabH h' 48 4 q2 t2') : ExtT h h' ∧ TBh h' := by
  have X := extT_of G F
  exact ⟨X, t1, t2', N.get m58, N.get m65, tabH_ext TB0 X T1, T2'⟩
theorem use70 {w : World} {p : Program} {loose : List Str} {mean : ExcName → Option Value} {mg mb : Str → Option Value} {A₀ : Around} {env : Env} {outer : List Env} {base h₀ : Heap} {L : Addr} {m : Str → Option Value} {s : Shared} {Q E : Value → Shared → Prop} {params : Arguments} {body : List Stmt} {scope : Scope}
    {fi cd ci cn dl c' : Addr} {od oi on oc : Obj} {doc pm ctv : Value} {vs : List Value} {ds : List Nat} {e n : Nat} {tn tq t2 t3 : Tok} {fs : Array Value} {q q' : Str} {led : List (Addr × Obj)} {d u : Nat}
    (IS : Inner70 w params body scope) (hdd : d + 64 ≤ 450) (huu : u + 640 ≤ 2000)
    (B : Below A₀ base outer h₀) (F : Fr h₀ L s.heap m) (X : (hd.heap_39 w.params).In h₀) (T : Top p loose mean mg mb h₀) (hf : env.frame = some L) (hk : env.scope.kind = .function)
    (N : News h₀ L s.heap led) (m1 : (fi, fnMade (Str.ofString "inner") q params body scope [(Str.ofString "n", cn), (Str.ofString "inner", ci), (Str.ofString "digits", cd)] doc pm c' ctv) ∈ led) (hq : q = q2)
    (m3 : (cd, od) ∈ led) (m4 : (ci, oi) ∈ led) (m5 : (cn, on) ∈ led)
    (da : od.data = .cell (some (.ref dl))) (di : oi.data = .cell (some (.ref fi))) (dn : on.data = .cell (some (.int n tn)))
    (hc1 : s.heap.get? c' = some oc) (hc2 : oc.data = .fields fs) (hc3 : fs[1]? = some (.str q' tq)) (hq' : q' = q2) (hdl : s.heap.get? dl = some (listOf vs.toArray e))
    (hI : IntsAre vs (ds.map fun (d : Nat) => (d : Int))) (h0 : 0 < ds.length) (h64 : ds.length ≤ 64) (hn : n ≤ 64) (hval : valOf n ds < 2 ^ 60)
    (ret : ∀ t h' tk', Ext s.heap h' → Q (.int (valOf n ds : Nat) t) { s with heap := h', toks := tk' }) :
    wpAny (model PySem.Challenge.rw_rl0068_01.prog w) (At d u env outer) (call (.ref fi) [.int 0 t2, .int (ds.length : Nat) t3]) Q E s := by
  subst hq
  subst hq'
  have hsub : ∀ p ∈ [(cd, od), (ci, oi), (cn, on), (fi, fnMade (Str.ofString "inner") q2 params body scope [(Str.ofString "n", cn), (Str.ofString "inner", ci), (Str.ofString "digits", cd)] doc pm c' ctv)], p ∈ led := by
    intro p hp
    simp only [List.mem_cons, List.not_mem_nil, or_false] at hp
    rcases hp with e | e | e | e <;> rw [e] <;> assumption
  refine IS 64 d u hdd huu p loose mean mg mb A₀ env outer base h₀ L m s Q E fi cd ci cn dl c' od oi on oc _ doc pm ctv vs ds e n tn tq t2 t3 fs 0 ds.length B F X T hf hk (News.sub N hsub) rfl da di dn hc1 hc2 hc3 hdl hI h0 (Nat.le_refl _) h64 (by omega) hn hval ?_
  intro t h' tk' X'
  have e : part ds 0 ds.length = ds := by unfold part; simp
  rw [e]
  exact ret t h' tk' X'
section
local macro_rules | `(tactic| walk_at "call ref") => `(tactic| ((k_dflt (show wpAny _ _ (call (Value.ref _) [Value.int _ _, Value.int _ _]) _ _ _)); refine Hold.of ?_))
theorem digits2int_spec {w : World} {dl : Addr} {vs : List Value} {ds : List Nat} {e n : Nat} {tn : Tok} (hI : IntsAre vs (ds.map fun (d : Nat) => (d : Int))) (h64 : ds.length ≤ 64) (hn : n ≤ 64) (hval : valOf n ds < 2 ^ 60) :
    HSpecT w 340 200 70 [.ref dl, .int n tn] (fun h => h.get? dl = some (listOf vs.toArray e)) (fun _ v _ => ∃ t, v = .int (valOf n ds : Nat) t) := by
  intro p loose mean mg mb A₀ env outer base h₀ L m s Q E B F X T C1 C2 z1 z2 hf hk TB hdl ret
  have IS := inner70 w
  rw [← inner_lit (P := fun a b sc => Inner70 w a b sc) (by with_reducible k_is) (by exact rfl)] at IS
  have TB0 := TB
  obtain ⟨t1, t2, g1, g2, T1, T2⟩ := TB
  have N := newsT F g1 g2 z1 z2
  have hlen := IntsAre.length hI
  rw [List.length_map] at hlen
  have hdn := TBh.list_ne TB0 hdl rfl
  refine wpAny_call ?_
  k_dflt (refine' callC ?k1 ?k2 ?k3 ?k4 ?k5 ?kA ?kF ?kK ?k6 ?k7 ?k8 ?k9 ?kB ?kD ?_ ?c2 ?c3 ?c4; (case kA => exact rfl); (case kF => assumption); (case kK => assumption); (case k1 => k_asm); (case k2 => k_asm); (case k3 => k_asm); (case k4 => k_asm); (case k5 => k_asm); (case k6 => k_is); (case k7 => k_is); (case k8 => k_room); (case k9 => exact BindsTo.of_eq rfl); (case kB => exact rfl); (case kD => decide +kernel); (case c2 => exact rfl); (case c3 => exact rfl); (case c4 => exact rfl); k_whole; intro g' L' h' tk' cells' G' FG' F' N' Y' B' X' T' l1; (try k_lt l1); k_cells Y'; (try simp only [List.cons_append, List.nil_append] at N'); (try dsimp only); (try k_fold))
  rename CodeHd h₀ 69 65 => C2'
  have C2g := CodeHd.keeps C2' (Fr.keep ‹Fr h₀ L _ m›)
  have hdg := ‹Grd s.heap _ _› dl _ hdl (by simp [hdn.1, hdn.2])
  have hgl : Heap.IsList _ dl vs.toArray := ⟨_, hdg, rfl, _, rfl⟩
  rcases T2 with rfl | ⟨c, oc, fs, tq, rfl, hc1, hc2, hc3⟩
  · k_steps
    · rename Below _ _ _ _ => B1
      rename Fr _ _ _ _ => F1
      rename News _ _ _ _ => N1
      rename Frag.In _ _ => X1
      rename Top _ _ _ _ _ _ => T3
      have hml : (ds.map fun (d : Nat) => (d : Int)).length = ds.length := List.length_map _
      have h0 : 0 < ds.length := by omega
      rw [hml]
      refine weak (d := 341) (u := 203) (by exact rfl) (by exact Nat.le_refl _) (by exact rfl) (by exact Nat.le_refl _) ?_
      refine' use70 IS ?q0 ?q0' B1 F1 X1 T3 ?q1 ?q2 N1 ?m1 ?hq ?m3 ?m4 ?m5 ?da ?di ?dn ?h1 ?h2 ?h3 ?hq' (F1.keep _ _ hdg) hI h0 h64 hn hval ?_
      (case q0 => decide)
      (case q0' => decide)
      (case q1 => exact rfl)
      (case q2 => exact rfl)
      (case m1 => k_mem)
      (case m3 => k_mem)
      (case m4 => k_mem)
      (case m5 => k_mem)
      (case da => assumption)
      (case di => assumption)
      (case dn => assumption)
      (case h1 => exact News.get N1 (by k_mem))
      (case h2 => assumption)
      (case h3 => assumption)
      (case hq => kernel_rfl)
      (case hq' => kernel_rfl)
      intro t3 h1 tk1 X2
      have F2 := fr_ext F1 X2
      have N2 := news_ext N1 X2
      clear F1 N1
      dsimp only
      k_steps
      have hfin := fin70 (t2' := #[rawInt 48, rawInt 4, .ref _]) TB0 (by assumption) F2 N2 (by k_mem) (by k_mem) T1 (.inr ⟨_, _, _, _, rfl, News.get N2 (by k_mem), by assumption, by assumption⟩)
      exact ret _ _ _ hfin.1 hfin.2 ⟨_, rfl⟩
    · have hml : (ds.map fun (d : Nat) => (d : Int)).length = ds.length := List.length_map _
      have h0 : ds = [] := List.eq_nil_of_length_eq_zero (by omega)
      subst h0
      rename Grd _ _ _ => G1
      have hfin := fin70 (t2' := #[rawInt 48, rawInt 4, .ref _]) TB0 G1 (by assumption) (by assumption) (by k_mem) (by k_mem) T1 (.inr ⟨_, _, _, _, rfl, News.get (by assumption) (by k_mem), by assumption, by assumption⟩)
      exact ret _ _ _ hfin.1 hfin.2 ⟨_, rfl⟩
  · have hcne := TBh.code_ne TB0 hc1 hc2 hc3
    have hcg := ‹Grd s.heap _ _› c oc hc1 (by simp [hcne.1, hcne.2])
    k_steps
    · rename Below _ _ _ _ => B1
      rename Fr _ _ _ _ => F1
      rename News _ _ _ _ => N1
      rename Frag.In _ _ => X1
      rename Top _ _ _ _ _ _ => T3
      have hml : (ds.map fun (d : Nat) => (d : Int)).length = ds.length := List.length_map _
      have h0 : 0 < ds.length := by omega
      rw [hml]
      refine weak (d := 341) (u := 203) (by exact rfl) (by exact Nat.le_refl _) (by exact rfl) (by exact Nat.le_refl _) ?_
      refine' use70 IS ?q0 ?q0' B1 F1 X1 T3 ?q1 ?q2 N1 ?m1 ?hq ?m3 ?m4 ?m5 ?da ?di ?dn (F1.keep _ _ hcg) hc2 hc3 rfl (F1.keep _ _ hdg) hI h0 h64 hn hval ?_
      (case q0 => decide)
      (case q0' => decide)
      (case q1 => exact rfl)
      (case q2 => exact rfl)
      (case m1 => k_mem)
      (case m3 => k_mem)
      (case m4 => k_mem)
      (case m5 => k_mem)
      (case da => assumption)
      (case di => assumption)
      (case dn => assumption)
      (case hq => kernel_rfl)
      intro t3 h1 tk1 X2
      have F2 := fr_ext F1 X2
      have N2 := news_ext N1 X2
      clear F1 N1
      dsimp only
      k_steps
      have hfin := fin70 TB0 (by assumption) F2 N2 (by k_mem) (by k_mem) T1 (.inr ⟨c, oc, fs, tq, rfl, F2.keep _ _ hcg, hc2, hc3⟩)
      exact ret _ _ _ hfin.1 hfin.2 ⟨_, rfl⟩
    · have hml : (ds.map fun (d : Nat) => (d : Int)).length = ds.length := List.length_map _
      have h0 : ds = [] := List.eq_nil_of_length_eq_zero (by omega)
      subst h0
      rename Grd _ _ _ => G1
      have hfin := fin70 TB0 G1 (by assumption) (by assumption) (by k_mem) (by k_mem) T1 (.inr ⟨c, oc, fs, tq, rfl, Fr.keep (by assumption) _ _ hcg, hc2, hc3⟩)
      exact ret _ _ _ hfin.1 hfin.2 ⟨_, rfl⟩
end
end RL
end
theorem RL.off_RLk : True := by
  w_top off
  trivial
section
open PySem PySem.W PyProof.Rows PySem.Calls
set_option maxRecDepth 100000
set_option maxHeartbeats 1000000
namespace RL
theorem filledK (w : World) (h : Heap) : (hd.heap_39 w.params).In h → PySem.Challenge.rw_rl0068_01.prog = PySem.Challenge.rw_rl0068_01.prog := by
  k_fill
  exact fun _ => rfl
/-- the division digit by digit -/
def dloop (n b : Nat) : List Nat → Nat → List Nat → Nat × List Nat
  | [], r, qs => (r, qs)
  | d :: rem, r, qs => dloop n b rem ((r * 2 ^ n + d) % b) (qs ++ [(r * 2 ^ n + d) / b])
theorem dloop_is (n b : Nat) (hb : 0 < b) : ∀ (rem : List Nat) (r : Nat) (qs : List Nat), r < b →
    b * valOf n (dloop n b rem r qs).2.reverse + (dloop n b rem r qs).1 = (b * valOf n qs.reverse + r) * 2 ^ (n * rem.length) + valOf n rem.reverse ∧ (dloop n b rem r qs).1 < b ∧ (dloop n b rem r qs).2.length = qs.length + rem.length
  | [], r, qs, hr => by simp [dloop, valOf, hr]
  | d :: rem, r, qs, hr => by
    have ih := dloop_is n b hb rem ((r * 2 ^ n + d) % b) (qs ++ [(r * 2 ^ n + d) / b]) (Nat.mod_lt _ hb)
    refine ⟨?_, ih.2.1, by rw [dloop, ih.2.2, List.length_append, List.length_cons, List.length_cons, List.length_nil]; omega⟩
    have e1 : (qs ++ [(r * 2 ^ n + d) / b]).reverse = (r * 2 ^ n + d) / b :: qs.reverse := by simp
    have e0 : (d :: rem).reverse = rem.reverse ++ [d] := by simp
    rw [dloop, ih.1, e1, e0, valOf_append, List.length_reverse]
    have e2 : n * (d :: rem).length = n + n * rem.length := by rw [List.length_cons, Nat.mul_add, Nat.mul_one, Nat.add_comm]
    have e3 : valOf n [d] = d := by simp [valOf]
    have dm := Nat.div_add_mod (r * 2 ^ n + d) b
    rw [e2, e3, Nat.pow_add, valOf]
    generalize hx : (r * 2 ^ n + d) / b = x at *
    generalize hy : (r * 2 ^ n + d) % b = y at *
    generalize hv : valOf n qs.reverse = v at *
    generalize valOf n rem.reverse = z at *
    generalize hp : 2 ^ (n * rem.length) = p at *
    have e4 : b * (x + 2 ^ n * v) + y = (b * v + r) * 2 ^ n + d := by
      rw [Nat.mul_add, Nat.add_mul, Nat.mul_assoc b v, Nat.mul_comm v]
      omega
    rw [e4, Nat.add_mul, ← Nat.mul_assoc, Nat.mul_comm p d]
    omega
def digitsN (n : Nat) : Nat → Nat → List Nat
  | 0, _ => []
  | k + 1, x => x % 2 ^ n :: digitsN n k (x / 2 ^ n)
theorem digitsN_cast (n : Nat) : ∀ k x, digitsOf n k x = (digitsN n k x).map fun (d : Nat) => (d : Int)
  | 0, _ => rfl
  | k + 1, x => by rw [digitsOf, digitsN, List.map_cons, digitsN_cast n k]
theorem digitsN_length (n : Nat) : ∀ k x, (digitsN n k x).length = k
  | 0, _ => rfl
  | k + 1, x => by rw [digitsN, List.length_cons, digitsN_length n k]
theorem digitsN_lt (n : Nat) : ∀ k x, ∀ d ∈ digitsN n k x, d < 2 ^ n
  | 0, _, d, h => absurd h List.not_mem_nil
  | k + 1, x, d, h => by
    rw [digitsN] at h
    rcases List.mem_cons.mp h with e | h
    · rw [e]; exact Nat.mod_lt _ (Nat.two_pow_pos _)
    · exact digitsN_lt n k _ d h
theorem digitsN_val (n : Nat) : ∀ k x, x < 2 ^ (n * k) → valOf n (digitsN n k x) = x
  | 0, x, h => by
    have : x < 1 := by simpa using h
    have : x = 0 := by omega
    rw [this]; rfl
  | k + 1, x, h => by
    rw [digitsN, valOf, digitsN_val n k]
    · exact Nat.mod_add_div x (2 ^ n)
    · apply Nat.div_lt_of_lt_mul
      rw [← Nat.pow_add]
      have : n + n * k = n * (k + 1) := by rw [Nat.mul_add, Nat.mul_one, Nat.add_comm]
      rw [this]; exact h
section
variable {prog : Program} {w : World} {A : Around} {E : Value → Shared → Prop} {s : Shared} {env : Env} {h₀ : Heap} {x : Str} {body : List Stmt} {Q : Flow → Shared → Prop} {I : Addr} {lp : Addr × Obj}
theorem rev_ind (C : List Value → (Str → Option Value) → List (Addr × Obj) → Prop)
    (h0 : ∀ m news, C [] m news → RevRest prog w A E h₀ env x body Q s I lp [] m news)
    (hs : ∀ v rv m news, (∀ m' n', C rv m' n' → RevRest prog w A E h₀ env x body Q s I lp rv m' n') → C (v :: rv) m news → RevRest prog w A E h₀ env x body Q s I lp (v :: rv) m news) :
    ∀ rv m news, C rv m news → RevRest prog w A E h₀ env x body Q s I lp rv m news := by
  intro rv
  induction rv with
  | nil => exact h0
  | cons v rv ih => exact fun m news hc => hs v rv m news ih hc
end
end RL
end
theorem RL.off_RLl : True := by
  w_top off
  trivial
section
open PySem PySem.W PyProof.Rows PySem.Calls
set_option maxRecDepth 100000
set_option maxHeartbeats 1000000
namespace RL
theorem filledL (w : World) (h : Heap) : (hd.heap_39 w.params).In h → PySem.Challenge.rw_rl0068_01.prog = PySem.Challenge.rw_rl0068_01.prog := by
  k_fill
  exact fun _ => rfl
theorem tabL_enter {h g : Heap} {t1 t2 t : Array Value} {ln cl : Int} {q : Str} {a : Addr × Obj} (TB : TBh h) (G : Grd h g [(65, tabObj t2), (58, tabObj t1)]) (T : TabH h ln cl q t) : TabL g ln cl q t a := by
  rcases T with e | ⟨c, oc, vs, tk, e, hc, hd, hv⟩
  · exact .inl e
  · have z := TB.code_ne hc hd hv
    exact .inr ⟨c, oc, vs, tk, e, .inl (G c oc hc (by simp [z.1, z.2])), hd, hv⟩
theorem tbl_enter {h g : Heap} {t1 t2 : Array Value} (TB : TBh h) (G : Grd h g [(65, tabObj t2), (58, tabObj t1)]) (T1 : TabH h 33 4 q1 t1) (T2 : TabH h 48 4 q2 t2) : TBl g [(65, tabObj t2), (58, tabObj t1), (58, tabObj t1), (65, tabObj t2)] :=
  ⟨t1, t2, _, _, rfl, tabL_enter TB G T1, tabL_enter TB G T2⟩
theorem news_four {h₀ h : Heap} {L : Addr} {o1 o2 : Obj} (N : News h₀ L h [(65, o2), (58, o1)]) : News h₀ L h [(65, o2), (58, o1), (58, o1), (65, o2)] := fun q hq => N q (by
  simp only [List.mem_cons, List.not_mem_nil, or_false] at hq ⊢
  rcases hq with e | e | e | e <;> simp [e])
theorem with_ledger2 {P : Prop} {h₀ h : Heap} {L x1 x2 : Addr} {o1 o2 : Obj} {rest : List (Addr × Obj)} (_ : News h₀ L h ((x1, o1) :: (x2, o2) :: rest)) (k : ∀ y1 y2 : Addr, y1 = x1 → y2 = x2 → P) : P := k x1 x2 rfl rfl
/-- frame and ledger behind a call that only made things -/
theorem ledN {h₀ h h' : Heap} {L r : Addr} {m : Str → Option Value} {obj : Obj} {led : List (Addr × Obj)} (F : Fr h₀ L h m) (N : News h₀ L h led) (X : Ext h h') (hr : h.get? r = none) (ho : h'.get? r = some obj) : Fr h₀ L h' m ∧ News h₀ L h' ((r, obj) :: led) ∧ AllNe r led := by
  refine ⟨fr_ext F X, fun q hq => ?_, allNe_of fun q hq => none_ne (N q hq).1 hr⟩
  rcases List.mem_cons.mp hq with e | hq
  · rw [e]
    refine ⟨ho, fun z => ?_, ?_⟩
    · obtain ⟨oL, _, _, hL, _⟩ := F.ns
      exact none_ne hL hr z.symm
    · cases q0 : h₀.get? r with
      | none => rfl
      | some o' => exact absurd rfl (none_ne (F.keep _ _ q0) hr)
  · exact news_ext N X q hq
theorem intsAre_rev {vs : List Value} {ns : List Int} (h : IntsAre vs ns) : IntsAre vs.reverse ns.reverse := by
  induction h with
  | nil => exact .nil
  | cons n t _ ih =>
    rw [List.reverse_cons, List.reverse_cons]
    exact IntsAre.append ih (.cons n t .nil)
theorem i2d_len {a n : Nat} (ha : a < 2 ^ 60) (hn0 : 0 < n) : (Builtin.Int.intBits (a : Int) + n - 1) / n ≤ 60 := by
  have hbits : Builtin.Int.intBits (a : Int) ≤ 60 := intBits_le (by omega)
  exact Nat.le_of_lt_succ ((Nat.div_lt_iff_lt_mul hn0).mpr (by
    have : 61 * n ≥ 61 + (n - 1) * 1 := by
      have := Nat.mul_le_mul_left 60 hn0
      omega
    omega))
theorem i2d_lt {a n : Nat} (hn0 : 0 < n) : a < 2 ^ (n * ((Builtin.Int.intBits (a : Int) + n - 1) / n)) := by
  by_cases h : a = 0
  · rw [h]; exact Nat.two_pow_pos _
  · exact (bits_ceil hn0 h).2
theorem fmod_nat (x k : Nat) : (x : Int).fmod ((k : Nat) : Int) = ((x % k : Nat) : Int) := by
  rw [Int.fmod_eq_emod_of_nonneg _ (by omega)]
  exact (Int.natCast_emod x k).symm
theorem div2n1n_N {w : World} {a b n : Nat} {ta tb tn : Tok} (ha : a < 2 ^ 60) (hb : 0 < b) (hb' : b < 2 ^ 30) :
    HSpec w 360 300 49 [.int a ta, .int b tb, .int n tn] (fun _ => True) (fun h v h' => ∃ r t1 t2, v = .ref r ∧ h.get? r = none ∧ h'.get? r = some (tupOf #[.int (a / b : Nat) t1, .int (a % b : Nat) t2] 0)) := by
  have z := div2n1n_spec (w := w) (a := (a : Int)) (b := (b : Int)) (n := (n : Int)) (ta := ta) (tb := tb) (tn := tn) (by omega) (by omega) (by omega) (by omega) (by omega)
  rw [fdiv_nat, fmod_nat] at z
  exact z
def NoC1 (o : Obj) : Prop := ∀ vs qs tk, o.data = .fields vs → vs[1]? ≠ some (.str qs tk)
theorem noC_seq {o : Obj} {its : Array Value} {e : Nat} (h : o.data = .seq its e) : NoC1 o := fun vs _ _ hd => by rw [h] at hd; exact nomatch hd
theorem noC_cell {o : Obj} {v : Option Value} (h : o.data = .cell v) : NoC1 o := fun vs _ _ hd => by rw [h] at hd; exact nomatch hd
theorem noCode_nil : NoCode [] := fun q hq => absurd hq List.not_mem_nil
theorem noCode_cons {a : Addr} {o : Obj} {l : List (Addr × Obj)} (h : NoC1 o) (hl : NoCode l) : NoCode ((a, o) :: l) := fun q hq => by
  rcases List.mem_cons.mp hq with e | hq
  · rw [e]; exact h
  · exact hl q hq
section
local macro_rules | `(tactic| walk_at "call ref") => `(tactic| ((k_dflt (show wpAny _ _ (call (Value.ref _) _) _ _ _)); refine Hold.of ?_))
local macro_rules | `(tactic| walk_at "pyIter ref") => `(tactic| ((with_reducible show wpAny _ _ (pyIter (Value.ref _)) (fun it s₂ => LoopAtV _ _ _ _ _ _ _ _ _ it s₂) _ _); refine Hold.of ?_))
local macro_rules | `(tactic| walk_at "eval Name") => `(tactic| (k_dflt (refine' ld ?k1 ?k2 ?_; (case k1 => k_asm); (case k2 => assumption); k_whole)))
local macro_rules | `(tactic| walk_at "binaryOp Add int int") => `(tactic| (with_reducible refine addN ?_))
local macro_rules | `(tactic| walk_at "binaryOp LShift int int") => `(tactic| ((with_reducible refine shlN ?hn ?ha ?_); (case hn => omega); (case ha => omega)))
local macro_rules | `(tactic| walk_at "call builtin:list.append") => `(tactic| ((k_dflt (refine' append_K ?k1 ?k2 ?k3 ?_ ?z; (case k1 => k_asm); (case k2 => k_asm); (case k3 => k_upd); (case z => (simp only [List.size_toArray, sizeLine]; omega)); k_whole)); intro h' F' N'))
local macro_rules | `(tactic| walk_at "call builtin:list.reverse") => `(tactic| ((k_dflt (refine' kl_reverse ?F ?N ?e ?U ?z ?_; (case F => k_asm); (case N => k_asm); (case U => k_upd); (case e => exact rfl); (case z => (simp only [List.size_toArray, sizeLine]; omega)))); k_whole; intro h' F' N'))
theorem rev_mono {prog : Program} {w : World} {A : Around} {E : Value → Shared → Prop} {s : Shared} {env : Env} {h₀ : Heap} {x : Str} {body : List Stmt} {Q : Flow → Shared → Prop} {I : Addr} {lp : Addr × Obj} {rv : List Value} {m : Str → Option Value} {n1 n2 : List (Addr × Obj)}
    (sub : ∀ p ∈ n1, p ∈ n2) (h : RevRest prog w A E h₀ env x body Q s I lp rv m n1) : RevRest prog w A E h₀ env x body Q s I lp rv m n2 := by
  cases rv with
  | nil => exact RevRest.zero fun h' tk F N => h h' tk F (News.sub N sub)
  | cons v r => exact RevRest.succ fun it h' tk hit F N => h it h' tk hit F (News.sub N fun p hp => by
      rcases List.mem_cons.mp hp with e | hp
      · rw [e]; exact List.mem_cons_self
      · exact List.mem_cons_of_mem _ (sub p hp))
theorem divmod_pos_spec {w : World} {a b : Nat} {ta tb : Tok} (ha : a < 2 ^ 60) (hb : 0 < b) (hb' : b < 2 ^ 20) :
    HSpecT w 330 150 77 [.int a ta, .int b tb] (fun _ => True) (fun h v h' => ∃ r t1 t2, v = .ref r ∧ h.get? r = none ∧ h'.get? r = some (tupOf #[.int (a / b : Nat) t1, .int (a % b : Nat) t2] 0)) := by
  intro p loose mean mg mb A₀ env outer base h₀ L m s Q E B F X T C1 C2 z1 z2 hf hk TB _ ret
  have TB0 := TB
  obtain ⟨t1, t2, g1, g2, T1, T2⟩ := TB
  have N := newsT F g1 g2 z1 z2
  have hbits : Builtin.Int.intBits (b : Int) ≤ 20 := intBits_le (by omega)
  have hbits0 : 0 < Builtin.Int.intBits (b : Int) := by
    unfold Builtin.Int.intBits
    have : ((b : Int) == 0) = false := by simp; omega
    rw [this]; simp
  have hblt : b < 2 ^ Builtin.Int.intBits (b : Int) := by
    have := intBits_le_iff.mp (Nat.le_refl (Builtin.Int.intBits (b : Int)))
    simpa using this
  refine wpAny_call ?_
  k_dflt (refine' callP ?k1 ?k2 ?k3 ?k4 ?k5 ?kA ?kF ?kK ?k6 ?k7 ?k8 ?k9 ?kB ?_ ?c2 ?c3 ?c4 ?c5; (case kA => exact rfl); (case kF => assumption); (case kK => assumption); (case k1 => k_asm); (case k2 => k_asm); (case k3 => k_asm); (case k4 => k_asm); (case k5 => k_asm); (case k6 => k_is); (case k7 => k_is); (case k8 => k_room); (case k9 => first | exact BindsTo.of_eq rfl | exact binds_K (by k_in) rfl (by k_is) rfl rfl rfl | fail "k_enter: no rule for these arguments"); (case c5 => decide); (case kB => exact locs rfl); (case c2 => exact rfl); (case c3 => exact rfl); (case c4 => exact rfl); k_whole; intro g' L' h' G' FG' F' N' B' X' T' l0'; (try k_lt l0'); (try dsimp only); (try k_fold))
  rename Grd _ _ _ => G1
  rename Fr h₀ L _ m => FG
  have C1g := CodeHd.keeps C1 FG.keep
  have C2g := CodeHd.keeps C2 FG.keep
  have Tb1 := tbl_enter TB0 G1 T1 T2
  rename News _ _ _ _ => N1
  have y1 := (N1 (58, tabObj t1) (by k_mem)).2.2
  have y2 := (N1 (65, tabObj t2) (by k_mem)).2.2
  have N2 := news_four N1
  clear N1
  k_steps
  generalize Builtin.Int.intBits (b : Int) = n at *
  rename Below _ _ _ _ => B1
  rename Fr _ _ _ _ => F1
  rename News _ _ _ _ => N1
  rename Frag.In _ _ => X1
  rename Top _ _ _ _ _ _ => T3
  refine weak (d := 340) (u := 200) (by exact rfl) (by exact Nat.le_of_ble_eq_true rfl) (by exact rfl) (by exact Nat.le_of_ble_eq_true rfl) ?_
  refine int2digits_spec (a := a) (n := n) ha hbits0 (by omega) p loose mean mg mb _ _ _ _ _ _ _ _ _ _ B1 F1 X1 T3 C1g C2g y1 y2 rfl rfl (tbl_h F1 N1 Tb1) trivial ?_
  intro v h1 tk1 X2 TB2 P2
  obtain ⟨r, vs, e, rfl, fr, hr, hI⟩ := P2
  obtain ⟨F2, tb', Tb2, N2, ap2, more⟩ := ledT (rest := []) F1 N1 Tb1 noCode_nil ⟨trivial, trivial⟩ y1 y2 X2 TB2
  obtain ⟨N3, ne3⟩ := more r _ _ _ fr hr rfl
  have Tb3 := Tb2
  obtain ⟨u1, u2, ⟨a1, ao⟩, ⟨b1, bo⟩, rfl, TL1, TL2⟩ := Tb2
  simp only [List.nil_append] at N3 ne3
  simp only [AllNe, and_true] at ne3
  clear F1 N1 more ap2 N2
  dsimp only
  k_steps
  rename Fr _ _ _ _ => F4
  rename News _ _ _ _ => N4
  refine with_ledger2 N4 (fun I ql eI eql => ?_)
  subst eI
  subst eql
  have hDlen := i2d_len (n := n) ha hbits0
  have hDlt := i2d_lt (a := a) hbits0
  have hds : i2d a n = (digitsN n ((Builtin.Int.intBits (a : Int) + n - 1) / n) a).map fun (d : Nat) => (d : Int) := digitsN_cast _ _ _
  generalize hdd : digitsN n ((Builtin.Int.intBits (a : Int) + n - 1) / n) a = dd at hds
  have hddlen : dd.length ≤ 60 := by rw [← hdd, digitsN_length]; exact hDlen
  have hddval : valOf n dd = a := by rw [← hdd]; exact digitsN_val _ _ _ hDlt
  have hddlt : ∀ d ∈ dd, d < 2 ^ n := by rw [← hdd]; exact digitsN_lt _ _ _
  rw [hds] at hI
  refine' iter_revUnr (lo := listOf vs.toArray e) (vs := vs) (n := e) rfl F4 N4 ?off ?mem rfl rfl ?_
  (case off => k_offL)
  (case mem => k_mem)
  refine rev_ind (C := fun rv m news => ∃ rd rr qs tr tn tb' qvs qe, IntsAre rv (rd.map fun (d : Nat) => (d : Int)) ∧ (∀ d ∈ rd, d < 2 ^ n) ∧ rr < b ∧ m (Str.ofString "r") = some (.int (rr : Nat) tr) ∧ m (Str.ofString "n") = some (.int n tn) ∧ m (Str.ofString "b") = some (.int b tb') ∧ m (Str.ofString "q_digits") = some (.ref ql) ∧
    IntsAre qvs (qs.map fun (d : Nat) => (d : Int)) ∧ news = [(ql, listOf (List.toArray qvs) qe), (r, listOf vs.toArray e), (65, tabObj u2), (58, tabObj u1), (a1, ao), (b1, bo)] ∧ dloop n b rd rr qs = dloop n b dd.reverse 0 [] ∧ qs.length + rd.length = dd.length) ?_ ?_ _ _ _ ?_
  · rintro m1 news1 ⟨rd, rr, qs, tr, tn, tb', qvs, qe, i1, i2, i3, i4, i5, i6, i7, i8, rfl, i9, i10⟩
    refine RevRest.zero (fun h' tk' F' N' => ?_)
    have hrd : rd = [] := by
      cases rd with
      | nil => rfl
      | cons d rd => exact nomatch i1
    subst hrd
    have hloop := dloop_is n b hb dd.reverse 0 [] hb
    rw [← i9, List.reverse_reverse, hddval] at hloop
    have hqr : b * valOf n qs.reverse + rr = a := by
      have := hloop.1
      simpa [dloop, valOf] using this
    have hqlen := IntsAre.length i8
    rw [List.length_map] at hqlen
    have hq : valOf n qs.reverse = a / b := by
      rw [← hqr]
      rw [Nat.mul_add_div hb, Nat.div_eq_of_lt i3, Nat.add_zero]
    have hr' : rr = a % b := by
      rw [← hqr]
      rw [Nat.mul_add_mod, Nat.mod_eq_of_lt i3]
    clear F4 N4
    dsimp only
    k_steps
    rename Fr _ _ _ _ => F5
    rename News _ _ _ _ => N5
    refine weak (d := 340) (u := 200) (by exact rfl) (by exact Nat.le_of_ble_eq_true rfl) (by exact rfl) (by exact Nat.le_of_ble_eq_true rfl) ?_
    refine digits2int_spec (dl := ql) (vs := qvs.reverse) (ds := qs.reverse) (e := qe) (n := n) (by rw [List.map_reverse]; exact intsAre_rev i8) (by rw [List.length_reverse]; simp only [List.length_nil] at i10; omega) (by omega) (by rw [hq]; exact Nat.lt_of_le_of_lt (Nat.div_le_self _ _) ha) p loose mean mg mb _ _ _ _ _ _ _ _ _ _ B1 F5 X1 T3 C1g C2g y1 y2 rfl rfl (tbl_h F5 (News.sub N5 (by intro q hq; exact List.mem_cons_of_mem _ (List.mem_cons_of_mem _ hq))) Tb3) (News.get N5 (by k_mem)) ?_
    intro v h5 tk5 X5 TB5 P5
    obtain ⟨tv, rfl⟩ := P5
    obtain ⟨F6, tb6, Tb6, N7, ap6, more6⟩ := ledT (rest := [(ql, _), (r, _)]) F5 N5 Tb3 (noCode_cons (noC_seq rfl) (noCode_cons (noC_seq rfl) noCode_nil)) ⟨⟨by k_ne, by k_ne, trivial⟩, ⟨by k_ne, by k_ne, trivial⟩⟩ y1 y2 X5 TB5
    have Tb7 := Tb6
    obtain ⟨u3, u4, ⟨a2, ao2⟩, ⟨b2, bo2⟩, rfl, TL3, TL4⟩ := Tb6
    simp only [List.cons_append, List.nil_append] at N7
    simp only [Apart, AllNe, and_true] at ap6
    clear F5 N5 more6
    rw [hq]
    dsimp only
    k_steps
    rw [hr'] at *
    have F8 := ‹Fr _ _ _ _›
    have N8 := ‹News _ _ _ _›
    refine ret _ _ _ (extT_of G1 (by assumption)) ?_ ⟨_, tv, tr, rfl, ?_, News.get N8 (by k_mem)⟩
    · refine' tbl_h ?F ?N Tb7
      (case F => assumption)
      (case N => (refine' News.sub (l := (_ :: _ :: _ :: [(65, tabObj u4), (58, tabObj u3), (a2, ao2), (b2, bo2)])) ?n ?s; (case n => assumption); (case s => (intro q hq; exact List.mem_cons_of_mem _ (List.mem_cons_of_mem _ (List.mem_cons_of_mem _ hq))))))
    · refine' freshT G1 ?fN ?fm ?fa ?fb
      (case fN => assumption)
      (case fm => k_mem)
      (case fa => k_ne)
      (case fb => k_ne)
  · rintro v rv m1 news1 ih ⟨rd, rr, qs, tr, tn, tb', qvs, qe, i1, i2, i3, i4, i5, i6, i7, i8, rfl, i9, i10⟩
    cases rd with
    | nil => exact nomatch i1
    | cons d rd =>
      rw [List.map_cons] at i1
      cases i1 with
      | cons _ td i1 =>
        refine RevRest.succ (fun it h' tk' hit F' N' => ?_)
        have hx : rr * 2 ^ n + d < 2 ^ 60 := by
          have h2 : d < 2 ^ n := i2 d List.mem_cons_self
          have h3 : rr < 2 ^ n := Nat.lt_trans i3 hblt
          have h4 : rr * 2 ^ n + d < 2 ^ n * 2 ^ n := by
            have := Nat.mul_le_mul_right (2 ^ n) (Nat.succ_le_of_lt h3)
            rw [Nat.succ_mul] at this
            omega
          have h5 : 2 ^ n * 2 ^ n ≤ 2 ^ 20 * 2 ^ 20 := Nat.mul_le_mul (Nat.pow_le_pow_right (by omega) hbits) (Nat.pow_le_pow_right (by omega) hbits)
          omega
        have hqlen := IntsAre.length i8
        rw [List.length_map] at hqlen
        clear F4 N4
        k_steps
        refine weak (d := 360) (u := 300) (by exact rfl) (by exact Nat.le_of_ble_eq_true rfl) (by exact rfl) (by exact Nat.le_of_ble_eq_true rfl) ?_
        refine div2n1n_N hx hb (by omega) p loose mean mg mb _ _ _ _ _ _ _ _ _ _ B1 F' X1 T3 rfl rfl trivial ?_
        intro v1 h2 tk2 X3 P3
        obtain ⟨tu, w1, w2, rfl, fr3, hr3⟩ := P3
        obtain ⟨F5, N5, ne5⟩ := ledN F' N' X3 fr3 hr3
        simp only [AllNe, and_true] at ne5
        clear F' N'
        dsimp only
        k_steps
        have epush : (qvs ++ [Value.int (((rr * 2 ^ n + d) / b : Nat) : Int) w1]).toArray = qvs.toArray.push (.int (((rr * 2 ^ n + d) / b : Nat) : Int) w1) := by simp
        refine rev_mono (n1 := [(ql, listOf (qvs ++ [Value.int (((rr * 2 ^ n + d) / b : Nat) : Int) w1]).toArray (qe + 1)), (r, listOf vs.toArray e), (65, tabObj u2), (58, tabObj u1), (a1, ao), (b1, bo)]) ?_ (ih _ _ ⟨rd, (rr * 2 ^ n + d) % b, qs ++ [(rr * 2 ^ n + d) / b], w2, tn, tb', _, _, i1, fun d' hd' => i2 d' (List.mem_cons_of_mem _ hd'), Nat.mod_lt _ hb, rfl, i5, i6, i7, ?_, rfl, i9, ?_⟩)
        · rw [epush]
          intro q hq
          simp only [List.mem_cons, List.not_mem_nil, or_false] at hq
          rcases hq with e | e | e | e | e | e <;> rw [e] <;> k_mem
        · rw [List.map_append]
          exact IntsAre.append i8 (.cons _ _ .nil)
        · rw [List.length_append, List.length_cons, List.length_nil]
          rw [List.length_cons] at i10
          omega
  · exact ⟨dd.reverse, 0, [], _, _, _, [], 0, by rw [List.map_reverse]; exact intsAre_rev hI, fun d hd => hddlt d (List.mem_reverse.mp hd), hb, rfl, rfl, rfl, rfl, .nil, rfl, rfl, by simp⟩
end
end RL
end
theorem RL.off_RLm : True := by
  w_top off
  trivial
section
open PySem PySem.W PyProof.Rows PySem.Calls
set_option maxRecDepth 100000
set_option maxHeartbeats 1000000
namespace RL
theorem filledM (w : World) (h : Heap) : (hd.heap_39 w.params).In h → PySem.Challenge.rw_rl0068_01.prog = PySem.Challenge.rw_rl0068_01.prog := by
  k_fill
  exact fun _ => rfl
def PairPost (x y : Int) (h : Heap) (v : Value) (h' : Heap) : Prop := ∃ r t1 t2, v = .ref r ∧ h.get? r = none ∧ h'.get? r = some (tupOf #[.int x t1, .int y t2] 0)
section
local macro_rules | `(tactic| walk_at "call ref") => `(tactic| ((k_dflt (show wpAny _ _ (call (Value.ref _) _) _ _ _)); refine Hold.of ?_))
theorem int_divmod_spec {w : World} {a b : Nat} {ta tb : Tok} (ha : a < 2 ^ 60) (hb : 0 < b) (hb' : b < 2 ^ 20) :
    HSpecT w 320 100 84 [.int a ta, .int b tb] (fun _ => True) (PairPost (a / b : Nat) (a % b : Nat)) := by
  intro p loose mean mg mb A₀ env outer base h₀ L m s Q E B F X T C1 C2 z1 z2 hf hk TB _ ret
  have TB0 := TB
  obtain ⟨t1, t2, g1, g2, T1, T2⟩ := TB
  have N := newsT F g1 g2 z1 z2
  refine wpAny_call ?_
  k_dflt (refine' callP ?k1 ?k2 ?k3 ?k4 ?k5 ?kA ?kF ?kK ?k6 ?k7 ?k8 ?k9 ?kB ?_ ?c2 ?c3 ?c4 ?c5; (case kA => exact rfl); (case kF => assumption); (case kK => assumption); (case k1 => k_asm); (case k2 => k_asm); (case k3 => k_asm); (case k4 => k_asm); (case k5 => k_asm); (case k6 => k_is); (case k7 => k_is); (case k8 => k_room); (case k9 => first | exact BindsTo.of_eq rfl | exact binds_K (by k_in) rfl (by k_is) rfl rfl rfl | fail "k_enter: no rule for these arguments"); (case c5 => decide); (case kB => exact locs rfl); (case c2 => exact rfl); (case c3 => exact rfl); (case c4 => exact rfl); k_whole; intro g' L' h' G' FG' F' N' B' X' T' l0'; (try k_lt l0'); (try dsimp only); (try k_fold))
  rename Grd _ _ _ => G1
  rename Fr h₀ L _ m => FG
  have C1g := CodeHd.keeps C1 FG.keep
  have C2g := CodeHd.keeps C2 FG.keep
  have Tb1 := tbl_enter TB0 G1 T1 T2
  rename News _ _ _ _ => N1
  have y1 := (N1 (58, tabObj t1) (by k_mem)).2.2
  have y2 := (N1 (65, tabObj t2) (by k_mem)).2.2
  have N2 := news_four N1
  clear N1
  k_steps
  · exfalso
    omega
  rename Below _ _ _ _ => B1
  rename Fr _ _ _ _ => F1
  rename News _ _ _ _ => N1
  rename Frag.In _ _ => X1
  rename Top _ _ _ _ _ _ => T3
  refine weak (d := 330) (u := 150) (by exact rfl) (by exact Nat.le_of_ble_eq_true rfl) (by exact rfl) (by exact Nat.le_of_ble_eq_true rfl) ?_
  refine divmod_pos_spec (a := a) (b := b) ha hb hb' p loose mean mg mb _ _ _ _ _ _ _ _ _ _ B1 F1 X1 T3 C1g C2g y1 y2 rfl rfl (tbl_h F1 N1 Tb1) trivial ?_
  intro v h1 tk1 X2 TB2 P2
  obtain ⟨r, w1, w2, rfl, fr, hr⟩ := P2
  obtain ⟨F2, tb', Tb2, N2, ap2, more⟩ := ledT (rest := []) F1 N1 Tb1 noCode_nil ⟨trivial, trivial⟩ y1 y2 X2 TB2
  obtain ⟨N3, ne3⟩ := more r _ _ _ fr hr rfl
  have Tb3 := Tb2
  obtain ⟨u1, u2, ⟨a1, ao⟩, ⟨b1, bo⟩, rfl, TL1, TL2⟩ := Tb2
  simp only [List.nil_append] at N3 ne3
  simp only [AllNe, and_true] at ne3
  clear F1 N1 more ap2 N2
  dsimp only
  k_steps
  refine ret _ _ _ (extT_of G1 (by assumption)) TB2 ⟨r, w1, w2, rfl, ?_, hr⟩
  refine' freshT G1 ?fN ?fm ?fa ?fb
  (case fN => assumption)
  (case fm => k_mem)
  (case fa => k_ne)
  (case fb => k_ne)
end
end RL
end
theorem RL.off_RLs : True := by
  w_top off
  trivial
section
namespace RL
open PySem PyProof PyProof.Rows
set_option maxRecDepth 100000

/-- first the keys do not rise, then each is at least all before it -/
def Vee (xs : Array Keyed) (k n : Nat) : Prop := NonInc xs k ∧ ∀ i j, i ≤ j → k ≤ j → j < n → K xs i ≤ K xs j

section
variable {prog : Program} {w : World} {A : Around} {E : Value → Shared → Prop} {s : Shared} {a₀ : Array Keyed}

theorem NonInc.step {xs ys : Array Keyed} {x : Nat} (hs : NonInc ys x) (hx : 1 ≤ x) (hk : ∀ k, K xs k = K ys k) (hl : K ys x ≤ K ys (x - 1)) : NonInc xs (x + 1) := by
  intro i j hij hj
  rw [hk, hk]
  by_cases hjx : j < x
  · exact hs i j hij hjx
  · have hj' : j = x := by omega
    subst hj'
    by_cases hi' : i = j
    · subst hi'; exact Int.le_refl _
    · exact Int.le_trans hl (hs i (j - 1) (by omega) (by omega))

theorem descLoopX {st : SortSt} {n nrem : Nat} {Q : DescSt → SortSt → Prop} (h0 : IntKeys a₀) (hn : nrem ≤ a₀.size) (h1 : 1 ≤ n) (hnn : n ≤ nrem) (hB : SBase a₀ st)
    (hs : NonInc (arrOf st) n)
    (h : ∀ m neq st', SBase a₀ st' → n ≤ m → m ≤ nrem → (∀ k, K (arrOf st') k = K (arrOf st) k) → NonInc (arrOf st') m → neq + 1 ≤ m →
      (∀ i, m - (neq + 1) ≤ i → i < m → K (arrOf st') i = K (arrOf st') (m - 1)) →
      (m = nrem ∨ K (arrOf st') (m - 1) < K (arrOf st') m) → Q (none, m, neq) st') :
    wpS (model prog w) A E s (descLoop n nrem) Q st := by
  unfold descLoop
  refine wpS_forRange (I := fun x c st' => ∃ neq, c = (none, x, neq) ∧ SBase a₀ st' ∧ (∀ k, K (arrOf st') k = K (arrOf st) k) ∧ NonInc (arrOf st') x ∧ neq + 1 ≤ x ∧
      (∀ i, x - (neq + 1) ≤ i → i < x → K (arrOf st') i = K (arrOf st') (x - 1))) ?step ?fin ⟨0, rfl, hB, fun _ => rfl, hs, by omega, fun i h1 h2 => by congr 1; omega⟩
  case fin =>
    rintro c st' ⟨neq, rfl, hB', hK, hs', hq, he⟩
    rw [show max n nrem = nrem by omega] at hs' hq he ⊢
    exact h nrem neq st' hB' hnn (Nat.le_refl _) hK hs' hq he (.inl rfl)
  case step =>
    rintro x c st' hax hxn ⟨neq, rfl, hB', hK, hs', hq, he⟩
    dsimp only
    have hsz : x ≤ (arrOf st').size := by rw [hB'.size]; omega
    refine wpS_bind (wpS_ltK hB' h0 (by omega) (by omega) ?_)
    by_cases hless : K (arrOf st') x < K (arrOf st') (x - 1)
    · simp only [hless, decide_true, if_true]
      by_cases hneq : neq > 0
      · rw [if_pos hneq]
        refine wpS_bind (wpS_reverse (wpS_pure ⟨0, rfl, hB'.setArr (mirror_perm _ _ _ _), fun k => (K_mirror_equal hsz he k).trans (hK k),
          NonInc.step hs' (by omega) (K_mirror_equal hsz he) (Int.le_of_lt hless), by omega, fun i h1 h2 => by congr 1; omega⟩))
      · rw [if_neg hneq]
        exact wpS_pure ⟨0, rfl, hB', hK, NonInc.step hs' (by omega) (fun _ => rfl) (Int.le_of_lt hless), by omega, fun i h1 h2 => by congr 1; omega⟩
    · simp only [hless, decide_false, Bool.false_eq_true, if_false]
      refine wpS_bind (wpS_ltK hB' h0 (by omega) (by omega) ?_)
      by_cases hlarger : K (arrOf st') (x - 1) < K (arrOf st') x
      · simp only [hlarger, decide_true, if_true]
        exact wpS_pure (h x neq st' hB' hax (by omega) hK hs' hq he (.inr hlarger))
      · simp only [hlarger, decide_false, Bool.false_eq_true, if_false]
        have heqx : K (arrOf st') x = K (arrOf st') (x - 1) := by omega
        refine wpS_pure ⟨neq + 1, rfl, hB', hK, NonInc.step hs' (by omega) (fun _ => rfl) (by omega), by omega, fun i h1 h2 => ?_⟩
        rw [show x + 1 - 1 = x by omega]
        by_cases hix : i = x
        · subst hix; rfl
        · rw [heqx]; exact he i (by omega) (by omega)

theorem tail3X {st : SortSt} {k n nrem : Nat} {Q : Option Nat → SortSt → Prop} (h0 : IntKeys a₀) (hn : nrem ≤ a₀.size) (h1 : 1 ≤ n) (hnn : n ≤ nrem) (hB : SBase a₀ st)
    (hs : NonInc (arrOf st) n) (hk : k ≤ n) (hv : ∀ i j, i ≤ j → k ≤ j → j < nrem → K (arrOf st) i ≤ K (arrOf st) j)
    (h : ∀ st', SBase a₀ st' → SortedTo (arrOf st') nrem → Q (some nrem) st') :
    wpS (model prog w) A E s (tail3 n nrem) Q st := by
  unfold tail3
  have hsz : n ≤ (arrOf st).size := by rw [hB.size]; omega
  refine wpS_bind (wpS_reverse ?_)
  have hB' : SBase a₀ (setArr st (mirror (arrOf st) 0 n ((n - 0) / 2))) := hB.setArr (mirror_perm _ _ _ _)
  refine wpS_bind (wpS_ascLoop h0 hn h1 hnn hB' ?_ fun m hm1 hm2 hsm hor => ?_)
  · intro i j hij hj
    show K (mirror (arrOf st) 0 n ((n - 0) / 2)) i ≤ K (mirror (arrOf st) 0 n ((n - 0) / 2)) j
    rw [K_mirror hsz, K_mirror hsz, if_pos (by omega), if_pos (by omega)]
    exact hs _ _ (by omega) (by omega)
  · rcases Nat.lt_or_ge m nrem with hlt | hge
    · exfalso
      have hh : K (mirror (arrOf st) 0 n ((n - 0) / 2)) m < K (mirror (arrOf st) 0 n ((n - 0) / 2)) (m - 1) := hor.resolve_left (by omega)
      rw [K_mirror hsz, K_mirror hsz, if_neg (by omega)] at hh
      by_cases hmn : m - 1 < n
      · rw [if_pos (by omega)] at hh
        have := hv (0 + n - 1 - (m - 1)) m (by omega) (by omega) hlt
        omega
      · rw [if_neg (by omega)] at hh
        have := hv (m - 1) m (by omega) (by omega) hlt
        omega
    · have e : m = nrem := by omega
      subst e
      exact wpS_pure (h _ hB' hsm)

theorem Vee.of {xs ys : Array Keyed} {k n : Nat} (hv : Vee ys k n) (hk : ∀ i, K xs i = K ys i) : Vee xs k n :=
  ⟨fun i j a b => by rw [hk, hk]; exact hv.1 i j a b, fun i j a b c => by rw [hk, hk]; exact hv.2 i j a b c⟩

theorem descPartX {st : SortSt} {k n nrem : Nat} {Q : Option Nat → SortSt → Prop} (h0 : IntKeys a₀) (hn : nrem ≤ a₀.size) (hnn : n + 1 ≤ nrem) (hB : SBase a₀ st)
    (hs : NonInc (arrOf st) (n + 1)) (hkn : k ≤ nrem) (hv : Vee (arrOf st) k nrem)
    (h : ∀ st', SBase a₀ st' → SortedTo (arrOf st') nrem → Q (some nrem) st') :
    wpS (model prog w) A E s (descPart n nrem) Q st := by
  unfold descPart
  refine wpS_bind (wpS_lift (wpAny_rule ⟨rfl, ?_⟩))
  refine wpS_bind (descLoopX h0 hn (by omega) hnn hB hs fun m neq st' hB' hm1 hm2 hK hs' hq he hor => ?_)
  dsimp only
  have hsz : m ≤ (arrOf st').size := by rw [hB'.size]; omega
  have hv' := hv.of hK
  have hkm : k ≤ m := by
    rcases hor with rfl | hor
    · exact hkn
    · rcases Nat.lt_or_ge m k with hlt | hge
      · have := hv'.1 (m - 1) m (by omega) hlt
        omega
      · exact hge
  by_cases hneq : neq > 0
  · rw [if_pos hneq]
    have hv2 := hv'.of (K_mirror_equal hsz he)
    refine wpS_bind (wpS_reverse (tail3X h0 hn (by omega) hm2 (hB'.setArr (mirror_perm _ _ _ _)) ?_ hkm hv2.2 h))
    intro i j hij hj
    show K (mirror (arrOf st') _ _ _) j ≤ K (mirror (arrOf st') _ _ _) i
    rw [K_mirror_equal hsz he, K_mirror_equal hsz he]
    exact hs' i j hij hj
  · rw [if_neg hneq]
    exact tail3X h0 hn (by omega) hm2 hB' hs' hkm hv'.2 h

theorem countRunX {st : SortSt} {k nrem : Nat} {Q : Option Nat → SortSt → Prop} (h0 : IntKeys a₀) (hn : nrem ≤ a₀.size) (h1 : 1 ≤ nrem) (hB : SBase a₀ st)
    (hkn : k ≤ nrem) (hv : Vee (arrOf st) k nrem)
    (h : ∀ st', SBase a₀ st' → SortedTo (arrOf st') nrem → Q (some nrem) st') :
    wpS (model prog w) A E s (countRun' 0 nrem) Q st := by
  rw [countRun0_eq]
  refine wpS_bind (wpS_ascLoop h0 hn (Nat.le_refl 1) h1 hB (fun i j hij hj => by have : i = j := by omega
                                                                                 subst this; exact Int.le_refl _) fun n hn1 hn2 hsn hor => ?_)
  dsimp only
  by_cases hnn : n = nrem
  · rw [if_pos (by simpa using hnn)]
    subst hnn
    exact wpS_pure (h st hB hsn)
  · rw [if_neg (by simpa using hnn)]
    have hlt : K (arrOf st) n < K (arrOf st) (n - 1) := hor.resolve_left hnn
    have hnk : n < k := by
      rcases Nat.lt_or_ge n k with hlt' | hge
      · exact hlt'
      · have := hv.2 (n - 1) n (by omega) hge (by omega)
        omega
    have hall : ∀ k, 0 ≤ k → k < n → K (arrOf st) k = K (arrOf st) (n - 1) := by
      intro i _ hi
      have a1 := hsn i (n - 1) (by omega) (by omega)
      have a2 := hv.1 i (n - 1) (by omega) (by omega)
      omega
    by_cases hgt : n > 1
    · rw [if_pos hgt]
      refine wpS_bind (wpS_ltK hB h0 (by omega) (by omega) ?_)
      have hrose : ¬ K (arrOf st) 0 < K (arrOf st) (n - 1) := by
        have := hall 0 (by omega) (by omega)
        omega
      simp only [hrose, decide_false, Bool.false_eq_true, if_false]
      have hsz : n ≤ (arrOf st).size := by rw [hB.size]; omega
      refine wpS_bind (wpS_reverse (descPartX h0 hn (by omega) (hB.setArr (mirror_perm _ _ _ _)) ?_ hkn (hv.of (K_mirror_equal hsz hall)) h))
      exact fun i j hij hj => (hv.of (K_mirror_equal hsz hall)).1 i j hij (by omega)
    · rw [if_neg hgt]
      exact descPartX h0 hn (by omega) hB (fun i j hij hj => hv.1 i j hij (by omega)) hkn hv h

theorem minRun_le : ∀ (f n r : Nat), r ≤ 1 → minRun' f n r ≤ n + r
  | 0, n, r, _ => Nat.le_refl _
  | f + 1, n, r, hr => by
    rw [minRun'_succ]
    split
    · exact Nat.le_refl _
    · have := minRun_le f (n / 2) (max r (n % 2)) (by omega)
      omega

theorem sortRunsX {st : SortSt} {k : Nat} {Q : Unit → SortSt → Prop} (h0 : IntKeys a₀) (hB : SBase a₀ st) (h2 : 2 ≤ a₀.size)
    (hkn : k ≤ a₀.size) (hv : Vee (arrOf st) k a₀.size)
    (h : ∀ st', (arrOf st').Perm a₀ → failedOf st' = none → SortedTo (arrOf st') a₀.size → Q () st') : wpS (model prog w) A E s sortRuns' Q st := by
  rw [sortRuns'_eq]
  refine wpS_bind (wpS_get ?_)
  dsimp only
  have hmr : ¬ a₀.size < minRun' a₀.size a₀.size 0 := by
    have := minRun_le a₀.size a₀.size 0 (by omega)
    omega
  simp only [hB.size]
  generalize minRun' a₀.size a₀.size 0 = mr at hmr
  refine wpS_bind (wpS_mono (wpS_forRange
    (I := fun x c st' => (x = 0 ∧ c = (none, 0) ∧ st' = st) ∨ (1 ≤ x ∧ c = (none, a₀.size) ∧ SDone a₀ st'))
    (Q := fun c st' => c = (none, a₀.size) ∧ SDone a₀ st') ?step ?fin (.inl ⟨rfl, rfl, rfl⟩)) ?post)
  case fin =>
    rintro c st' (⟨hx, _, _⟩ | ⟨_, hc, hD⟩)
    · omega
    · exact ⟨hc, hD⟩
  case step =>
    rintro x c st' _ hx (⟨rfl, rfl, rfl⟩ | ⟨hx1, rfl, hD⟩)
    · dsimp only
      rw [if_neg (by omega)]
      simp only [Nat.sub_zero, Nat.zero_add]
      refine wpS_bind (countRunX h0 (Nat.le_refl _) (by omega) hB hkn hv fun st2 hB2 hs2 => ?_)
      dsimp only
      rw [if_neg hmr]
      refine wpS_bind (wpS_get ?_)
      have hb : (pendingOf st2).back? = none := by rw [hB2.pend]; rfl
      rw [hb]
      dsimp only
      exact wpS_bind (wpS_modify (wpS_pure (.inr ⟨by omega, rfl, hB2.done hs2⟩)))
    · dsimp only
      rw [if_pos (Nat.le_refl _)]
      exact wpS_pure ⟨rfl, hD⟩
  case post =>
    rintro c st' ⟨rfl, hD⟩
    dsimp only
    refine wpS_bind (wpS_mono (wpS_forRange (I := fun _ c st'' => st'' = st' ∧ c = (none, ())) (Q := fun c st'' => st'' = st' ∧ c = (none, ())) ?_ (fun _ _ hh => hh) ⟨rfl, rfl⟩) ?_)
    · rintro x c st'' _ _ ⟨rfl, rfl⟩
      refine wpS_bind (wpS_get ?_)
      rw [if_pos (by rw [hD.2.2.1]; exact Nat.le_refl 1)]
      exact wpS_pure ⟨rfl, rfl⟩
    · rintro c st'' ⟨rfl, rfl⟩
      exact wpS_pure (h _ hD.1 hD.2.1 hD.2.2.2)
end
end RL
end
theorem RL.off_RLt : True := by
  w_top off
  trivial
section
namespace RL
open PySem PyProof PyProof.Rows
set_option maxRecDepth 100000

/-- the list form -/
def VeeL (ns : List Int) : Prop := ∃ k, k ≤ ns.length ∧ (∀ i j, i ≤ j → j < k → ns.getD j 0 ≤ ns.getD i 0) ∧ ∀ i j, i ≤ j → k ≤ j → j < ns.length → ns.getD i 0 ≤ ns.getD j 0

theorem K_pairs {vs : List Value} {ns : List Int} (hI : IntsAre vs ns) (i : Nat) : K (pairsOf vs) i = ns.getD i 0 := by
  have hn := hI.nums
  subst hn
  unfold K
  have e : (pairsOf vs)[i]? = (vs.zip vs)[i]? := by rw [← pairsOf_toList]; simp
  rw [e, List.getD_eq_getElem?_getD, List.getElem?_map]
  rcases h : vs[i]? with _ | v
  · rw [show (vs.zip vs)[i]? = none by
      rw [List.getElem?_eq_none_iff] at h ⊢
      rw [List.length_zip]; omega]
    rfl
  · rw [show (vs.zip vs)[i]? = some (v, v) by
      rw [List.getElem?_zip_eq_some]; exact ⟨h, h⟩]
    rfl

theorem VeeL.vee {vs : List Value} {ns : List Int} (hI : IntsAre vs ns) (hv : VeeL ns) : ∃ k, k ≤ (pairsOf vs).size ∧ Vee (pairsOf vs) k (pairsOf vs).size := by
  obtain ⟨k, a, b, c⟩ := hv
  have el : vs.length = ns.length := by rw [← hI.nums, List.length_map]
  refine ⟨k, by rw [pairsOf_size]; omega, fun i j x y => by rw [K_pairs hI, K_pairs hI]; exact b i j x y, fun i j x y z => ?_⟩
  rw [K_pairs hI, K_pairs hI]
  rw [pairsOf_size] at z
  exact c i j x y (by omega)

section
variable {prog : Program} {w : World} {A : Around} {E : Value → Shared → Prop} {s : Shared}

theorem list_sortX {a : Addr} {vs : List Value} {ns : List Int} {n : Nat} {P : Fin → Shared → Prop} (ho : s.heap.get? a = some (seqObj "list" vs.toArray n))
    (hI : IntsAre vs ns) (hsz1 : vs.length ≤ 1000) (hv : VeeL ns)
    (h : ∀ (out : Array Value) (ns' : List Int), IntsAre out.toList ns' → ns'.Perm ns → ns'.Pairwise (· ≤ ·) → P (.done (.ret .none)) { s with heap := sortedHeap s.heap a vs out }) :
    wpAny (model prog w) A (Builtin.«list.sort» ⟨[.ref a], []⟩) P E s := by
  by_cases h64 : vs.length < 64
  · exact list_sort_tree ho hI h64 h
  rw [list_sort_plain]
  have ha : a < s.heap.objs.size := Heap.lt_size ho
  have hsz : vs.toArray.size = vs.length := by simp
  have hl : vs.toArray.size ≤ sizeLine := by rw [hsz, sizeLine_eq]; omega
  refine wpAny_bind (listItems_at ho rfl ?_)
  refine wpAny_bind (listUpdate_at ho rfl ?_ hl)
  obtain ⟨e1, ho1⟩ : ∃ e1, (s.heap.update a (Obj.mapSeq fun _ => #[])).get? a = some (seqObj "list" #[] e1) := ⟨_, get?_update_seq ho (fun _ => #[])⟩
  refine wpAny_bind (seqEpoch_at ho1 rfl ?_)
  refine wpAny_bind (wpAny_newTuple ?_)
  refine wpAny_bind (wpAny_newList ?_)
  refine wpAny_holding ?_
  have ho6 : (((s.heap.update a (Obj.mapSeq fun _ => #[])).push (seqObj "tuple" vs.toArray 0)).push (seqObj "list" #[] 0)).get? a = some (seqObj "list" #[] e1) := by
    rw [Heap.get?_push_ne _ _ _ (by rw [size_push', Heap.size_update]; exact Nat.ne_of_lt (Nat.lt_succ_of_lt ha)), Heap.get?_push_ne _ _ _ (by rw [Heap.size_update]; exact Nat.ne_of_lt ha)]
    exact ho1
  show wpAny (model prog w) A _ P E { s with heap := ((s.heap.update a (Obj.mapSeq fun _ => #[])).push (seqObj "tuple" vs.toArray 0)).push (seqObj "list" #[] 0) }
  dsimp only
  have fin : ∀ st' : SortSt, (arrOf st').Perm (pairsOf vs) → SortedTo (arrOf st') (pairsOf vs).size →
      P (.done (.ret .none)) { s with heap := sortedHeap s.heap a vs ((arrOf st').map (·.2)) } := by
    intro st' hp hs
    obtain ⟨ns', h1, h2, h3⟩ := sorted_out hI hp hs
    exact h _ ns' h1 h2 h3
  obtain ⟨k, hk, hvee⟩ := hv.vee hI
  have h2 : ¬ vs.toArray.size < 2 := by omega
  rw [if_neg h2, if_neg h2]
  obtain ⟨v₁, v₂, rest, rfl⟩ : ∃ v₁ v₂ rest, vs = v₁ :: v₂ :: rest := by
    match vs, hsz, h2 with
    | [], _, h2 => simp at h2
    | [_], _, h2 => simp at h2
    | v₁ :: v₂ :: rest, _, _ => exact ⟨v₁, v₂, rest, rfl⟩
  rw [keyKind_ints hI]
  refine wpAny_bind (wpAny_pure ?_)
  refine wpAny_bind (wpAny_mono (sortRunsX (a₀ := pairsOf (v₁ :: v₂ :: rest)) (st := SortSt.mk' oneType' ((v₁ :: v₂ :: rest).toArray.zip (v₁ :: v₂ :: rest).toArray) #[] 7 none)
    (Q := fun _ st' => (arrOf st').Perm (pairsOf (v₁ :: v₂ :: rest)) ∧ failedOf st' = none ∧ SortedTo (arrOf st') (pairsOf (v₁ :: v₂ :: rest)).size)
    hI.intKeys ⟨Array.Perm.refl _, rfl, rfl, rfl⟩ (by rw [pairsOf_size]; simp) hk hvee fun st' a1 a2 a3 => ⟨a1, a2, a3⟩) ?_ fun _ _ e => e)
  rintro ⟨⟨⟩, st'⟩ s' ⟨rfl, hp, hf, hs⟩
  dsimp only
  refine wpAny_bind (seqEpoch_at ho6 rfl ?_)
  refine wpAny_bind (listUpdate_at ho6 rfl ?_ (hsz2 := by refine Nat.le_trans (Nat.le_of_eq ((Array.size_map ..).trans (hp.size_eq.trans (pairsOf_size _)))) ?_; rw [sizeLine_eq]; omega))
  rw [hf]
  simp only [bne_self_eq_false, Bool.false_eq_true, if_false]
  exact wpAny_pure (fin st' hp hs)

theorem sortedX {l : Addr} {vs : List Value} {ns : List Int} {Q : Value → Shared → Prop} (hl : s.heap.IsList l vs.toArray) (hI : IntsAre vs ns) (hsz1 : vs.length ≤ 1000) (hv : VeeL ns)
    (h : ∀ (out : Array Value) (ns' : List Int), IntsAre out.toList ns' → ns'.Perm ns → ns'.Pairwise (· ≤ ·) → Q (.ref (s.heap.objs.size + 1)) { s with heap := sortedAll s.heap vs out }) :
    wpAny (model prog w) A (call (.builtin "sorted") [.ref l]) Q E s := by
  refine Calls.call_function_entry kind_sorted plain_sorted entry_sorted (args_sorted1 _) ?_
  unfold Builtin.«sorted»
  refine wpAny_bind (m := checkCount "sorted" 1 1 _) (wpAny_pure ?_)
  refine wpAny_bind (collect_list hl ?_ (by rw [sizeLine_eq]; omega))
  refine wpAny_bind (wpAny_newList ?_)
  have hsz : ((s.heap.push (seqObj "list" #[] 0)).update s.heap.objs.size (Obj.mapSeq (· ++ vs.toArray))).objs.size = s.heap.objs.size + 1 := by
    rw [Heap.size_update, size_push']
  have hoL : (((s.heap.push (seqObj "list" #[] 0)).update s.heap.objs.size (Obj.mapSeq (· ++ vs.toArray))).push (seqObj "list" vs.toArray 0)).get? (s.heap.objs.size + 1) = some (seqObj "list" vs.toArray 0) := by
    rw [← hsz]; exact Heap.get?_push_size _ rfl
  show wpAny _ _ _ _ _ { s with heap := ((s.heap.push (seqObj "list" #[] 0)).update s.heap.objs.size (Obj.mapSeq (· ++ vs.toArray))).push (seqObj "list" vs.toArray 0) }
  rw [hsz]
  refine wpAny_bind (wpAny_holding (wpAny_call_entry slot_list_sort ⟨_, hoL, rfl⟩ entry_list_sort (list_sortX hoL hI hsz1 hv fun out ns' a1 a2 a3 => ⟨_, rfl, ?_⟩) (args_list_sort _)))
  exact wpAny_pure ⟨_, rfl, h out ns' a1 a2 a3⟩

theorem sortedXN {h₀ : Heap} {L : Addr} {m : Str → Option Value} {news : List (Addr × Obj)} {l : Addr} {vs : List Value} {ns : List Int} {Q : Value → Shared → Prop}
    (F : Fr h₀ L s.heap m) (N : News h₀ L s.heap news) (hl : s.heap.IsList l vs.toArray) (hI : IntsAre vs ns) (hsz1 : vs.length ≤ 1000) (hv : VeeL ns)
    (h : ∀ (h' : Heap) (vs' : List Value) (ns' : List Int) (e : Nat), Fr h₀ L h' m → News h₀ L h' ((s.heap.objs.size + 1, seqObj "list" vs'.toArray e) :: news) →
      IntsAre vs' ns' → ns'.Perm ns → ns'.Pairwise (· ≤ ·) → Q (.ref (s.heap.objs.size + 1)) { s with heap := h' }) :
    wpAny (model prog w) A (call (.builtin "sorted") [.ref l]) Q E s := by
  refine sortedX hl hI hsz1 hv fun out ns' a1 a2 a3 => ?_
  obtain ⟨e, he⟩ := sortedAll_at s.heap vs out
  exact h _ out.toList ns' e (F.kept fun _ _ => sortedAll_old) (N.kept_cons F (fun _ _ => sortedAll_old) (Nat.le_succ _) he) a1 a2 a3
end
end RL
end
theorem RL.off_RLu : True := by
  w_top off
  trivial
section
open PySem PySem.W PyProof.Rows PySem.Calls
set_option maxRecDepth 100000
set_option maxHeartbeats 1000000
namespace RL
theorem filledU (w : World) (h : Heap) : (hd.heap_39 w.params).In h → PySem.Challenge.rw_rl0068_01.prog = PySem.Challenge.rw_rl0068_01.prog := by
  k_fill
  exact fun _ => rfl
theorem isList_ground {h g : Heap} {l : Addr} {xs : Array Value} (hl : h.IsList l xs) (G : Grd h g []) : g.IsList l xs := by
  obtain ⟨o, ho, r⟩ := hl
  exact ⟨o, G _ _ ho (by simp), r⟩
theorem sortedXK {prog : Program} {w : World} {A : Around} {E : Value → Shared → Prop} {s : Shared} {h₀ : Heap} {L : Addr} {m : Str → Option Value} {news : List (Addr × Obj)} {l : Addr} {vs : List Value} {ns : List Int} {n : Nat} {Q : Value → Shared → Prop}
    (F : Fr h₀ L s.heap m) (N : News h₀ L s.heap news) (hl : s.heap.IsList l vs.toArray) (hI : IntsAre vs ns) (hn : vs.length = n) (hsz1 : n ≤ 1000) (hv : VeeL ns)
    (h : ∀ (D : Addr) (vs' : List Value) (ns' : List Int) (e : Nat) (h' : Heap), Fr h₀ L h' m → News h₀ L h' ((D, listOf vs'.toArray e) :: news) → (∀ q ∈ news, q.1 < D) →
      IntsAre vs' ns' → vs'.length = n → ns'.length = n → ns'.Perm ns → ns'.Pairwise (· ≤ ·) → Q (.ref D) { s with heap := h' }) :
    wpAny (model prog w) A (call (.builtin "sorted") [.ref l]) Q E s := by
  refine sortedXN F N hl hI (by omega) hv fun h' vs' ns' e F' N' a1 a2 a3 => ?_
  have e1 := IntsAre.length a1
  have e2 := IntsAre.length hI
  have e3 := a2.length_eq
  exact h _ vs' ns' e h' F' N' (fun p hp => Nat.lt_succ_of_lt (Heap.lt_size (N p hp).1)) a1 (by omega) (by omega) a2 a3
section
variable {prog : Program} {w : World} {A : Around} {E : Value → Shared → Prop} {s : Shared} {Q : Value → Shared → Prop} {a : Nat} {t u : Tok}
theorem div2N (h : Q (.int ((a / 2 : Nat) : Int) s.toks) { s with toks := s.toks + 1 }) : wpAny (model prog w) A (binaryOp .FloorDiv (.int (a : Int) t) (.int 2 u)) Q E s :=
  divN (b := 2) rfl (by omega) (by omega) h
theorem mod2N (h : Q (.int ((a % 2 : Nat) : Int) s.toks) { s with toks := s.toks + 1 }) : wpAny (model prog w) A (binaryOp .Mod (.int (a : Int) t) (.int 2 u)) Q E s :=
  mod_int' (by omega) (by rw [show ((a : Int).fmod 2) = ((a % 2 : Nat) : Int) from fmod_nat a 2]; exact h)
end
section
local macro_rules | `(tactic| walk_at "call builtin:sorted") => `(tactic| (k_dflt (refine' sortedXK ?sF ?sN ?sl ?sI ?sn ?sz ?sv ?_; (case sF => k_asm); (case sN => k_asm); (case sl => exact Fr.lst (by assumption) (by assumption)); (case sI => assumption); (case sn => assumption); (case sz => assumption); (case sv => assumption)); k_whole; intro D' v' n' c' h' F' N' l1 i' e1 e2 p' o'; (try k_lt l1)))
local macro_rules | `(tactic| walk_at "call builtin:len") => `(tactic| (k_dflt (refine' lenN ?N ?m ?d ?f ?_; (case N => k_asm); (case m => k_mem); (case d => assumption); (case f => omega)); k_whole))
local macro_rules | `(tactic| walk_at "binaryOp FloorDiv int int") => `(tactic| (with_reducible refine div2N ?_))
local macro_rules | `(tactic| walk_at "binaryOp Mod int int") => `(tactic| (with_reducible refine mod2N ?_))
local macro_rules | `(tactic| walk_at "binaryOp Sub int int") => `(tactic| ((with_reducible refine sub1N ?hle ?_); (case hle => omega)))
theorem median_low_spec {w : World} {l : Addr} {vs : List Value} {ns : List Int} (hI : IntsAre vs ns) (hsz : vs.length ≤ 1000) (hpos : 0 < vs.length) (hv : VeeL ns) :
    HSpec w 320 100 112 [.ref l] (fun h => h.IsList l vs.toArray) (fun _ v _ => ∃ (ns' : List Int) (t : Tok), ns'.Perm ns ∧ ns'.Pairwise (· ≤ ·) ∧ v = .int (ns'.getD ((vs.length - 1) / 2) 0) t) := by
  intro p loose mean mg mb A₀ env outer base h₀ L m s Q E B F X T hf hk hl ret
  generalize hNN : vs.length = NN at hsz hpos ret
  revert X
  k_fill
  intro X
  refine wpAny_call ?_
  k_dflt (refine' callP (kp := []) ?k1 ?k2 ?k3 ?k4 ?k5 ?kA ?kF ?kK ?k6 ?k7 ?k8 ?k9 ?kB ?_ ?c2 ?c3 ?c4 ?c5; (case kA => exact rfl); (case kF => assumption); (case kK => assumption); (case k1 => k_asm); (case k2 => k_asm); (case k3 => k_asm); (case k4 => exact News.nil); (case k5 => k_asm); (case k6 => k_is); (case k7 => k_is); (case k8 => k_room); (case k9 => first | exact BindsTo.of_eq rfl | exact binds_K (by k_in) rfl (by k_is) rfl rfl rfl | fail "k_enter: no rule for these arguments"); (case c5 => decide); (case kB => exact locs rfl); (case c2 => exact rfl); (case c3 => exact rfl); (case c4 => exact rfl); k_whole; intro g' L' h' G' FG' F' N' B' X' T' l0'; clear l0'; (try dsimp only); (try k_fold))
  have hlg := isList_ground hl (by assumption)
  k_steps
  · exfalso
    omega
  · have e : (NN - 1) / 2 = (((NN / 2 : Nat) : Int)).toNat := by omega
    refine ret _ _ _ (ext_of (by assumption) (by assumption)) ⟨_, _, by assumption, by assumption, congrArg (fun i => Value.int (List.getD _ i 0) _) e.symm⟩
  · have e : (NN - 1) / 2 = (((NN / 2 - 1 : Nat) : Int)).toNat := by omega
    refine ret _ _ _ (ext_of (by assumption) (by assumption)) ⟨_, _, by assumption, by assumption, congrArg (fun i => Value.int (List.getD _ i 0) _) e.symm⟩
theorem median_high_spec {w : World} {l : Addr} {vs : List Value} {ns : List Int} (hI : IntsAre vs ns) (hsz : vs.length ≤ 1000) (hpos : 0 < vs.length) (hv : VeeL ns) :
    HSpec w 320 100 119 [.ref l] (fun h => h.IsList l vs.toArray) (fun _ v _ => ∃ (ns' : List Int) (t : Tok), ns'.Perm ns ∧ ns'.Pairwise (· ≤ ·) ∧ v = .int (ns'.getD (vs.length / 2) 0) t) := by
  intro p loose mean mg mb A₀ env outer base h₀ L m s Q E B F X T hf hk hl ret
  generalize hNN : vs.length = NN at hsz hpos ret
  revert X
  k_fill
  intro X
  refine wpAny_call ?_
  k_dflt (refine' callP (kp := []) ?k1 ?k2 ?k3 ?k4 ?k5 ?kA ?kF ?kK ?k6 ?k7 ?k8 ?k9 ?kB ?_ ?c2 ?c3 ?c4 ?c5; (case kA => exact rfl); (case kF => assumption); (case kK => assumption); (case k1 => k_asm); (case k2 => k_asm); (case k3 => k_asm); (case k4 => exact News.nil); (case k5 => k_asm); (case k6 => k_is); (case k7 => k_is); (case k8 => k_room); (case k9 => first | exact BindsTo.of_eq rfl | exact binds_K (by k_in) rfl (by k_is) rfl rfl rfl | fail "k_enter: no rule for these arguments"); (case c5 => decide); (case kB => exact locs rfl); (case c2 => exact rfl); (case c3 => exact rfl); (case c4 => exact rfl); k_whole; intro g' L' h' G' FG' F' N' B' X' T' l0'; clear l0'; (try dsimp only); (try k_fold))
  have hlg := isList_ground hl (by assumption)
  k_steps
  · exfalso
    omega
  · have e : NN / 2 = (((NN / 2 : Nat) : Int)).toNat := by omega
    refine ret _ _ _ (ext_of (by assumption) (by assumption)) ⟨_, _, by assumption, by assumption, congrArg (fun i => Value.int (List.getD _ i 0) _) e.symm⟩
end
end RL
end
theorem RL.off_RLv1 : True := by
  w_top off
  trivial
section
namespace RL
open PySem
set_option maxRecDepth 100000
def psOf (S : Nat) : List UInt64 := if S = 0 then [] else [Float64.ofInt S]
section
open PySem.Float64
/-- the word of a small natural number -/
def tOf (n : Nat) : Nat := (1022 + n.log2) * 2 ^ 52 + n * 2 ^ (52 - n.log2)
theorem tOf_V {n : Nat} (h0 : n ≠ 0) (h1 : n < 2 ^ 53) : V (tOf n) = n * 2 ^ 1074 := by
  have hl : n.log2 < 53 := (Nat.log2_lt h0).mpr h1
  have a1 : 2 ^ n.log2 ≤ n := Nat.log2_self_le h0
  have a2 : n < 2 ^ (n.log2 + 1) := Nat.lt_log2_self
  unfold tOf
  generalize n.log2 = l at *
  have hq : 2 ^ l * 2 ^ (52 - l) = 2 ^ 52 := by rw [← Nat.pow_add]; congr 1; omega
  rw [V_at]
  · rw [Nat.mul_assoc, ← Nat.pow_add]; congr 2; omega
  · have := Nat.mul_le_mul_right (2 ^ (52 - l)) (Nat.le_of_lt a2)
    rw [Nat.pow_succ, Nat.mul_right_comm, hq] at this
    omega
  · left
    have := Nat.mul_le_mul_right (2 ^ (52 - l)) a1
    omega
theorem tOf_lt {n : Nat} (h0 : n ≠ 0) (h1 : n < 2 ^ 53) : tOf n < infMag := by
  have hl : n.log2 < 53 := (Nat.log2_lt h0).mpr h1
  have a2 : n < 2 ^ (n.log2 + 1) := Nat.lt_log2_self
  unfold tOf infMag
  generalize n.log2 = l at *
  have hq : 2 ^ l * 2 ^ (52 - l) = 2 ^ 52 := by rw [← Nat.pow_add]; congr 1; omega
  have := Nat.mul_le_mul_right (2 ^ (52 - l)) (Nat.le_of_lt a2)
  rw [Nat.pow_succ, Nat.mul_right_comm, hq] at this
  omega
theorem V_inj {a b : Nat} (h : V a = V b) : a = b := by
  rcases Nat.lt_trichotomy a b with q | q | q
  · have := V_lt q; omega
  · exact q
  · have := V_lt q; omega
theorem right_int {r : UInt64} {n : Nat} (h0 : n ≠ 0) (h1 : n < 2 ^ 53) (h : Right r false (n * 2 ^ 1074) 1) : r = pack false (tOf n) := by
  obtain ⟨t, rfl, h2, h3, h4⟩ := h
  have ht : t < infMag := by
    rcases Nat.lt_or_ge t infMag with q | q
    · exact q
    · have e := h3.mp (by omega)
      have e2 : n * 2 ^ 1074 ≤ 2 ^ 53 * 2 ^ 1074 := Nat.mul_le_mul_right _ (Nat.le_of_lt h1)
      have e3 : 2 * (2 ^ 53 * 2 ^ 1074) < 1 * ((2 ^ 54 - 1) * 2 ^ 2045) := by decide +kernel
      omega
  have h5 := (h4 ht (tOf n)).1
  rw [Nat.one_mul, Nat.one_mul, tOf_V h0 h1] at h5
  have h6 : V t = V (tOf n) := by
    rw [tOf_V h0 h1]
    unfold Float64.dist at h5
    omega
  rw [V_inj h6]
theorem ofInt_nat {n : Nat} (h0 : n ≠ 0) (h1 : n < 2 ^ 53) : ofInt (n : Int) = pack false (tOf n) := by
  refine right_int h0 h1 ?_
  have h := ofInt_right (n : Int)
  rwa [Int.natAbs_natCast, decide_eq_false (by omega)] at h
theorem dec_nat {n : Nat} (h1 : n < 2 ^ 53) : ∃ m e, decode (ofInt (n : Int)) = .fin false m e ∧ val (ofInt (n : Int)) = ((n * 2 ^ 1074 : Nat) : Int) := by
  by_cases h0 : n = 0
  · subst h0; exact ⟨0, -1074, by with_unfolding_all rfl, by with_unfolding_all rfl⟩
  · rw [ofInt_nat h0 h1]
    obtain ⟨m, e, h2, h3⟩ := decode_pack false (tOf_lt h0 h1)
    refine ⟨m, e, h2, ?_⟩
    rw [val_pack false (tOf_lt h0 h1), tOf_V h0 h1]
    rfl
theorem zero_ofInt : ofInt ((0 : Nat) : Int) = zero false := by decide +kernel
theorem add_nat {a b : Nat} (h : a + b < 2 ^ 53) : add (ofInt (a : Int)) (ofInt (b : Int)) = ofInt ((a + b : Nat) : Int) := by
  obtain ⟨m, e, ha, va⟩ := dec_nat (n := a) (by omega)
  obtain ⟨k, f, hb, vb⟩ := dec_nat (n := b) (by omega)
  have hv : val (ofInt (a : Int)) + val (ofInt (b : Int)) = (((a + b) * 2 ^ 1074 : Nat) : Int) := by
    rw [va, vb, Nat.add_mul, Int.natCast_add]
  obtain ⟨r1, r2⟩ := add_right ha hb
  by_cases h0 : a + b = 0
  · rw [h0] at hv ⊢
    rw [r1 (by rw [hv]; simp), zero_ofInt]
    rfl
  · have hp : 0 < (a + b) * 2 ^ 1074 := Nat.mul_pos (by omega) (Nat.two_pow_pos _)
    have r3 := r2 (by rw [hv]; omega)
    rw [hv, decide_eq_false (by omega), Int.natAbs_natCast] at r3
    rw [ofInt_nat h0 h, right_int h0 h r3]
theorem sub_nat {a b : Nat} (h : a + b < 2 ^ 53) : sub (ofInt ((a + b : Nat) : Int)) (ofInt (a : Int)) = ofInt (b : Int) := by
  obtain ⟨m, e, ha, va⟩ := dec_nat (n := a + b) (by omega)
  obtain ⟨k, f, hb, vb⟩ := dec_nat (n := a) (by omega)
  have hv : val (ofInt ((a + b : Nat) : Int)) - val (ofInt (a : Int)) = ((b * 2 ^ 1074 : Nat) : Int) := by
    rw [va, vb, Nat.add_mul, Int.natCast_add]; omega
  obtain ⟨r1, r2⟩ := sub_right ha hb
  by_cases h0 : b = 0
  · subst h0
    rw [r1 (by rw [hv]; simp), zero_ofInt]
    rfl
  · have hp : 0 < b * 2 ^ 1074 := Nat.mul_pos (by omega) (Nat.two_pow_pos _)
    have r3 := r2 (by rw [hv]; omega)
    rw [hv, decide_eq_false (by omega), Int.natAbs_natCast] at r3
    rw [ofInt_nat h0 (by omega), right_int h0 (by omega) r3]
theorem fin_nat {n : Nat} (h : n < 2 ^ 53) : isFinite (ofInt (n : Int)) = true := by
  obtain ⟨m, e, ha, _⟩ := dec_nat (n := n) h
  unfold isFinite
  rw [ha]
theorem zero_nat {n : Nat} (h : n ≠ 0) : isZero (ofInt (n : Int)) = false := by
  rw [← Bool.not_eq_true, Flt.isZero_ofInt]
  omega
theorem two_nat {a b : Nat} (h : a + b < 2 ^ 53) : isZero (sub (ofInt (b : Int)) (sub (ofInt ((a + b : Nat) : Int)) (ofInt (a : Int)))) = true := by
  rw [sub_nat h]
  have e := sub_nat (a := b) (b := 0) (by omega)
  rw [Nat.add_zero] at e
  rw [e, Flt.isZero_ofInt]
  rfl
theorem fsum_one {a b : Nat} (h : a + b < 2 ^ 53) : fsumAdd [ofInt (a : Int)] (ofInt (b : Int)) = ([], ofInt ((a + b : Nat) : Int)) := by
  unfold fsumAdd
  by_cases hc : lt (Float64.abs (ofInt (b : Int))) (Float64.abs (ofInt (a : Int))) = true
  · simp only [hc, if_true, two_nat h, add_nat h, fsumAdd]
  · have h' : b + a < 2 ^ 53 := by omega
    have e := two_nat h'
    simp only [hc, if_false, e, add_nat h', fsumAdd, Bool.false_eq_true, if_true]
    rw [Nat.add_comm b a]
end
theorem step_ok {S k : Nat} (hS : S ≤ 1024) (hk : k ≤ 4) : Float64.isFinite (Float64.fsumAdd (psOf S) (Float64.ofInt k)).2 = true ∧
    (if Float64.isZero (Float64.fsumAdd (psOf S) (Float64.ofInt k)).2 then (Float64.fsumAdd (psOf S) (Float64.ofInt k)).1 else (Float64.fsumAdd (psOf S) (Float64.ofInt k)).1 ++ [(Float64.fsumAdd (psOf S) (Float64.ofInt k)).2]) = psOf (S + k) := by
  by_cases h0 : S = 0
  · subst h0
    have e : Float64.fsumAdd (psOf 0) (Float64.ofInt k) = ([], Float64.ofInt k) := rfl
    rw [e, Nat.zero_add]
    refine ⟨fin_nat (by omega), ?_⟩
    by_cases hk0 : k = 0
    · subst hk0
      decide +kernel
    · dsimp only
      rw [zero_nat hk0]
      simp [psOf, hk0]
  · have e : psOf S = [Float64.ofInt S] := if_neg h0
    rw [e, fsum_one (by omega)]
    refine ⟨fin_nat (by omega), ?_⟩
    dsimp only
    rw [zero_nat (by omega)]
    have e2 : psOf (S + k) = [Float64.ofInt ((S + k : Nat) : Int)] := if_neg (by omega)
    rw [e2]
    rfl
end RL
end
theorem RL.off_RLv : True := by
  w_top off
  trivial
section
namespace RL
open PySem PyProof.Rows
set_option maxRecDepth 100000
def bitsOf : Value → UInt64
  | .int i _ => i.toNat.toUInt64
  | _ => 0
theorem bits_raw (x : UInt64) : bitsOf (rawInt x.toNat) = x := by
  show ((x.toNat : Int)).toNat.toUInt64 = x
  rw [Int.toNat_natCast]
  simp
theorem bits_list (xs : List UInt64) : (xs.map fun x => rawInt x.toNat).map bitsOf = xs := by
  rw [List.map_map]
  conv => rhs; rw [← List.map_id xs]
  exact List.map_congr_left fun x _ => bits_raw x
theorem kind_fsum : builtinKind "math.fsum" = none := by decide +kernel
theorem plain_fsum : plainId "math.fsum" = true := by decide +kernel
theorem entry_fsum : entryFor table "math.fsum" = some Builtin.«math.fsum» := entryFor_of_fast (by kernel_rfl)
theorem args_fsum (a : Value) : argsOk "math.fsum" ⟨[a], []⟩ := by unfold argsOk; kernel_rfl
theorem plain_fsum_loop : plainId "math.fsum.loop" = true := by decide +kernel
theorem entry_fsum_loop : entryFor table "math.fsum.loop" = some Builtin.«math.fsum.loop» := entryFor_of_fast (by kernel_rfl)
abbrev packed (xs : List UInt64) : Obj := seqObj "tuple" (xs.map fun x => rawInt x.toNat).toArray 0
section
variable {prog : Program} {w : World} {A : Around} {R : Result → Shared → Prop} {E : Value → Shared → Prop} {I l : Addr} {vs : List Value} {ms : List Nat} {T : Nat}
theorem fsum_loop_eq (it p sp : Value) : Builtin.«math.fsum.loop» ⟨[it, p, sp], []⟩ = ((seqItems? p >>= fun r => pure ((r.getD #[]).toList.map bitsOf)) >>= fun ps =>
    (seqItems? sp >>= fun r => pure ((r.getD #[]).toList.map bitsOf)) >>= fun sps =>
    match sps with
    | [special, infs] => do
      match ← pyNext it with
      | some item =>
        let x ← holding [item] (Builtin.Math.realArg item)
        let (low, top) := Float64.fsumAdd ps x
        if Float64.isFinite top then
          return ← again (.builtin "math.fsum.loop" ⟨[it, ← newTuple ((if Float64.isZero top then low else low ++ [top]).map fun x => rawInt x.toNat), sp], []⟩)
        if Float64.isFinite x then rule "math.fsum.overflow"; raiseError "OverflowError" "intermediate overflow in fsum"
        rule "math.fsum.special"
        let infs := if Float64.isInf x then Float64.add infs x else infs
        again (.builtin "math.fsum.loop" ⟨[it, ← newTuple (([] : List UInt64).map fun x => rawInt x.toNat), ← newTuple ([Float64.add special x, infs].map fun x => rawInt x.toNat)], []⟩)
      | none =>
        if !Float64.isZero special then
          if Float64.isNaN infs then rule "math.fsum.inf-minus-inf"; raiseError "ValueError" "-inf + inf in fsum"
          return ← Builtin.Float.retFloat special
        Builtin.Float.retFloat (Float64.fsumEnd ps)
    | _ => unsupported "internal:math.fsum.loop") := rfl
theorem unpacked {M : Model} {s : Shared} {p : Addr} {xs : List UInt64} {Q : List UInt64 → Shared → Prop} (hp : s.heap.get? p = some (packed xs)) (h : Q xs s) :
    wpAny M A (seqItems? (.ref p) >>= fun r => pure ((r.getD #[]).toList.map bitsOf)) Q E s := by
  refine wpAny_bind (wpAny_seqItems hp rfl (wpAny_pure ?_))
  show Q ((xs.map fun x => rawInt x.toNat).toArray.toList.map bitsOf) s
  rw [List.toList_toArray, bits_list]
  exact h
theorem intsAre_at {vs : List Value} {ns : List Int} (h : IntsAre vs ns) : ∀ {i : Nat} {x : Int}, ns[i]? = some x → ∃ t, vs[i]? = some (.int x t) := by
  induction h with
  | nil => intro i x hx; simp at hx
  | cons n t _ ih =>
    intro i x hx
    cases i with
    | zero => exact ⟨t, by simp only [List.getElem?_cons_zero, Option.some.injEq] at hx ⊢; rw [hx]⟩
    | succ i => exact ih (i := i) (by simpa using hx)
theorem fsum_loop (hA : A.in1.handled = none) (hI : IntsAre vs (ms.map Int.ofNat)) (hb : ∀ x ∈ ms, x ≤ 4) (hT : T ≤ 1024) (hlI : l ≠ I) :
    ∀ (k i : Nat) (s : Shared) (p q : Addr) (S : Nat), ms.length - i = k → i ≤ ms.length → s.heap.IsListIter I l i → s.heap.IsList l vs.toArray → p ≠ I → q ≠ I → S + (ms.drop i).sum = T →
    s.heap.get? p = some (packed (psOf S)) → s.heap.get? q = some (packed [Float64.zero false, Float64.zero false]) →
    (∀ h' tk t', (∀ b o, b ≠ I → s.heap.get? b = some o → h'.get? b = some o) → R (.ok (.ret (.float (Float64.fsumEnd (psOf T)) t'))) { s with heap := h', toks := tk }) →
    codeAny (model prog w) A (.builtin "math.fsum.loop" ⟨[.ref I, .ref p, .ref q], []⟩) R s := by
  have hlen : vs.length = ms.length := by rw [IntsAre.length hI, List.length_map]
  intro k
  induction k with
  | zero =>
    intro i s p q S hk hi hit hl hpI hqI hS hp hq hR
    have e : i = ms.length := by omega
    subst e
    rw [List.drop_length] at hS
    simp only [List.sum_nil, Nat.add_zero] at hS
    subst hS
    refine codeAny_builtin entry_fsum_loop ?_
    rw [Around.under_plainId plain_fsum_loop _, fsum_loop_eq]
    refine wpAny_bind (unpacked hp ?_)
    refine wpAny_bind (unpacked hq ?_)
    dsimp only
    refine wpAny_bind (wpAny_pyNext_list_end hA hit hl (by simp [hlen]) fun h' hX => ?_)
    dsimp only
    rw [if_neg (by decide +kernel)]
    refine wpAny_bind (wpAny_mkFloat ?_)
    exact wpAny_pure (hR h' _ _ fun b o hbI e => hX b o hbI e)
  | succ k ih =>
    intro i s p q S hk hi hit hl hpI hqI hS hp hq hR
    have hlt : i < ms.length := by omega
    obtain ⟨t, ht⟩ := intsAre_at hI (i := i) (x := Int.ofNat ms[i]) (by simp [hlt])
    refine codeAny_builtin entry_fsum_loop ?_
    rw [Around.under_plainId plain_fsum_loop _, fsum_loop_eq]
    refine wpAny_bind (unpacked hp ?_)
    refine wpAny_bind (unpacked hq ?_)
    dsimp only
    refine wpAny_bind (wpAny_pyNext_list_item hit hl (x := .int (Int.ofNat ms[i]) t) (by simpa using ht) fun h' hit' hX => ?_)
    dsimp only
    have hk4 := hb ms[i] (List.getElem_mem hlt)
    have hsum : (ms.drop i).sum = ms[i] + (ms.drop (i + 1)).sum := by
      rw [List.drop_eq_getElem_cons hlt, List.sum_cons]
    obtain ⟨f1, f2⟩ := step_ok (S := S) (k := ms[i]) (by omega) hk4
    refine wpAny_bind (wpAny_holding (PySem.Flt.realArg_int hA (fun ho => ?_) fun _ => ?_))
    · exfalso
      revert ho
      show ¬ (2 ^ 1024 - 2 ^ 970 ≤ (Int.ofNat ms[i]).natAbs)
      have : (Int.ofNat ms[i]).natAbs = ms[i] := rfl
      rw [this]
      omega
    dsimp only
    have f1' : Float64.isFinite (Float64.fsumAdd (psOf S) (Float64.ofInt (Int.ofNat ms[i]))).2 = true := f1
    have f2' : (if Float64.isZero (Float64.fsumAdd (psOf S) (Float64.ofInt (Int.ofNat ms[i]))).2 then (Float64.fsumAdd (psOf S) (Float64.ofInt (Int.ofNat ms[i]))).1 else (Float64.fsumAdd (psOf S) (Float64.ofInt (Int.ofNat ms[i]))).1 ++ [(Float64.fsumAdd (psOf S) (Float64.ofInt (Int.ofNat ms[i]))).2]) = psOf (S + ms[i]) := f2
    rw [if_pos f1', f2']
    have hI0 : I < h'.objs.size := by obtain ⟨o, ho, _⟩ := hit'; exact Heap.lt_size ho
    refine wpAny_bind (wpAny_newTuple ?_ ?_)
    · refine wpAny_pure ⟨plainId_quiet plain_fsum_loop _, ?_⟩
      refine ih (i + 1) _ _ q (S + ms[i]) (by omega) hlt ?_ ?_ (Nat.ne_of_gt hI0) hqI (by omega) (Heap.get?_push_size _ rfl) ?_ ?_
      · obtain ⟨o, ho, r⟩ := hit'
        exact ⟨o, Heap.get?_push_of_some _ ho, r⟩
      · obtain ⟨o, ho, r⟩ := hl
        exact ⟨o, Heap.get?_push_of_some _ ((hX.2 _ hlI).trans ho), r⟩
      · exact Heap.get?_push_of_some _ ((hX.2 _ hqI).trans hq)
      · intro h2 tk t' hk2
        exact hR h2 tk t' fun b o hbI e => hk2 b o hbI (Heap.get?_push_of_some _ ((hX.2 _ hbI).trans e))
    · rw [List.length_map, sizeLine_eq]
      unfold psOf
      split <;> simp
theorem fsum_call {s : Shared} {Q : Value → Shared → Prop} (hA : A.in1.handled = none) (hl : s.heap.IsList l vs.toArray) (hI : IntsAre vs (ms.map Int.ofNat)) (hb : ∀ x ∈ ms, x ≤ 4) (hT : ms.sum ≤ 1024)
    (h : ∀ h' tk t', (∀ b o, s.heap.get? b = some o → h'.get? b = some o) → Q (.float (Float64.fsumEnd (psOf ms.sum)) t') { s with heap := h', toks := tk }) :
    wpAny (model prog w) A (call (.builtin "math.fsum") [.ref l]) Q E s := by
  have hlt : l < s.heap.objs.size := by obtain ⟨_, e, _⟩ := hl; exact Heap.lt_size e
  refine call_function_tree kind_fsum plain_fsum entry_fsum (args_fsum _) ?_
  show wpAny _ _ (Builtin.Math.mathOne "fsum" _ >>= fun v => pyIter v >>= fun i => newTuple (([] : List UInt64).map fun x => rawInt x.toNat) >>= fun p => newTuple ([Float64.zero false, Float64.zero false].map fun x => rawInt x.toNat) >>= fun q => again (.builtin "math.fsum.loop" ⟨[i, p, q], []⟩)) _ _ s
  refine wpAny_bind (m := Builtin.Math.mathOne "fsum" _) (wpAny_pure ?_)
  refine wpAny_bind (wpAny_pyIter_list hl ?_)
  refine wpAny_bind (wpAny_newTuple ?_)
  refine wpAny_bind (wpAny_newTuple ?_)
  have z1 : (s.heap.push { cls := .type "list_iterator", data := .fields #[.ref l, .int 0 0] }).objs.size = s.heap.objs.size + 1 := by rw [Heap.size_push]
  have hne1 : (s.heap.push { cls := .type "list_iterator", data := .fields #[.ref l, .int 0 0] }).objs.size ≠ s.heap.objs.size := by rw [z1]; exact Nat.succ_ne_self _
  refine wpAny_pure ⟨plainId_quiet plain_fsum_loop _, fsum_loop (I := s.heap.objs.size) hA hI hb hT (Nat.ne_of_lt hlt) ms.length 0 _ _ _ 0 rfl (Nat.zero_le _) ?_ ?_ ?_ ?_ (by simp) ?_ (Heap.get?_push_size _ rfl) ?_⟩
  · exact ⟨_, Heap.get?_push_of_some _ (Heap.get?_push_of_some _ (Heap.get?_push_size _ rfl)), rfl, rfl⟩
  · exact ((hl.push _).push _).push _
  · exact hne1
  · show (Heap.push (s.heap.push _) _).objs.size ≠ s.heap.objs.size
    rw [Heap.size_push, z1]
    exact fun e => absurd e (by omega)
  · exact Heap.get?_push_of_some _ (Heap.get?_push_size _ rfl)
  · intro h' tk t' hk
    exact h h' tk t' fun b o e => hk b o (Nat.ne_of_lt (Heap.lt_size e)) (Heap.get?_push_of_some _ (Heap.get?_push_of_some _ (Heap.get?_push_of_some _ e)))
end
end RL
end
theorem RL.off_RLw : True := by
  w_top off
  trivial
section
open PySem PySem.W PyProof.Rows PySem.Calls
set_option maxRecDepth 100000
set_option maxHeartbeats 1000000
namespace RL
theorem filledW (w : World) (h : Heap) : (hd.heap_39 w.params).In h → PySem.Challenge.rw_rl0068_01.prog = PySem.Challenge.rw_rl0068_01.prog := by
  k_fill
  exact fun _ => rfl
theorem fsumN {prog : Program} {w : World} {A : Around} {E : Value → Shared → Prop} {s : Shared} {h₀ : Heap} {L : Addr} {m : Str → Option Value} {news : List (Addr × Obj)} {l : Addr} {vs : List Value} {ms : List Nat} {T : Nat} {Q : Value → Shared → Prop}
    (F : Fr h₀ L s.heap m) (N : News h₀ L s.heap news) (hA : A.in1.handled = none) (hl : s.heap.IsList l vs.toArray) (hI : IntsAre vs (ms.map Int.ofNat)) (hb : ∀ x ∈ ms, x ≤ 4) (hT : ms.sum = T) (hT' : T ≤ 1024)
    (h : ∀ h' tk t', Fr h₀ L h' m → News h₀ L h' news → Q (.float (Float64.fsumEnd (psOf T)) t') { s with heap := h', toks := tk }) :
    wpAny (model prog w) A (call (.builtin "math.fsum") [.ref l]) Q E s := by
  subst hT
  exact fsum_call hA hl hI hb hT' fun h' tk t' X => h h' tk t' (F.kept X) (news_ext N X)
theorem lenG {prog : Program} {w : World} {A : Around} {E : Value → Shared → Prop} {s : Shared} {l : Addr} {vs : List Value} {n : Nat} {Q : Value → Shared → Prop} (hl : s.heap.IsList l vs.toArray) (hn : vs.length = n) (hf : n ≤ 1000)
    (h : Q (.int (n : Int) (s.toks + 1)) { s with toks := s.toks + 1 + 1 }) : wpAny (model prog w) A (call (.builtin "len") [.ref l]) Q E s := by
  subst hn
  refine Calls.call_len_list hl (by simp only [List.size_toArray]; omega) ?_
  simpa using h
theorem truthy_pos {prog : Program} {w : World} {A : Around} {E : Value → Shared → Prop} {s : Shared} {n : Int} {t : Tok} {Q : Bool → Shared → Prop} (hn : n ≠ 0) (h : Q true s) : wpAny (model prog w) A (truthy (.int n t)) Q E s := by
  refine truthy_int ?_
  rw [show (n != 0) = true from by simpa using hn]
  exact h
section
local macro_rules | `(tactic| walk_at "call builtin:math.fsum") => `(tactic| (k_dflt (refine' fsumN ?sF ?sN ?sA ?sl ?sI ?sb ?sT ?sz ?_; (case sF => k_asm); (case sN => k_asm); (case sA => with_unfolding_all rfl); (case sl => exact Fr.lst (by assumption) (by assumption)); (case sI => assumption); (case sb => assumption); (case sT => assumption); (case sz => assumption)); k_whole; intro h' tk' t' F' N'))
local macro_rules | `(tactic| walk_at "exec Try") => `(tactic| (k_dflt (refine wpAny_Try_except ?_)))
local macro_rules | `(tactic| walk_at "call builtin:len") => `(tactic| (k_dflt (refine' lenG ?sl ?sn ?sz ?_; (case sl => exact Fr.lst (by assumption) (by assumption)); (case sn => assumption); (case sz => assumption)); k_whole))
local macro_rules | `(tactic| walk_at "truthy int") => `(tactic| (k_dflt (refine' truthy_pos ?sh ?_; (case sh => omega))))
theorem fmean_spec {w : World} {l : Addr} {vs : List Value} {ms : List Nat} {T : Nat} (hI : IntsAre vs (ms.map Int.ofNat)) (hb : ∀ x ∈ ms, x ≤ 4) (hT : ms.sum = T) (hT' : T ≤ 1024) (hsz : vs.length ≤ 1000) (hpos : 0 < vs.length) :
    HSpec w 320 100 105 [.ref l] (fun h => h.IsList l vs.toArray) (fun _ v _ => ∃ (t : Tok), v = .float (Float64.div (Float64.fsumEnd (psOf T)) (Float64.ofInt vs.length)) t) := by
  intro p loose mean mg mb A₀ env outer base h₀ L m s Q E B F X T hf hk hl ret
  generalize hNN : vs.length = NN at hsz hpos ret
  revert X
  k_fill
  intro X
  refine wpAny_call ?_
  k_dflt (refine' callC (kp := []) ?k1 ?k2 ?k3 ?k4 ?k5 ?kA ?kF ?kK ?k6 ?k7 ?k8 ?k9 ?kB ?kD ?_ ?c2 ?c3 ?c4; (case kA => exact rfl); (case kF => assumption); (case kK => assumption); (case k1 => k_asm); (case k2 => k_asm); (case k3 => k_asm); (case k4 => exact News.nil); (case k5 => k_asm); (case k6 => k_is); (case k7 => k_is); (case k8 => k_room); (case k9 => first | exact BindsTo.of_eq rfl | exact binds_K (by k_in) rfl (by k_is) rfl rfl rfl); (case kB => exact rfl); (case kD => decide +kernel); (case c2 => exact rfl); (case c3 => exact rfl); (case c4 => exact rfl); k_whole; intro g' L' h' tk' cells' G' FG' F' N' Y' B' X' T' l1; (try k_lt l1); k_cells Y'; (try simp only [List.cons_append, List.nil_append] at N'); (try dsimp only); (try k_fold))
  have hlg := isList_ground hl (by assumption)
  k_steps
  exact ret _ _ _ (ext_of (by assumption) (by assumption)) ⟨_, rfl⟩
end
end RL
end
theorem RL.off_RLy : True := by
  w_top off
  trivial
section
open PySem PySem.W PyProof.Rows PySem.Calls PyProof.Rows.LCg PyProof.Rows.LCp
set_option maxRecDepth 100000
set_option maxHeartbeats 1000000
namespace RL
section
variable {prog : Program} {w : World} {A : Around} {E : Value → Shared → Prop} {s : Shared} {h₀ : Heap} {L : Addr} {m : Str → Option Value} {env : Env}
/-- what a pair comprehension's item makes: only new objects, a value of the asked kind -/
def BodyU (prog : Program) (w : World) (A : Around) (h₀ : Heap) (L : Addr) (m : Str → Option Value) (env : Env) (elt : PySem.Expr) (x x₂ : Str) (scope : Scope) (cl : List (Str × Addr)) (s₂ : Shared) (news : List (Addr × Obj)) (n : Nat) (Pt : Nat → Array Value → Prop) (Y : Nat → Value → Prop) : Prop :=
  ∀ i v₁ v₂ C oC m₂ h tk (E' : Value → Shared → Prop), i < n → Pt i #[v₁, v₂] → NsObj oC m₂ → m₂ x = some v₁ → m₂ x₂ = some v₂ → Fr h₀ L h m → News h₀ L h ((C, oC) :: news) → (∀ p ∈ news, p.1 < C) →
    wpAny (model prog w) A (eval elt (compEnvC scope cl C env)) (fun y s' => ∃ h' tk', s' = { s₂ with heap := h', toks := tk' } ∧ Ext h h' ∧ Y i y) E' { s₂ with heap := h, toks := tk }
theorem blockU {elt iter : PySem.Expr} {x x₂ : Str} {px px₂ tp : Pos} {tk} {scope : Scope} {cl : List (Str × Addr)} {pos : Pos} {s₂ : Shared} {I : Addr} {fp wr : List Addr} {n : Nat} {Pt : Nat → Array Value → Prop} {St : Nat → Heap → Prop} {Mid : Nat → Addr → Heap → Prop} {news : List (Addr × Obj)}
    {Y : Nat → Value → Prop} {RR : Value → Addr → Result → Shared → Prop}
    (W : WalksU prog w A I fp wr n Pt St Mid) (hsz : n ≤ sizeLine) (hPt : ∀ i vals, Pt i vals → ∃ v₁ v₂, vals = #[v₁, v₂])
    (hcell : ∀ y ∈ scope.names, y.2 ≠ .cell) (hkind : scope.kind = .function) (hx : scope.names.lookup x = some .local) (hx₂ : scope.names.lookup x₂ = some .local) (hxx : x ≠ x₂) (hh : A.handled = none) (hst : St 0 s₂.heap) (hfp : ∀ b ∈ fp, b < s₂.heap.objs.size)
    (F : Fr h₀ L s₂.heap m) (N : News h₀ L s₂.heap news) (hwL : L ∉ wr) (hw₀ : ∀ b ∈ wr, h₀.get? b = none) (off : ∀ p ∈ news, p.1 ∉ wr)
    (body : BodyU prog w A h₀ L m env elt x x₂ scope cl s₂ news n Pt Y)
    (hRR : ∀ D C h tk m' ys, Fr h₀ L h m → News h₀ L h ((D, lst ys) :: news) → (∀ p ∈ news, p.1 < D) → h.Ns C m' → h₀.get? C = none → h₀.get? D = none → C ≠ L → D ≠ L → C ≠ D → (∀ p ∈ news, p.1 ≠ C) → ys.length = n → (∀ i y, ys[i]? = some y → Y i y) → RR (.ref D) C (.ok .next) { s₂ with heap := h, toks := tk }) :
    wpAny (model prog w) A (newList []) (fun acc s₃ => wpAny (model prog w) A (newFunctionEnv scope env.globals cl [] env.qual none .none (some env)) (fun cenv s₄ =>
      codeAny (model prog w) A (.compStart (.ListComp elt [⟨.Tuple [.Name x px, .Name x₂ px₂] tk tp, iter, [], 0⟩] scope pos) 0 (.ref I) acc { cenv with scope := relabel scope env }) (RR acc cenv.locals) s₄) E s₃) E s₂ := by
  refine wpAny_newObj_type (wpAny_newFunctionEnv hcell (by intro y hy; simp at hy) (fun h₁ hns₁ hsb₁ => ?_) hkind)
  dsimp only at hns₁ hsb₁ ⊢
  generalize hH2 : s₂.heap.push { cls := .type "list", dict := none, data := .seq ([] : List Value).toArray } = H2 at hns₁ hsb₁ ⊢
  have hC : H2.objs.size = s₂.heap.objs.size + 1 := by rw [← hH2, Heap.size_push]
  have hDC : s₂.heap.objs.size ≠ H2.objs.size := by rw [hC]; exact Nat.ne_of_lt (Nat.lt_succ_self _)
  have below : ∀ b, b < s₂.heap.objs.size → b ≠ H2.objs.size ∧ b ≠ s₂.heap.objs.size := fun b hb => ⟨by rw [hC]; exact Nat.ne_of_lt (Nat.lt_succ_of_lt hb), Nat.ne_of_lt hb⟩
  have hDf : s₂.heap.objs.size ∉ fp := fun hm => Nat.lt_irrefl _ (hfp _ hm)
  have hCf : H2.objs.size ∉ fp := fun hm => by have := hfp _ hm; rw [hC] at this; exact Nat.lt_irrefl _ (Nat.lt_of_succ_lt this)
  have hDw : s₂.heap.objs.size ∉ wr := fun hm => hDf (W.sub _ hm)
  have hCw : H2.objs.size ∉ wr := fun hm => hCf (W.sub _ hm)
  have old : ∀ b o, s₂.heap.get? b = some o → h₁.get? b = some o := fun b o e => hsb₁.extBut b o (below b (Heap.lt_size e)).1 (Heap.get?_push_of_some _ (hH2 ▸ Heap.get?_push_of_some _ e))
  have hacc : h₁.get? s₂.heap.objs.size = some (lst []) := hsb₁.extBut _ _ hDC (Heap.get?_push_of_some _ (hH2 ▸ Heap.get?_push_size _ rfl))
  have hst₁ : St 0 h₁ := W.frame _ _ _ hst fun b _ o e => old b o e
  have fresh : ∀ a, s₂.heap.objs.size ≤ a → s₂.heap.get? a = none := fun a ha => by
    cases e : s₂.heap.get? a with
    | none => rfl
    | some o' => exact absurd (Heap.lt_size e) (Nat.not_lt.mpr ha)
  have fresh₀ : ∀ a, s₂.heap.objs.size ≤ a → h₀.get? a = none := fun a ha => by
    cases e : h₀.get? a with
    | none => rfl
    | some o' => have := F.keep a o' e; rw [fresh a ha] at this; cases this
  have hD₀ : h₀.get? s₂.heap.objs.size = none := fresh₀ _ (Nat.le_refl _)
  have hC₀ : h₀.get? H2.objs.size = none := fresh₀ _ (by rw [hC]; exact Nat.le_succ _)
  have hLlt : L < s₂.heap.objs.size := F.ns.lt
  have hDL : s₂.heap.objs.size ≠ L := Ne.symm (below L hLlt).2
  have hCL : H2.objs.size ≠ L := Ne.symm (below L hLlt).1
  have hlt : ∀ p ∈ news, p.1 < s₂.heap.objs.size := fun p hp => Heap.lt_size (N p hp).1
  have frw : ∀ {h h' : Heap}, Fr h₀ L h m → (∀ b o, b ∉ wr → h.get? b = some o → h'.get? b = some o) → Fr h₀ L h' m := fun {h h'} F' hk => by
    obtain ⟨oL, a1, a2, hL, a3⟩ := F'.ns
    exact ⟨⟨oL, a1, a2, hk _ _ hwL hL, a3⟩, fun b o e => hk _ _ (fun hm => by rw [hw₀ _ hm] at e; exact nomatch e) (F'.keep b o e), F'.above⟩
  have loop : ∀ s₃ : Shared, s₃ = { s₂ with heap := h₁, toks := s₂.toks + ([] : List (Str × Value)).length } →
      codeAny (model prog w) A (.compLoop (.ListComp elt [⟨.Tuple [.Name x px, .Name x₂ px₂] tk tp, iter, [], 0⟩] scope pos) 0 (.ref I) (.ref s₂.heap.objs.size) (compEnvC scope cl H2.objs.size env))
        (RR (.ref s₂.heap.objs.size) H2.objs.size) s₃ := by
    rintro s₃ rfl
    refine codeAny_compLoop_pair
      (fun k s' => ∃ h' tk i ys m', s' = { s₂ with heap := h', toks := tk } ∧ i ≤ n ∧ k = n + 1 - i ∧ ys.length = i ∧ St i h' ∧ Fr h₀ L h' m ∧ h'.Ns H2.objs.size m' ∧ News h₀ L h' ((s₂.heap.objs.size, lst ys) :: news) ∧
        ∀ i y, ys[i]? = some y → Y i y) ?_ (n + 1)
      ⟨h₁, _, 0, [], _, rfl, Nat.zero_le _, rfl, rfl, hst₁, F.keeps old, hns₁, fun p hp => ?_, fun i y e => by simp at e⟩
    · rintro k s' ⟨h', tk, i, ys, m', rfl, hi, rfl, hyl, hst', F', hn', N', hY⟩
      by_cases hlti : i < n
      · refine W.item i _ _ _ hlti hst' fun T vals h₂ tk₂ hPv hT hMid hk₂ => ?_
        obtain ⟨v₁, v₂, rfl⟩ := hPt _ _ hPv
        refine W.go _ _ _ i T _ _ _ hMid fun h₄ hst₄ hk₄ => ?_
        have hTw : T ∉ wr := W.apart _ _ _ hMid
        have hT' : h₄.IsTuple T #[v₁, v₂] := hT.at fun o e => hk₄ T o hTw e
        refine assign_Tuple_tuple hh hT' rfl rfl fun h₅ he => ?_
        have he' : ∀ b o, h₄.get? b = some o → h₅.get? b = some o := fun b o e => he b o (Nat.ne_of_lt (Heap.lt_size e)) e
        have up5 : ∀ b o, b ∉ wr → h'.get? b = some o → h₅.get? b = some o := fun b o hb e => he' b o (hk₄ b o hb (hk₂ b o hb e))
        refine assignInOrder_cons (wpAny_assign_Name (wpAny_storeName_local (lookup_relabel_local hx) (hn'.at' fun o e => up5 _ o hCw e) (fun h₆ hn₆ hs₆ => ?_) (by simp [compEnvC, relabel, hkind])))
        refine assignInOrder_cons (wpAny_assign_Name (wpAny_storeName_local (lookup_relabel_local hx₂) hn₆ (fun h₃ hn₃ hs₃ => ?_) (by simp [compEnvC, relabel, hkind])))
        refine assignInOrder_nil ?_
        have old3 : ∀ b o, b ≠ H2.objs.size → h₅.get? b = some o → h₃.get? b = some o := fun b o hb e => hs₃.extBut b o hb (hs₆.extBut b o hb e)
        have hst₃ : St (i + 1) h₃ := W.frame _ _ _ hst₄ fun b hb o e => old3 b o (fun q => hCf (by rw [← q]; exact hb)) (he' b o e)
        obtain ⟨oC, heC, hoC⟩ := ns_obj hn₃
        have F₃ : Fr h₀ L h₃ m := ((frw F' up5).change hs₆ hCL hC₀).change hs₃ hCL hC₀
        have N₃ : News h₀ L h₃ ((s₂.heap.objs.size, lst ys) :: news) := fun p hp => by
          have z := N' p hp
          rcases List.mem_cons.mp hp with rfl | hp
          · exact ⟨old3 _ _ hDC (up5 _ _ hDw z.1), z.2⟩
          · exact ⟨old3 _ _ (below _ (hlt p hp)).1 (up5 _ _ (off p hp) z.1), z.2⟩
        refine wpAny_mono (body i v₁ v₂ H2.objs.size oC _ h₃ _ _ hlti hPv hoC (by simp [hxx]) (by simp) F₃ (fun p hp => ?_) (fun p hp => by rw [hC]; exact Nat.lt_succ_of_lt (hlt p hp))) (fun y s₄ h₄ => ?_) fun _ _ e => e
        · rcases List.mem_cons.mp hp with rfl | hp
          · exact ⟨heC, hCL, hC₀⟩
          · exact N₃ p (List.mem_cons_of_mem _ hp)
        obtain ⟨h₇, tk₇, rfl, hX, hYy⟩ := h₄
        have zC := hX _ _ heC
        have zD := hX _ _ (N₃ (s₂.heap.objs.size, lst ys) List.mem_cons_self).1
        have hst₇ : St (i + 1) h₇ := W.frame _ _ _ hst₃ fun b _ o e => hX b o e
        refine append_at (hsz := by show ys.toArray.size ≤ sizeLine; rw [List.size_toArray, hyl]; exact Nat.le_trans hi hsz) zD fun h₈ hs₈ hD₈ => ?_
        refine ⟨n + 1 - (i + 1), by omega, h₈, tk₇, i + 1, ys ++ [y], _, rfl, hlti, rfl, by rw [List.length_append, List.length_singleton, hyl], W.frame _ _ _ hst₇ fun b hb o e => hs₈.extBut b o (fun q => hDf (q ▸ hb)) e, (F₃.kept hX).change hs₈ hDL hD₀,
          (hoC.ns zC).sameBut hs₈ (Ne.symm hDC), fun p hp => ?_, fun j z e => ?_⟩
        · rcases List.mem_cons.mp hp with rfl | hp
          · exact ⟨hD₈.trans (congrArg some (lst_snoc ys y)), hDL, hD₀⟩
          · have z := N₃ p (List.mem_cons_of_mem _ hp)
            exact ⟨hs₈.extBut _ _ (below _ (hlt p hp)).2 (hX _ _ z.1), z.2⟩
        · rcases Nat.lt_or_ge j ys.length with hj | hj
          · rw [List.getElem?_append_left hj] at e
            exact hY j z e
          · rw [List.getElem?_append_right hj] at e
            have hj0 : j - ys.length = 0 := by
              rcases Nat.eq_zero_or_pos (j - ys.length) with q | q
              · exact q
              · rw [List.getElem?_eq_none (by simp; omega)] at e
                exact nomatch e
            rw [hj0] at e
            have hz : y = z := by simpa using e
            have hji : j = i := by omega
            rw [← hz, hji]
            exact hYy
      · obtain rfl : i = n := Nat.le_antisymm hi (Nat.not_lt.mp hlti)
        refine W.done _ _ _ hst' fun h₂ tk₂ hk₂ => ?_
        exact hRR _ _ h₂ tk₂ _ ys (frw F' hk₂) (fun p hp => by
          have z := N' p hp
          rcases List.mem_cons.mp hp with rfl | hp
          · exact ⟨hk₂ _ _ hDw z.1, z.2⟩
          · exact ⟨hk₂ _ _ (off p hp) z.1, z.2⟩) hlt (hn'.at' fun o e => hk₂ _ o hCw e) hC₀ hD₀ hCL hDL (Ne.symm hDC) (fun p hp => (below _ (hlt p hp)).1) hyl hY
    · rcases List.mem_cons.mp hp with rfl | hp
      · exact ⟨hacc, hDL, hD₀⟩
      · exact ⟨old _ _ (N p hp).1, (N p hp).2⟩
  exact codeAny_compStart_list (loop _ rfl) (W.self 0 _ _ _ hst₁ (loop _ rfl))
end
end RL
end
theorem RL.off_RLz : True := by
  w_top off
  trivial
section
open PySem PySem.W PyProof.Rows PySem.Calls PyProof.Rows.LCg PyProof.Rows.LCp
set_option maxRecDepth 100000
set_option maxHeartbeats 1000000
namespace RL
section
variable {prog : Program} {w : World} {A : Around} {E : Value → Shared → Prop} {s : Shared} {h₀ : Heap} {L : Addr} {m : Str → Option Value} {env : Env}
def SrcU (prog : Program) (w : World) (A : Around) (h₀ : Heap) (L : Addr) (m : Str → Option Value) (env : Env) (elt : PySem.Expr) (x x₂ : Str) (scope : Scope) (cl : List (Str × Addr)) (Fin : Shared → List Value → List (Addr × Obj) → Nat → (Nat → Value → Prop) → Prop) (it : Value) (s₂ : Shared) : Prop :=
  ∃ I fp wr n Pt St Mid news Y, it = .ref I ∧ WalksU prog w A I fp wr n Pt St Mid ∧ n ≤ sizeLine ∧ (∀ i vals, Pt i vals → ∃ v₁ v₂, vals = #[v₁, v₂]) ∧ A.handled = none ∧ St 0 s₂.heap ∧ (∀ b ∈ fp, b < s₂.heap.objs.size) ∧
    Fr h₀ L s₂.heap m ∧ News h₀ L s₂.heap news ∧ L ∉ wr ∧ (∀ b ∈ wr, h₀.get? b = none) ∧ (∀ p ∈ news, p.1 ∉ wr) ∧ BodyU prog w A h₀ L m env elt x x₂ scope cl s₂ news n Pt Y ∧
    ∀ ys, ys.length = n → (∀ i y, ys[i]? = some y → Y i y) → Fin s₂ ys news n Y
theorem ListComp_V {elt iter : PySem.Expr} {x x₂ : Str} {px px₂ tp : Pos} {tk} {scope : Scope} {cl : List (Str × Addr)} {pos : Pos} {Q : Value → Shared → Prop} (_F₀ : Fr h₀ L s.heap m)
    (hclos : closureFor scope env = pure cl) (hcell : ∀ y ∈ scope.names, y.2 ≠ .cell) (hkind : scope.kind = .function)
    (hnames : ∀ y ∈ scope.names, y.2 = .local → scope.names.lookup y.1 = some .local) (hx : scope.names.lookup x = some .local) (hx₂ : scope.names.lookup x₂ = some .local) (hxx : x ≠ x₂)
    (h : wpAny (model prog w) A (eval iter env) (fun xv s₁ => wpAny (model prog w) A (pyIter xv) (SrcU prog w A h₀ L m env elt x x₂ scope cl
      (fun s₂ ys news _ _ => ∀ D h tk, Fr h₀ L h m → News h₀ L h ((D, lst ys) :: news) → (∀ p ∈ news, p.1 < D) → Q (.ref D) { s₂ with heap := h, toks := tk })) E s₁) E s)
    (hs : ∀ x, foldedSetIterable iter env x = pure x := by intro _; rfl) :
    wpAny (model prog w) A (eval (.ListComp elt [⟨.Tuple [.Name x px, .Name x₂ px₂] tk tp, iter, [], 0⟩] scope pos) env) Q E s := by
  rw [eval_ListComp]
  refine wpAny_comprehension_free (use := none) rfl hs hclos hkind hnames (wpAny_mono h (fun xv s₁ h₁ => wpAny_mono h₁ (fun it s₂ h₂ => ?_) fun _ _ e => e) fun _ _ e => e)
  obtain ⟨I, fp, wr, n, Pt, St, Mid, news, Y, rfl, W, hsz, hPt, hh, hst, hfp, F, N, hwL, hw₀, off, body, fin⟩ := h₂
  refine blockU W hsz hPt hcell hkind hx hx₂ hxx hh hst hfp F N hwL hw₀ off body ?_
  intro D C h tk m' ys F' N' o1 hn hC₀ hD₀ hCL hDL hCD offC hlen hY
  refine ⟨m', hn, fun h'' hs'' => fin ys hlen hY D h'' tk (F'.change hs'' hCL hC₀) (fun p hp => ?_) o1⟩
  refine ⟨hs''.extBut _ _ ?_ (N' p hp).1, (N' p hp).2⟩
  rcases List.mem_cons.mp hp with rfl | hp
  · exact Ne.symm hCD
  · exact offC p hp
theorem Assign_ListComp_V {elt iter : PySem.Expr} {x x₂ y : Str} {px px₂ tp py : Pos} {tk} {scope : Scope} {cl : List (Str × Addr)} {pos spos : Pos} {Q : Flow → Shared → Prop} (_F₀ : Fr h₀ L s.heap m) (hLe : env.locals = L)
    (hsw : swapsWith (.ListComp elt [⟨.Tuple [.Name x px, .Name x₂ px₂] tk tp, iter, [], 0⟩] scope pos) (some (.Name y py)) spos.line env = pure true)
    (hclos : closureFor scope env = pure cl) (hcell : ∀ z ∈ scope.names, z.2 ≠ .cell) (hkind : scope.kind = .function)
    (hnames : ∀ z ∈ scope.names, z.2 = .local → scope.names.lookup z.1 = some .local) (hx : scope.names.lookup x = some .local) (hx₂ : scope.names.lookup x₂ = some .local) (hxx : x ≠ x₂)
    (hy : env.kindOf y = some .local) (hp : (env.scope.kind == .class || (env.scope.kind == .module && env.locals != env.globals)) = false)
    (h : wpAny (model prog w) A (eval iter env) (fun xv s₁ => wpAny (model prog w) A (pyIter xv) (SrcU prog w A h₀ L m env elt x x₂ scope cl
      (fun s₂ ys news _ _ => ∀ D h tk, Fr h₀ L h (fun z => if z = y then some (.ref D) else m z) → News h₀ L h ((D, lst ys) :: news) → (∀ p ∈ news, p.1 < D) → Q .next { s₂ with heap := h, toks := tk })) E s₁) E s)
    (hs : ∀ x, foldedSetIterable iter env x = pure x := by intro _; rfl) :
    wpAny (model prog w) A (exec (.Assign [.Name y py] (.ListComp elt [⟨.Tuple [.Name x px, .Name x₂ px₂] tk tp, iter, [], 0⟩] scope pos) spos) env) Q E s := by
  subst hLe
  rw [exec_Assign_Name_used _ _ _ _ hsw]
  refine wpAny_bind (wpAny_standAt (wpAny_bind ?_))
  show wpAny _ A (do let _ ← comprehension (.ListComp elt [⟨.Tuple [.Name x px, .Name x₂ px₂] tk tp, iter, [], 0⟩] scope pos) scope env _ (newList []) false (eval iter env) (some (assign (.Name y py) env))) _ _ s
  refine wpAny_bind (wpAny_mono (wpAny_comprehension_free (use := some (assign (.Name y py) env)) (Q := fun _ s' => Q .next s') rfl hs hclos hkind hnames
    (wpAny_mono h (fun xv s₁ h₁ => wpAny_mono h₁ (fun it s₂ h₂ => ?_) fun _ _ e => e) fun _ _ e => e)) (fun _ s' hq => wpAny_pure (wpAny_pure hq)) fun _ _ e => e)
  obtain ⟨I, fp, wr, n, Pt, St, Mid, news, Y, rfl, W, hsz, hPt, hh, hst, hfp, F, N, hwL, hw₀, off, body, fin⟩ := h₂
  refine blockU W hsz hPt hcell hkind hx hx₂ hxx hh hst hfp F N hwL hw₀ off body ?_
  intro D C h' tk m' ys F' N' o1 hn hC₀ hD₀ hCL hDL hCD offC hlen hY
  show wpAny _ A (assign (.Name y py) env (.ref D)) _ _ _
  refine wpAny_assign_Name (wpAny_storeName_local hy F'.ns (fun h₂ hn₂ hs₂ => ?_) hp)
  have hL₀ : h₀.get? env.locals = none := Heap.get?_none_of_le F'.above
  have F₂ : Fr h₀ env.locals h₂ (fun z => if z = y then some (.ref D) else m z) := ⟨hn₂, fun b o e => hs₂.extBut b o (fun q => by rw [q, hL₀] at e; cases e) (F'.keep b o e), F'.above⟩
  refine ⟨m', hn.sameBut hs₂ hCL, fun h'' hs'' => fin ys hlen hY D h'' _ (F₂.change hs'' hCL hC₀) (fun p hp => ?_) o1⟩
  have z : h₂.get? p.1 = some p.2 := hs₂.extBut _ _ (N' p hp).2.1 (N' p hp).1
  refine ⟨hs''.extBut _ _ ?_ z, (N' p hp).2⟩
  rcases List.mem_cons.mp hp with rfl | hp
  · exact Ne.symm hCD
  · exact offC p hp
/-- zip of two ledger lists -/
theorem zip_U {elt : PySem.Expr} {x x₂ : Str} {scope : Scope} {cl : List (Str × Addr)} {Fin : Shared → List Value → List (Addr × Obj) → Nat → (Nat → Value → Prop) → Prop} {l1 l2 : Addr} {xs ys : List Value} {n1 n2 : Nat} {news : List (Addr × Obj)} (Y : Nat → Value → Prop)
    (hh : A.handled = none) (F : Fr h₀ L s.heap m) (N : News h₀ L s.heap news) (hm1 : (l1, listOf xs.toArray n1) ∈ news) (hm2 : (l2, listOf ys.toArray n2) ∈ news) (hlen : xs.length ≤ 1000)
    (body : ∀ h, BodyU prog w A h₀ L m env elt x x₂ scope cl { s with heap := h } news (min xs.length ys.length) (fun i vals => ∃ x y, xs[i]? = some x ∧ ys[i]? = some y ∧ vals = #[x, y]) Y)
    (fin : ∀ h zs, zs.length = min xs.length ys.length → (∀ i y, zs[i]? = some y → Y i y) → Fin { s with heap := h } zs news (min xs.length ys.length) Y) :
    wpAny (model prog w) A (call (.type "zip") [.ref l1, .ref l2]) (fun xv s₁ => wpAny (model prog w) A (pyIter xv) (SrcU prog w A h₀ L m env elt x x₂ scope cl Fin) E s₁) E s := by
  have hax1 := N _ hm1
  have hax2 := N _ hm2
  have hl1 : s.heap.IsList l1 xs.toArray := ⟨_, hax1.1, rfl, n1, rfl⟩
  have hl2 : s.heap.IsList l2 ys.toArray := ⟨_, hax2.1, rfl, n2, rfl⟩
  have hlt1 : l1 < s.heap.objs.size := Heap.lt_size hax1.1
  have hlt2 : l2 < s.heap.objs.size := Heap.lt_size hax2.1
  have hLs : L < s.heap.objs.size := F.ns.lt
  have D : ZipApart (s.heap.objs.size + 4) (s.heap.objs.size + 2) (s.heap.objs.size + 3) s.heap.objs.size (s.heap.objs.size + 1) l1 l2 := ktu_apart _ _ _ hlt1 hlt2
  refine call_zip_2 hl1 hl2 fun h' hz hTI hTO hi1 hi2 hsz hk => ?_
  refine wpAny_pyIter_zip hz ?_
  have W := (WalksT.zip2 (prog := prog) (w := w) (A := A) hh _ _ _ _ _ _ _ D xs.toArray ys.toArray).toU
  have emin : min xs.toArray.size ys.toArray.size = min xs.length ys.length := by simp
  rw [emin] at W
  have hbig : ∀ b ∈ [s.heap.objs.size + 4, s.heap.objs.size + 3, s.heap.objs.size, s.heap.objs.size + 1], s.heap.objs.size ≤ b := by
    intro b hb
    simp only [List.mem_cons, List.not_mem_nil, or_false] at hb
    rcases hb with rfl | rfl | rfl | rfl
    · exact Nat.le_add_right _ _
    · exact Nat.le_add_right _ _
    · exact Nat.le_refl _
    · exact Nat.le_add_right _ _
  refine ⟨_, _, _, _, _, _, _, news, Y, rfl, W, ?_, ?_, hh, ⟨hz, hTI, ⟨_, _, hTO⟩, hi1, hi2, hl1.at fun o e => hk l1 o e, hl2.at fun o e => hk l2 o e⟩, ?_, F.keeps hk, N.grown hk, ?_, ?_, ?_, ?_, ?_⟩
  · rw [sizeLine_eq]
    have := Nat.min_le_left xs.length ys.length
    omega
  · rintro i vals ⟨a, b, _, _, rfl⟩
    exact ⟨a, b, rfl⟩
  · intro b hb
    show b < h'.objs.size
    rw [hsz]
    simp only [List.mem_cons, List.not_mem_nil, or_false] at hb
    rcases hb with rfl | rfl | rfl | rfl | rfl | e | e
    · exact Nat.lt_of_succ_le (by simp only [Nat.succ_eq_add_one]; omega)
    · exact Nat.lt_of_succ_le (by simp only [Nat.succ_eq_add_one]; omega)
    · exact Nat.lt_of_succ_le (by simp only [Nat.succ_eq_add_one]; omega)
    · exact Nat.lt_of_succ_le (by simp only [Nat.succ_eq_add_one]; omega)
    · exact Nat.lt_of_succ_le (by simp only [Nat.succ_eq_add_one]; omega)
    · rw [e]; exact Nat.lt_of_lt_of_le hlt1 (Nat.le_add_right _ _)
    · rw [e]; exact Nat.lt_of_lt_of_le hlt2 (Nat.le_add_right _ _)
  · intro hm
    exact absurd hLs (Nat.not_lt.mpr (hbig _ hm))
  · intro b hb
    exact ktu_new F (hbig b hb)
  · intro p hp hm
    exact absurd (Heap.lt_size (N p hp).1) (Nat.not_lt.mpr (hbig _ hm))
  · have := body h'
    intro i v₁ v₂ C oC m₂ h tk E' hi hP
    refine this i v₁ v₂ C oC m₂ h tk E' hi ?_
    obtain ⟨a, b, e1, e2, e3⟩ := hP
    exact ⟨a, b, by simpa using e1, by simpa using e2, e3⟩
  · exact fun zs a b => fin h' zs a b
end
end RL
end
theorem RL.off_RLx : True := by
  w_top off
  trivial
section
open PySem PySem.W PyProof.Rows PySem.Calls
set_option maxRecDepth 100000
set_option maxHeartbeats 600000
namespace RL
theorem filledX (w : World) (h : Heap) : (hd.heap_39 w.params).In h → PySem.Challenge.rw_rl0068_01.prog = PySem.Challenge.rw_rl0068_01.prog := by
  k_fill
  exact fun _ => rfl
theorem with_fr {P : Prop} {h₀ h : Heap} {L : Addr} {m : Str → Option Value} (_ : Fr h₀ L h m) (k : ∀ g L', g = h₀ → L' = L → P) : P := k h₀ L rfl rfl
theorem with_obj {P : Prop} {o : Obj} {x : Option Value} (_ : o.data = .cell x) (k : ∀ o', o' = o → P) : P := k o rfl
/-- naturals as ints -/
def toZ (ms : List Nat) : List Int := ms.map fun (d : Nat) => (d : Int)
/-- one box more -/
def figStep (own : List Nat) (p : Nat × Nat) : List Nat := List.zipWith (fun x y => (p.1 - p.2) * x + p.2 * y) (own ++ [0]) (0 :: own)
def figs (bs : List (Nat × Nat)) : List Nat := bs.foldl figStep [1]
/-- the boxes' tuples in a heap -/
def Boxes (h : Heap) : List Value → List (Nat × Nat) → Prop
  | [], [] => True
  | v :: vs, p :: bs => (∃ r t u e, v = .ref r ∧ h.get? r = some (tupOf #[.int (p.1 : Nat) t, .int (p.2 : Nat) u] e)) ∧ Boxes h vs bs
  | _, _ => False
def BoxesAt (l : Addr) (bs : List (Nat × Nat)) (h : Heap) : Prop := ∃ vs e, h.get? l = some (listOf (List.toArray vs) e) ∧ Boxes h vs bs
theorem Boxes.ext {h h' : Heap} : ∀ {vs : List Value} {bs : List (Nat × Nat)}, (∀ b o, h.get? b = some o → h'.get? b = some o) → Boxes h vs bs → Boxes h' vs bs
  | [], [], _, _ => trivial
  | _ :: _, _ :: _, X, ⟨⟨r, t, u, e, hv, hr⟩, B⟩ => ⟨⟨r, t, u, e, hv, X _ _ hr⟩, B.ext X⟩
  | [], _ :: _, _, B => B.elim
  | _ :: _, [], _, B => B.elim
theorem toZ_snoc (ms : List Nat) : toZ ms ++ [0] = toZ (ms ++ [0]) := by simp [toZ]
theorem toZ_cons (ms : List Nat) : [0] ++ toZ ms = toZ (0 :: ms) := by simp [toZ]
theorem intsZ_get : ∀ {vs : List Value} {ms : List Nat} {i : Nat} {v : Value}, IntsAre vs (toZ ms) → vs[i]? = some v → ∃ t, v = .int ((ms.getD i 0 : Nat) : Int) t
  | [], _, _, _, _, e => by simp at e
  | v :: vs, [], _, _, h, _ => nomatch h
  | v :: vs, k :: ms, 0, u, h, e => by
    have e' : v = u := by simpa using e
    subst e'
    cases h with
    | cons _ t _ => exact ⟨t, rfl⟩
  | v :: vs, k :: ms, i + 1, u, h, e => by
    cases h with
    | cons _ t h =>
      have e' : vs[i]? = some u := by simpa using e
      obtain ⟨t, ht⟩ := intsZ_get (ms := ms) h e'
      exact ⟨t, by simpa using ht⟩
theorem intsZ_of : ∀ {vs : List Value} {ms : List Nat}, vs.length = ms.length → (∀ (i : Nat) (y : Value), vs[i]? = some y → ∃ t, y = .int ((ms.getD i 0 : Nat) : Int) t) → IntsAre vs (toZ ms)
  | [], [], _, _ => .nil
  | [], _ :: _, e, _ => by simp at e
  | _ :: _, [], e, _ => by simp at e
  | v :: vs, k :: ms, e, h => by
    obtain ⟨t, ht⟩ := h 0 v (by simp)
    have ht' : v = .int (k : Int) t := by simpa using ht
    rw [ht']
    exact .cons _ t (intsZ_of (by simpa using e) fun i y hy => by simpa using h (i + 1) y (by simpa using hy))
def Yfig (b w : Nat) (xs ys : List Nat) (i : Nat) (y : Value) : Prop := ∃ t : Tok, y = .int (((b - w) * xs.getD i 0 + w * ys.getD i 0 : Nat) : Int) t
theorem yfig_of {b w pa pb i : Nat} {xs ys : List Nat} {t : Tok} (h1 : xs.getD i 0 = pa) (h2 : ys.getD i 0 = pb) : Yfig b w xs ys i (.int (((b - w) * pa + w * pb : Nat) : Int) t) := ⟨t, by rw [h1, h2]⟩
theorem zipGet (f : Nat → Nat → Nat) : ∀ {xs ys : List Nat} {i : Nat}, i < xs.length → i < ys.length → (List.zipWith f xs ys).getD i 0 = f (xs.getD i 0) (ys.getD i 0)
  | [], _, _, h, _ => absurd h (Nat.not_lt_zero _)
  | _ :: _, [], _, _, h => absurd h (Nat.not_lt_zero _)
  | _ :: _, _ :: _, 0, _, _ => rfl
  | x :: xs, y :: ys, i + 1, h1, h2 => by
    have := zipGet f (xs := xs) (ys := ys) (i := i) (by simpa using h1) (by simpa using h2)
    simpa using this
theorem figStep_length (own : List Nat) (p : Nat × Nat) : (figStep own p).length = own.length + 1 := by simp [figStep]
theorem figs_ints {b w : Nat} {own : List Nat} {zs : List Value} (hl : zs.length = own.length + 1) (hY : ∀ (i : Nat) (y : Value), zs[i]? = some y → Yfig b w (own ++ [0]) (0 :: own) i y) : IntsAre zs (toZ (figStep own (b, w))) := by
  refine intsZ_of (by rw [figStep_length]; exact hl) fun i y hy => ?_
  obtain ⟨t, ht⟩ := hY i y hy
  have hi : i < zs.length := by
    rcases Nat.lt_or_ge i zs.length with h | h
    · exact h
    · rw [List.getElem?_eq_none h] at hy; exact nomatch hy
  refine ⟨t, ?_⟩
  rw [ht, figStep, zipGet _ (by simp; omega) (by simp; omega)]
section
variable {prog : Program} {w : World} {A : Around} {E : Value → Shared → Prop} {s : Shared} {env : Env} {h₀ : Heap} {target : Expr} {body : List Stmt} {Q : Flow → Shared → Prop}
theorem iter_listG {ax : Addr} {vs : List Value} {n : Nat} {m₀ : Str → Option Value} {news : List (Addr × Obj)}
    (hh : A.handled = none) (F : Fr h₀ env.locals s.heap m₀) (N : News h₀ env.locals s.heap news) (hg : h₀.get? ax = some (listOf vs.toArray n))
    (rest₀ : ∀ I : Addr, (∀ p ∈ news, p.1 < I) → ItemsRest prog w A E h₀ env target body Q s [(I, "list_iterator")] [] (vs.map .val) m₀ news) :
    wpAny (model prog w) A (pyIter (.ref ax)) (fun it s₂ => TurnsAt prog w A h₀ env target body Q E it s₂) E s := by
  have hax : s.heap.get? ax = some (listOf vs.toArray n) := F.keep _ _ hg
  have hl : s.heap.IsList ax vs.toArray := ⟨_, hax, rfl, n, rfl⟩
  have hlt : ax < s.heap.objs.size := Heap.lt_size hax
  have hne : ax ≠ s.heap.objs.size := Nat.ne_of_lt hlt
  refine wpAny_pyIter_list hl ?_
  refine ktg_core (tk0 := s.toks) (keep := []) (KTurns.ofWalks (Walks.list hh s.heap.objs.size ax hne vs.toArray) fun i v s Q E st q => letGo_listiter st.1 q) (by simp) (fun i v h hp => ⟨.val v, ?_, rfl⟩) (fun i h st => ?_) (fun b hb => ?_) (fun b hb => by simpa using hb) (fun b hb => ?_) ?_ (fun p hp hI => ?_) ?_ (F.push _) (fun p hp => ⟨Heap.get?_push_of_some _ (N p hp).1, (N p hp).2⟩) trivial (rest₀ _ fun p hp => Heap.lt_size (N p hp).1)
  · have hp' : vs.toArray[i]? = some v := hp
    simpa using hp'
  · obtain ⟨it, hit, hic, _⟩ := st.1
    exact ⟨[(s.heap.objs.size, it)], ⟨⟨rfl, hic⟩, trivial⟩, fun p hp => by rw [List.mem_singleton.mp hp]; exact hit⟩
  · have hb' : b = s.heap.objs.size := by simpa using hb
    rw [hb']
    exact ⟨List.mem_cons_self .., next_is_new F⟩
  · have hb' : b = s.heap.objs.size ∨ b = ax := by simpa using hb
    rcases hb' with e | e
    · exact .inl (by simp [e])
    · exact .inr (.inr ⟨_, by rw [e]; exact hg⟩)
  · intro hI
    rcases List.mem_cons.mp hI with e | hI
    · exact absurd F.ns.lt (e ▸ Nat.lt_irrefl _)
    · have e : env.locals = ax := List.mem_singleton.mp hI
      exact absurd (Heap.lt_size hg) (Nat.not_lt.mpr (e ▸ F.above))
  · exact absurd (Heap.lt_size (N p hp).1) ((List.mem_singleton.mp hI) ▸ Nat.lt_irrefl _)
  · exact ⟨⟨_, Heap.get?_push_size _ rfl, rfl, rfl⟩, hl.push _⟩
theorem items_ind {ws : List (Addr × String)} {keep : List (Addr × Obj)} (C : List Value → (Str → Option Value) → List (Addr × Obj) → Prop)
    (h0 : ∀ m news, C [] m news → ItemsRest prog w A E h₀ env target body Q s ws keep [] m news)
    (hs : ∀ v rv m news, (∀ m' n', C rv m' n' → ItemsRest prog w A E h₀ env target body Q s ws keep (rv.map .val) m' n') → C (v :: rv) m news → ItemsRest prog w A E h₀ env target body Q s ws keep (.val v :: rv.map .val) m news) :
    ∀ rv m news, C rv m news → ItemsRest prog w A E h₀ env target body Q s ws keep (rv.map .val) m news := by
  intro rv
  induction rv with
  | nil => exact h0
  | cons v rv ih => exact fun m news hc => hs v rv m news ih hc
theorem mulNl {a b : Nat} {t u : Tok} {Q : Value → Shared → Prop} (ha : a < 2 ^ 64) (h : Q (.int ((a * b : Nat) : Int) s.toks) { s with toks := s.toks + 1 }) : wpAny (model prog w) A (binaryOp .Mult (.int (a : Int) t) (.int (b : Int) u)) Q E s :=
  mul_int (by rw [← Int.natCast_mul]; exact h) (IntMulOk.of_left (intBits_le (by omega)))
theorem unpackG {L : Addr} {m : Str → Option Value} {news : List (Addr × Obj)} {elts : List Expr} {k} {pos : Pos} {t : Addr} {items : Array Value} {n : Nat} {Q : Unit → Shared → Prop} (F : Fr h₀ L s.heap m) (N : News h₀ L s.heap news) (hg : h₀.get? t = some (tupOf items n))
    (hh : A.handled = none) (hn : (assignEach elts env).length = items.size) (hstar : (assignEach elts env).findIdx? (·.1) = none)
    (h : ∀ h', Fr h₀ L h' m → News h₀ L h' news → wpAny (model prog w) A (assignInOrder ((assignEach elts env).map (·.2)) items.toList) Q E { s with heap := h' }) :
    wpAny (model prog w) A (assign (.Tuple elts k pos) env (.ref t)) Q E s :=
  unpackN_ F N ⟨_, F.keep _ _ hg, rfl, n, rfl⟩ hh hn hstar h
end
section
local macro_rules | `(tactic| walk_at "exec For Tuple Name cons nil") => `(tactic| (k_dflt (refine' For_turns ?fF ?_; (case fF => k_asm)); k_whole))
local macro_rules | `(tactic| walk_at "pyIter ref") => `(tactic| ((with_reducible show wpAny _ _ (pyIter (Value.ref _)) (fun it s₂ => TurnsAt _ _ _ _ _ _ _ _ _ it s₂) _ _); refine Hold.of ?_))
local macro_rules | `(tactic| walk_at "assign Tuple") => `(tactic| ((with_reducible show wpAny _ _ (assign (Expr.Tuple _ _ _) _ (Value.ref _)) _ _ _); k_dflt (refine' unpackG ?uF ?uN ?ug ?u1 ?u2 ?u3 ?_; (case uF => k_asm); (case uN => k_asm); (case ug => assumption); (case u1 => exact rfl); (case u2 => exact rfl); (case u3 => exact rfl)); intro h' F' N'))
local macro_rules | `(tactic| walk_at $k:str) => if ["exec Assign cons ListComp", "call type:zip"].contains k.getString then `(tactic| (refine Hold.of ?_)) else Lean.Macro.throwUnsupported
local macro_rules | `(tactic| walk_at "exec Assign") => `(tactic| ((with_reducible show wpAny _ _ (exec (Stmt.Assign _ (Expr.ListComp _ _ _ _) _) _) _ _ _); refine Hold.of ?_))
local macro_rules | `(tactic| walk_at "binaryOp Mult int int") => `(tactic| (k_dflt (refine' mulNl ?hb ?_; (case hb => omega))))
local macro_rules | `(tactic| walk_at "eval Name") => `(tactic| (k_dflt (refine' nameX_L ?F ?v ?_ ?a ?b; (case F => k_asm); (case a => rfl); (case b => rfl); (case v => assumption); k_whole)))
local macro_rules | `(tactic| walk_at "binaryOp Sub int int") => `(tactic| ((with_reducible refine subN ?hle ?_); (case hle => omega)))
local macro_rules | `(tactic| walk_at "binaryOp Add int int") => `(tactic| (with_reducible refine addN ?_))
theorem figures_spec {w : World} {l : Addr} {bs : List (Nat × Nat)} (hb : ∀ p ∈ bs, p.2 ≤ p.1 ∧ p.1 ≤ 4) (hlen : bs.length ≤ 4) :
    HSpec w 320 100 124 [.ref l] (BoxesAt l bs) (ListPost (toZ (figs bs))) := by
  intro p loose mean mg mb A₀ env outer base h₀ L m s Q E B F X T hf hk hl ret
  obtain ⟨vs, e, g0, gb⟩ := hl
  revert X
  k_fill
  intro X
  refine wpAny_call ?_
  k_dflt (refine' callC (kp := []) ?k1 ?k2 ?k3 ?k4 ?k5 ?kA ?kF ?kK ?k6 ?k7 ?k8 ?k9 ?kB ?kD ?_ ?c2 ?c3 ?c4; (case kA => exact rfl); (case kF => assumption); (case kK => assumption); (case k1 => k_asm); (case k2 => k_asm); (case k3 => k_asm); (case k4 => exact News.nil); (case k5 => k_asm); (case k6 => k_is); (case k7 => k_is); (case k8 => k_room); (case k9 => first | exact BindsTo.of_eq rfl | exact binds_K (by k_in) rfl (by k_is) rfl rfl rfl); (case kB => exact rfl); (case kD => decide +kernel); (case c2 => exact rfl); (case c3 => exact rfl); (case c4 => exact rfl); k_whole; intro g' L' h' tk' cells' G' FG' F' N' Y' B' X' T' l1; (try k_lt l1); k_cells Y'; (try simp only [List.cons_append, List.nil_append] at N'); (try dsimp only); (try k_fold))
  rename Grd _ _ _ => G1
  have y0 := G1 _ _ g0 (by simp)
  have yb := gb.ext (fun b o e => G1 b o e (by simp))
  k_steps
  rename Below _ _ _ _ => B1
  rename Fr _ _ _ _ => F1
  rename News _ _ _ _ => N1
  rename Frag.In _ _ => X1
  rename Top _ _ _ _ _ _ => T1
  refine with_fr F1 fun gg LL eg eL => ?_
  subst eg
  subst eL
  refine' iter_listG (vs := vs) (n := e) ?ih F1 N1 y0 ?_
  (case ih => with_unfolding_all rfl)
  intro I lI
  k_lt lI
  refine items_ind (C := fun rv m news => ∃ rb own D ovs e oW oB xW xB, Boxes gg rv rb ∧ rb.foldl figStep own = figs bs ∧ own.length + rb.length ≤ 5 ∧ (∀ p ∈ rb, p.2 ≤ p.1 ∧ p.1 ≤ 4) ∧ m (Str.ofString "own") = some (.ref D) ∧ IntsAre ovs (toZ own) ∧
    news = [(D, listOf (List.toArray ovs) e), (LL + 1 + 1, oW), (LL + 1, oB)] ∧ @LT.lt Nat _ (LL + 1 + 1) D ∧ @LT.lt Nat _ (LL + 1) D ∧ oW.data = .cell xW ∧ oB.data = .cell xB) ?_ ?_ _ _ _ ?_
  · rintro m1 news1 ⟨rb, own, D, ovs, e1, oW, oB, xW, xB, i1, i2, i3, i4, i5, i6, rfl, i7, i8, i9, i10⟩
    refine ItemsRest.zero fun h9 tk9 F9 N9 => ?_
    replace F9 : Fr gg LL h9 m1 := F9
    replace N9 : News gg LL h9 _ := N9
    clear F1 N1
    k_steps
    cases rb with
    | cons _ _ => exact i1.elim
    | nil =>
      have i2' : own = figs bs := i2
      subst i2'
      have N8 := ‹News _ _ _ _›
      have F8 := ‹Fr _ _ _ _›
      exact ret _ _ _ (ext_of G1 (by assumption)) ⟨D, ovs, e1, rfl, fresh_of (o := listOf ovs.toArray e1) G1 N9 (by k_mem), News.get N9 (by k_mem), i6⟩
  · rintro v rv m1 news1 ih ⟨rb, own, D, ovs, e1, oW, oB, xW, xB, i1, i2, i3, i4, i5, i6, rfl, i7, i8, i9, i10⟩
    cases rb with
    | nil => exact i1.elim
    | cons pb rb =>
      obtain ⟨⟨r, t, u, er, rfl, hr⟩, i1⟩ := i1
      clear F1 N1
      refine ItemsRest.val fun h9 tk9 F9 => AllObj.cons fun oi hoi => AllObj.nil fun N9 => ?_
      replace F9 : Fr gg LL h9 m1 := F9
      replace N9 : News gg LL h9 _ := N9
      simp only [List.cons_append, List.nil_append] at N9
      obtain ⟨b, w'⟩ := pb
      have hbw := i4 (b, w') List.mem_cons_self
      have hlo : (toZ own).length = own.length := by simp [toZ]
      have hlo' : own.length ≤ 4 := by simp only [List.length_cons] at i3; omega
      dsimp only at hr hbw
      k_steps
      refine' Assign_ListComp_V ?q0 ?q1 ?q2 ?q3 ?q4 ?q5 ?q6 ?q7 ?q8 ?q9 ?q10 ?q11 ?_
      case q0 => k_asm
      case q1 => exact rfl
      case q2 => with_unfolding_all rfl
      case q3 => with_unfolding_all rfl
      case q4 => decide
      case q5 => rfl
      case q6 => decide
      case q7 => rfl
      case q8 => rfl
      case q9 => decide
      case q10 => rfl
      case q11 => rfl
      k_steps
      rename IntsAre _ (toZ own ++ [0]) => I1
      rename IntsAre _ ([0] ++ toZ own) => I2
      rw [toZ_snoc] at I1
      rw [toZ_cons] at I2
      have J1 : _ = own.length + 1 := (IntsAre.length I1).trans (by simp [toZ])
      have J2 : _ = own.length + 1 := (IntsAre.length I2).trans (by simp [toZ])
      refine' zip_U (Yfig b w' (own ++ [0]) (0 :: own)) ?zh ?zF ?zN ?zm1 ?zm2 ?zl ?zb ?zf
      case zh => with_unfolding_all rfl
      case zF => k_asm
      case zN => k_asm
      case zm1 => k_mem
      case zm2 => k_mem
      case zl => rw [J1]; omega
      case zb =>
        intro hz i v1 v2 C oC m2 h tk E' hi hP hoC hx1 hx2 F5 N5 lt5
        obtain ⟨pa, pb, j1, j2, j3⟩ := hP
        obtain ⟨ta, rfl⟩ := intsZ_get I1 j1
        obtain ⟨tb, rfl⟩ := intsZ_get I2 j2
        have c1 := List.cons.inj (congrArg Array.toList j3)
        have k1 := c1.1
        have k2 := (List.cons.inj c1.2).1
        clear c1
        subst k1
        subst k2
        clear j1 j2 j3
        generalize hpa : (own ++ [0]).getD i 0 = pa at hx1
        generalize hpb : (0 :: own).getD i 0 = pb at hx2
        k_steps
        · exact fun _ _ e => e
        · exact yfig_of hpa hpb
      intro hz zs hlen hY D5 h5 tk5 F5 N5 lt5
      rw [J1, J2, Nat.min_self] at hlen
      have I3 := figs_ints hlen hY
      k_lt lt5
      dsimp only
      k_steps
      rename _ = Data.cell (some (Value.int (w' : Int) u)) => dW
      rename _ = Data.cell (some (Value.int (b : Int) t)) => dB
      refine with_obj dW fun oW1 eW => ?_
      subst eW
      refine with_obj dB fun oB1 eB => ?_
      subst eB
      refine UnrEndW.intro (L := LL) F5 N5 [(D5, listOf zs.toArray zs.length), (LL + 1 + 1, oW1), (LL + 1, oB1)] (by k_subL) (by k_subL) ⟨⟨.inl (by k_ne), trivial⟩, ⟨.inl (by k_ne), trivial⟩, ⟨.inl (by k_ne), trivial⟩, trivial⟩ ⟨trivial, ?_⟩
      exact ih _ _ ⟨rb, figStep own (b, w'), D5, zs, _, oW1, oB1, _, _, i1, i2, by rw [figStep_length]; simp only [List.length_cons] at i3; omega, fun q hq => i4 q (List.mem_cons_of_mem _ hq), rfl, I3, rfl, lt5.2.2.2.2.2.2.1, lt5.2.2.2.2.2.2.2, dW, dB⟩
  · refine ⟨bs, [1], _, _, 0, _, _, _, _, yb, rfl, by simp; omega, hb, rfl, .cons _ _ .nil, rfl, ?_, ?_, by assumption, by assumption⟩
    · exact (And.left (by assumption))
    · exact (And.right (by assumption))
end
end RL
end
theorem RL.off_RLp : True := by
  w_top off
  trivial
section
open PySem PySem.W PyProof.Rows PySem.Calls
set_option maxRecDepth 100000
set_option maxHeartbeats 400000
namespace RL
theorem news_four2 {h₀ h : Heap} {L x1 x2 : Addr} {o1 o2 p1 p2 : Obj} (N : News h₀ L h [(x1, o1), (x2, o2), (65, p2), (58, p1)]) : News h₀ L h [(x1, o1), (x2, o2), (65, p2), (58, p1), (58, p1), (65, p2)] := fun q hq => N q (by
  simp only [List.mem_cons, List.not_mem_nil, or_false] at hq ⊢
  rcases hq with e | e | e | e | e | e <;> simp [e])
theorem figs_length (bs : List (Nat × Nat)) : (figs bs).length = bs.length + 1 := by
  have h : ∀ (bs : List (Nat × Nat)) (o : List Nat), (bs.foldl figStep o).length = o.length + bs.length := by
    intro bs
    induction bs with
    | nil => intro o; rfl
    | cons p bs ih => intro o; rw [List.foldl_cons, ih, figStep_length, List.length_cons]; omega
  unfold figs
  rw [h]; simp; omega
theorem i2d_len' {a : Nat} (ha : a < 2 ^ 60) : (i2d a 9).length ≤ 60 := by
  unfold i2d
  rw [digitsOf_length]
  exact i2d_len ha (by omega)
theorem boxes_grd {h g : Heap} {o1 o2 : Obj} {t1 t2 : Array Value} (G : Grd h g [(65, o2), (58, o1)]) (g1 : h.get? 58 = some (tabObj t1)) (g2 : h.get? 65 = some (tabObj t2)) : ∀ {vs : List Value} {bs : List (Nat × Nat)}, Boxes h vs bs → Boxes g vs bs
  | [], [], _ => trivial
  | _ :: _, _ :: _, ⟨⟨r, t, u, e, hv, hr⟩, B⟩ => ⟨⟨r, t, u, e, hv, G _ _ hr (by simp [ne_data hr g1 nofun, ne_data hr g2 nofun])⟩, boxes_grd G g1 g2 B⟩
  | [], _ :: _, B => B.elim
  | _ :: _, [], B => B.elim
def Nq (a b : Nat) : Prop := a ≠ b
theorem Nq.ne {a b : Nat} (h : Nq a b) : a ≠ b := h
def NqL (r : Nat) : List (Addr × Obj) → Prop
  | [] => True
  | p :: l => Nq p.1 r ∧ NqL r l
theorem AllNe.nq {r : Addr} : ∀ {l : List (Addr × Obj)}, AllNe r l → NqL r l
  | [], _ => trivial
  | _ :: _, h => ⟨h.1, AllNe.nq h.2⟩
theorem NqL.all {r : Addr} : ∀ {l : List (Addr × Obj)}, NqL r l → AllNe r l
  | [], _ => trivial
  | _ :: _, h => ⟨h.1, NqL.all h.2⟩
def ApQ (r : List (Addr × Obj)) : List (Addr × Obj) → Prop
  | [] => True
  | p :: l => NqL p.1 r ∧ ApQ r l
theorem Apart.nq {r : List (Addr × Obj)} : ∀ {l : List (Addr × Obj)}, Apart r l → ApQ r l
  | [], _ => trivial
  | _ :: _, h => ⟨h.1.nq, Apart.nq h.2⟩
def rngObj (n : Int) (t u v : Tok) : Obj := { cls := .type "range", data := .fields #[.int 0 t, .int n u, .int 1 v] }
theorem noC_rng {n : Int} {t u v : Tok} : NoC1 (rngObj n t u v) := fun vs qs tk hd => by
  have e : #[Value.int 0 t, .int n u, .int 1 v] = vs := Data.fields.inj hd
  subst e
  exact nofun
section
variable {prog : Program} {w : World} {A : Around} {E : Value → Shared → Prop} {s : Shared} {env : Env} {h₀ : Heap} {x : Str} {body : List Stmt}
theorem rangeN {L : Addr} {m : Str → Option Value} {news : List (Addr × Obj)} {n : Int} {t : Tok} {Q : Value → Shared → Prop} (F : Fr h₀ L s.heap m) (N : News h₀ L s.heap news)
    (h : ∀ R h' t u v tk', Fr h₀ L h' m → News h₀ L h' ((R, rngObj n t u v) :: news) → (∀ q ∈ news, q.1 < R) → Q (.ref R) { s with heap := h', toks := tk' }) :
    wpAny (model prog w) A (call (.type "range") [.int n t]) Q E s := by
  refine call_range_1 (h _ _ s.toks t (s.toks + 1) _ (F.push _) (fun p hp => ?_) fun q hq => Heap.lt_size (N q hq).1)
  rcases List.mem_cons.mp hp with rfl | hp
  · exact ⟨Heap.get?_push_size _ rfl, Ne.symm (Nat.ne_of_lt F.ns.lt), next_is_new F⟩
  · exact ⟨Heap.get?_push_of_some _ (N p hp).1, (N p hp).2⟩
theorem range_ind {Q : Flow → Shared → Prop} {I : Addr} {a : Int} {n : Nat} (C : Nat → (Str → Option Value) → List (Addr × Obj) → Prop)
    (h0 : ∀ m news, C n m news → RangeRest prog w A E h₀ env x body Q s I a n 0 n m news)
    (hs : ∀ k i m news, i + (k + 1) = n → (∀ m' n', C (i + 1) m' n' → RangeRest prog w A E h₀ env x body Q s I a n k (i + 1) m' n') → C i m news → RangeRest prog w A E h₀ env x body Q s I a n (k + 1) i m news) :
    ∀ m news, C 0 m news → RangeRest prog w A E h₀ env x body Q s I a n n 0 m news := by
  have key : ∀ k i m news, i + k = n → C i m news → RangeRest prog w A E h₀ env x body Q s I a n k i m news := by
    intro k
    induction k with
    | zero =>
      intro i m news hi hc
      have e : i = n := by omega
      subst e
      exact h0 m news hc
    | succ k ih => exact fun i m news hi hc => hs k i m news hi (fun m' n' hc' => ih (i + 1) m' n' (by omega) hc') hc
  exact fun m news hc => key n 0 m news (by omega) hc
end
def rowOf (os : List Nat) : Nat → List Nat
  | 0 => []
  | k + 1 => List.replicate (os.getD k 0) k ++ rowOf os k
theorem toZ_row (os : List Nat) (k : Nat) : List.replicate (os.getD k 0) (k : Int) ++ toZ (rowOf os k) = toZ (rowOf os (k + 1)) := by simp [toZ, rowOf]
theorem toZ_length (ms : List Nat) : (toZ ms).length = ms.length := by simp [toZ]
theorem getD_le_sum : ∀ (os : List Nat) (k : Nat), os.getD k 0 ≤ os.sum
  | [], k => by simp
  | x :: os, 0 => by simp
  | x :: os, k + 1 => by
    have := getD_le_sum os k
    simp only [List.getD_cons_succ, List.sum_cons]; omega
theorem getD_add_sum : ∀ (os : List Nat) (k : Nat), (os.take k).sum + os.getD k 0 = (os.take (k + 1)).sum
  | [], k => by simp
  | x :: os, 0 => by simp
  | x :: os, k + 1 => by
    have := getD_add_sum os k
    simp only [List.getD_cons_succ, List.take_succ_cons, List.sum_cons]; omega
theorem rowOf_length (os : List Nat) : ∀ k, (rowOf os k).length = (os.take k).sum
  | 0 => by simp [rowOf]
  | k + 1 => by rw [rowOf, List.length_append, List.length_replicate, rowOf_length os k, ← getD_add_sum]; omega
theorem take_le_sum : ∀ (os : List Nat) (k : Nat), (os.take k).sum ≤ os.sum
  | [], k => by simp
  | x :: os, 0 => by simp
  | x :: os, k + 1 => by
    have := take_le_sum os k
    simp only [List.take_succ_cons, List.sum_cons]; omega
theorem rowOf_le (os : List Nat) (k : Nat) : (rowOf os k).length ≤ os.sum := by rw [rowOf_length]; exact take_le_sum os k
theorem toZ_getD (os : List Nat) (i : Nat) : (toZ os).getD ((i : Int)).toNat 0 = ((os.getD i 0 : Nat) : Int) := by
  simp only [toZ, Int.toNat_natCast, List.getD_eq_getElem?_getD, List.getElem?_map]
  cases os[i]? <;> rfl
theorem rowStep_le (os : List Nat) (i : Nat) : os.getD i 0 + (rowOf os i).length ≤ os.sum := by
  have := rowOf_le os (i + 1)
  rw [rowOf, List.length_append, List.length_replicate] at this
  exact this
theorem with_loop {P : Prop} {h₀ h : Heap} {L D0 R0 ow c1 c2 : Addr} {x1 x2 x3 x4 : Addr × Obj} {oO0 oR0 oo p1 p2 : Obj} {a b : Addr × Obj} {n : Int} {t0 u0 v0 : Tok} {e : Nat} (N : News h₀ L h [(D0, listOf #[] e), (R0, rngObj n t0 u0 v0), x1, x2, x3, (ow, oo), x4, (c2, oR0), (c1, oO0), (65, p2), (58, p1), a, b])
    (k : ∀ D R oR oO t u v, D = D0 → R = R0 → oR = oR0 → oO = oO0 → t = t0 → u = u0 → v = v0 → News h₀ L h [(D, listOf #[] e), (R, rngObj n t u v), (ow, oo), (c2, oR), (c1, oO), (65, p2), (58, p1), a, b] → P) : P :=
  k _ _ _ _ _ _ _ rfl rfl rfl rfl rfl rfl rfl (News.sub N (fun q hq => by
    simp only [List.mem_cons, List.not_mem_nil, or_false] at hq ⊢
    rcases hq with e | e | e | e | e | e | e | e | e <;> simp [e]))
theorem rowOf_lt (os : List Nat) : ∀ k, ∀ x ∈ rowOf os k, x < k
  | 0, x, h => by simp [rowOf] at h
  | k + 1, x, h => by
    rw [rowOf] at h
    rcases List.mem_append.mp h with h | h
    · rw [List.eq_of_mem_replicate h]; omega
    · have := rowOf_lt os k x h; omega
theorem rowOf_pw (os : List Nat) : ∀ k, (rowOf os k).Pairwise (fun a b => b ≤ a)
  | 0 => .nil
  | k + 1 => by
    rw [rowOf, List.pairwise_append]
    refine ⟨List.pairwise_replicate.mpr (.inr (Nat.le_refl _)), rowOf_pw os k, fun a ha b hb => ?_⟩
    rw [List.eq_of_mem_replicate ha]
    exact Nat.le_of_lt (rowOf_lt os k b hb)
theorem toZ_get (ms : List Nat) (i : Nat) : (toZ ms).getD i 0 = ((ms.getD i 0 : Nat) : Int) := by
  simp only [toZ, List.getD_eq_getElem?_getD, List.getElem?_map]
  cases ms[i]? <;> rfl
theorem pw_get {ms : List Nat} (h : ms.Pairwise (fun a b => b ≤ a)) {i j : Nat} (hij : i ≤ j) (hj : j < ms.length) : ms.getD j 0 ≤ ms.getD i 0 := by
  rcases Nat.lt_or_eq_of_le hij with h1 | h1
  · have := List.pairwise_iff_getElem.mp h i j (by omega) hj h1
    simp only [List.getD_eq_getElem?_getD, List.getElem?_eq_getElem hj, List.getElem?_eq_getElem (show i < ms.length by omega), Option.getD_some]
    exact this
  · rw [h1]; exact Nat.le_refl _
theorem veeL_row {ms : List Nat} (h : ms.Pairwise (fun a b => b ≤ a)) : VeeL (toZ ms) := by
  refine ⟨ms.length, by rw [toZ_length]; exact Nat.le_refl _, fun i j hij hj => ?_, fun i j _ h1 h2 => ?_⟩
  · rw [toZ_get, toZ_get]
    have := pw_get h hij hj
    omega
  · rw [toZ_length] at h2; omega
theorem veeL_rot {x : Nat} {ms : List Nat} (h : (x :: ms).Pairwise (fun a b => b ≤ a)) : VeeL (toZ (ms ++ [x])) := by
  have h2 := (List.pairwise_cons.mp h).2
  have h1 := (List.pairwise_cons.mp h).1
  refine ⟨ms.length, by rw [toZ_length]; simp, fun i j hij hj => ?_, fun i j hij h3 h4 => ?_⟩
  · rw [toZ_get, toZ_get]
    have := pw_get h2 hij hj
    simp only [List.getD_eq_getElem?_getD, List.getElem?_append_left hj, List.getElem?_append_left (show i < ms.length by omega)] at this ⊢
    omega
  · rw [toZ_length, List.length_append, List.length_singleton] at h4
    have hj : j = ms.length := by omega
    subst hj
    rw [toZ_get, toZ_get]
    have e : (ms ++ [x]).getD ms.length 0 = x := by simp [List.getD_eq_getElem?_getD]
    rw [e]
    rcases Nat.lt_or_ge i ms.length with q | q
    · have e2 : (ms ++ [x]).getD i 0 = ms[i] := by simp [List.getD_eq_getElem?_getD, List.getElem?_append_left q, List.getElem?_eq_getElem q]
      rw [e2]
      have := h1 _ (List.getElem_mem q)
      omega
    · have : i = ms.length := by omega
      rw [this, e]; exact Int.le_refl _
/-- the sorted form of a falling row -/
theorem sorted_row {ms : List Nat} {ns : List Int} (h : ms.Pairwise (fun a b => b ≤ a)) (hp : ns.Perm (toZ ms)) (hs : ns.Pairwise (· ≤ ·)) : ns = toZ ms.reverse := by
  refine lks_uniq (hp.trans ?_) hs ?_
  · unfold toZ; exact (List.reverse_perm ms).symm.map _
  · unfold toZ
    rw [List.pairwise_map, List.pairwise_reverse]
    exact h.imp fun q => by omega
theorem rot_row {row : List Nat} (h : 0 < (toZ row).length) : ∃ x ms, row = x :: ms ∧ List.drop 1 (toZ row) ++ List.take 1 (toZ row) = toZ (ms ++ [x]) := by
  cases row with
  | nil => simp [toZ] at h
  | cons x ms => exact ⟨x, ms, rfl, by simp [toZ]⟩
theorem sorted_rot {x : Nat} {ms : List Nat} {ns : List Int} (h : (x :: ms).Pairwise (fun a b => b ≤ a)) (hp : ns.Perm (toZ (ms ++ [x]))) (hs : ns.Pairwise (· ≤ ·)) : ns = toZ (x :: ms).reverse := by
  refine sorted_row h (hp.trans ?_) hs
  unfold toZ
  exact List.Perm.map _ (List.perm_append_singleton x ms)
end RL
end
theorem RL.off_RLq : True := by
  w_top off
  trivial
section
open PySem PySem.W PyProof.Rows PySem.Calls PyProof.Rows.LCg PyProof.Rows.LCp
set_option maxRecDepth 100000
set_option maxHeartbeats 400000
namespace RL
def tw (bs : List (Nat × Nat)) : Nat := (bs.map fun p => 12 / p.1 * p.2).sum
theorem boxes_funs {h : Heap} : ∀ {vs : List Value} {bs : List (Nat × Nat)}, Boxes h vs bs → vs.length = bs.length ∧ ∃ (Ts : Nat → Addr) (vals : Nat → Array Value), ∀ j, j < vs.length → vs[j]? = some (.ref (Ts j)) ∧ h.IsTuple (Ts j) (vals j) ∧ ∃ t u, vals j = #[.int ((bs.getD j (0, 0)).1 : Nat) t, .int ((bs.getD j (0, 0)).2 : Nat) u]
  | [], [], _ => ⟨rfl, fun _ => 0, fun _ => #[], fun j hj => by simp at hj⟩
  | v :: vs, p :: bs, ⟨⟨r, t, u, e, hv, hr⟩, B⟩ => by
    obtain ⟨hl, Ts, vals, k⟩ := boxes_funs B
    refine ⟨by simp [hl], fun j => match j with | 0 => r | j + 1 => Ts j, fun j => match j with | 0 => #[.int (p.1 : Nat) t, .int (p.2 : Nat) u] | j + 1 => vals j, fun j hj => ?_⟩
    cases j with
    | zero => exact ⟨by simp [hv], ⟨_, hr, rfl, _, rfl⟩, t, u, rfl⟩
    | succ j =>
      have := k j (by simpa using hj)
      simpa using this
  | [], _ :: _, B => B.elim
  | _ :: _, [], B => B.elim
section
variable {prog : Program} {w : World} {A : Around} {E : Value → Shared → Prop} {s : Shared} {h₀ : Heap} {L : Addr} {m : Str → Option Value} {env : Env}
/-- a pair comprehension's source: a list of pairs -/
theorem list_U {elt : PySem.Expr} {x x₂ : Str} {scope : Scope} {cl : List (Str × Addr)} {Fin : Shared → List Value → List (Addr × Obj) → Nat → (Nat → Value → Prop) → Prop} {l : Addr} {vs : List Value} {bs : List (Nat × Nat)} {n1 : Nat} {news : List (Addr × Obj)} (Y : Nat → Value → Prop)
    (hh : A.handled = none) (F : Fr h₀ L s.heap m) (N : News h₀ L s.heap news) (hl : s.heap.get? l = some (listOf vs.toArray n1)) (hB : Boxes s.heap vs bs) (hlen : bs.length ≤ 1000)
    (body : ∀ h, BodyU prog w A h₀ L m env elt x x₂ scope cl { s with heap := h } news bs.length (fun i vals => ∃ t u, vals = #[.int ((bs.getD i (0, 0)).1 : Nat) t, .int ((bs.getD i (0, 0)).2 : Nat) u]) Y)
    (fin : ∀ h zs, zs.length = bs.length → (∀ i y, zs[i]? = some y → Y i y) → Fin { s with heap := h } zs news bs.length Y) :
    wpAny (model prog w) A (pyIter (.ref l)) (SrcU prog w A h₀ L m env elt x x₂ scope cl Fin) E s := by
  obtain ⟨hvl, Ts, vals₀, hv₀⟩ := boxes_funs hB
  obtain ⟨vals, hv, hpair⟩ : ∃ vals : Nat → Array Value, (∀ j, j < vs.length → vs[j]? = some (.ref (Ts j)) ∧ s.heap.IsTuple (Ts j) (vals j) ∧ ∃ t u, vals j = #[.int ((bs.getD j (0, 0)).1 : Nat) t, .int ((bs.getD j (0, 0)).2 : Nat) u]) ∧ ∀ j, ∃ v₁ v₂, vals j = #[v₁, v₂] := by
    refine ⟨fun j => if j < vs.length then vals₀ j else #[.none, .none], fun j hj => ?_, fun j => ?_⟩
    · have := hv₀ j hj
      simpa [hj] using this
    · by_cases hj : j < vs.length
      · obtain ⟨_, _, t, u, e⟩ := hv₀ j hj
        exact ⟨_, _, by simp only [hj, if_true]; exact e⟩
      · exact ⟨.none, .none, by simp [hj]⟩
  have hli : s.heap.IsList l vs.toArray := ⟨_, hl, rfl, n1, rfl⟩
  have hlt : l < s.heap.objs.size := Heap.lt_size hl
  have hTlt : ∀ j, j < vs.length → Ts j < s.heap.objs.size := fun j hj => by
    obtain ⟨_, ⟨o, ho, _⟩, _⟩ := hv j hj
    exact Heap.lt_size ho
  refine wpAny_pyIter_list hli ?_
  have up : ∀ b o, s.heap.get? b = some o → (s.heap.push { cls := .type "list_iterator", data := .fields #[.ref l, .int 0 0] }).get? b = some o := fun b o e => Heap.get?_push_of_some _ e
  have W := WalksU.listOfTuples (prog := prog) (w := w) (A := A) hh s.heap.objs.size l (Nat.ne_of_lt hlt) vs.toArray Ts vals (fun j hj => by
    have hj' : j < vs.length := by simpa using hj
    have := (hv j hj').1
    simpa using this) (fun j hj => Nat.ne_of_lt (hTlt j (by simpa using hj)))
  refine ⟨_, _, _, _, _, _, _, news, Y, rfl, W, ?_, ?_, hh, ⟨⟨_, Heap.get?_push_size _ rfl, rfl, rfl⟩, hli.push _, fun k hk => ?_⟩, ?_, F.keeps up, N.grown up, ?_, ?_, ?_, ?_, ?_⟩
  · rw [sizeLine_eq, List.size_toArray]; omega
  · rintro i v rfl
    exact hpair i
  · have hk' : k < vs.length := by simpa using hk
    obtain ⟨_, ⟨o, ho, q⟩, _⟩ := hv k hk'
    exact ⟨o, up _ _ ho, q⟩
  · intro b hb
    show b < (s.heap.push _).objs.size
    rw [Heap.size_push]
    rcases List.mem_cons.mp hb with rfl | hb
    · exact Nat.lt_succ_self _
    · rcases List.mem_cons.mp hb with rfl | hb
      · exact Nat.lt_succ_of_lt hlt
      · obtain ⟨k, hk, rfl⟩ := List.mem_map.mp hb
        exact Nat.lt_succ_of_lt (hTlt k (by simpa using hk))
  · intro hm
    exact absurd F.ns.lt (by rw [List.mem_singleton.mp hm]; exact Nat.lt_irrefl _)
  · intro b hb
    rw [List.mem_singleton.mp hb]
    exact next_is_new F
  · intro p hp hm
    exact absurd (Heap.lt_size (N p hp).1) (by rw [List.mem_singleton.mp hm]; exact Nat.lt_irrefl _)
  · intro i v₁ v₂ C oC m₂ h tk E' hi hP
    have hi' : i < vs.length := by simpa using hi
    refine body (s.heap.push _) i v₁ v₂ C oC m₂ h tk E' (by omega) ?_
    obtain ⟨_, _, t, u, e⟩ := hv i hi'
    exact ⟨t, u, hP.trans e⟩
  · intro zs hz hy
    have e : vs.toArray.size = bs.length := by simp [hvl]
    rw [e] at hz ⊢
    exact fin _ zs hz hy
theorem div12 {b : Nat} {t u : Tok} {Q : Value → Shared → Prop} (hb : 0 < b) (hb' : b < 2 ^ 30) (h : Q (.int ((12 / b : Nat) : Int) s.toks) { s with toks := s.toks + 1 }) : wpAny (model prog w) A (binaryOp .FloorDiv (.int 12 t) (.int (b : Int) u)) Q E s :=
  divN (a := 12) rfl hb hb' h
end
def Ytw (bs : List (Nat × Nat)) (i : Nat) (y : Value) : Prop := ∃ t : Tok, y = .int ((12 / (bs.getD i (0, 0)).1 * (bs.getD i (0, 0)).2 : Nat) : Int) t
theorem ytw_of {bs : List (Nat × Nat)} {i pa pb : Nat} {t : Tok} (h1 : (bs.getD i (0, 0)).1 = pa) (h2 : (bs.getD i (0, 0)).2 = pb) : Ytw bs i (.int (((12 / pa : Nat) : Int) * (pb : Int)) t) := ⟨t, by rw [h1, h2, Int.natCast_mul]⟩
theorem tw_ints {bs : List (Nat × Nat)} {zs : List Value} (hl : zs.length = bs.length) (hY : ∀ (i : Nat) (y : Value), zs[i]? = some y → Ytw bs i y) : IntsAre zs (toZ (bs.map fun p => 12 / p.1 * p.2)) := by
  refine intsZ_of (by simp [hl]) fun i y hy => ?_
  obtain ⟨t, ht⟩ := hY i y hy
  have hi : i < bs.length := by
    rcases Nat.lt_or_ge i zs.length with h | h
    · omega
    · rw [List.getElem?_eq_none h] at hy; exact nomatch hy
  refine ⟨t, ?_⟩
  rw [ht]
  simp [List.getD_eq_getElem?_getD, hi]
theorem toZ_sum : ∀ ms : List Nat, (toZ ms).sum = ((ms.sum : Nat) : Int)
  | [] => rfl
  | m :: ms => by
    have := toZ_sum ms
    unfold toZ at this ⊢
    rw [List.map_cons, List.sum_cons, List.sum_cons, this]; omega
theorem tw_sum (bs : List (Nat × Nat)) : (toZ (bs.map fun p => 12 / p.1 * p.2)).sum = ((tw bs : Nat) : Int) := toZ_sum _
def lowM (os : List Nat) : Nat := (rowOf os os.length).reverse.getD ((os.sum - 1) / 2) 0
def highM (os : List Nat) : Nat := (rowOf os os.length).reverse.getD (os.sum / 2) 0
theorem cutIf {M : Model} {A : Around} {E : Value → Shared → Prop} {s : Shared} {t : Sem Flow} {Q : Flow → Shared → Prop}
    (h : wpAny M A t (fun fl s' => fl = .next ∧ ∃ tk, s' = { s with toks := tk }) E s) (k : ∀ tk, Q .next { s with toks := tk }) : wpAny M A t Q E s :=
  wpAny_mono h (fun fl s' ⟨e, tk, e2⟩ => by subst e; subst e2; exact k tk) fun _ _ e => e
theorem pos_getD {bs : List (Nat × Nat)} (h : ∀ p ∈ bs, 0 < p.1) {i : Nat} (hi : i < bs.length) : 0 < (bs.getD i (0, 0)).1 := by
  simp only [List.getD_eq_getElem?_getD, List.getElem?_eq_getElem hi, Option.getD_some]
  exact h _ (List.getElem_mem hi)
theorem le_getD {bs : List (Nat × Nat)} (h : ∀ p ∈ bs, p.2 ≤ p.1 ∧ p.1 ≤ 4) {i : Nat} (hi : i < bs.length) : (bs.getD i (0, 0)).2 ≤ (bs.getD i (0, 0)).1 ∧ (bs.getD i (0, 0)).1 ≤ 4 := by
  simp only [List.getD_eq_getElem?_getD, List.getElem?_eq_getElem hi, Option.getD_some]
  exact h _ (List.getElem_mem hi)
end RL
end
theorem RL.off_RLr : True := by
  w_top off
  trivial
section
open PySem PySem.W PyProof.Rows PySem.Calls PyProof.Rows.LCg PyProof.Rows.LCp
set_option maxRecDepth 100000
set_option maxHeartbeats 400000
namespace RL
def filtG (p : Nat → Bool) (l : List Int) (k : Int) : List Int := if p k.toNat then l ++ [k] else l
theorem filtG_foldl (p : Nat → Bool) : ∀ (ms : List Nat) (l : List Int), (toZ ms).foldl (filtG p) l = l ++ toZ (ms.filter p)
  | [], l => by simp [toZ]
  | m :: ms, l => by
    have ih := filtG_foldl p ms
    have e : toZ (m :: ms) = (m : Int) :: toZ ms := rfl
    rw [e, List.foldl_cons, ih]
    unfold filtG
    rw [Int.toNat_natCast]
    by_cases h : p m = true
    · rw [if_pos h, List.filter_cons_of_pos h]
      simp [toZ]
    · rw [if_neg h, List.filter_cons_of_neg h]
theorem filtG_grows (p : Nat → Bool) : KPfGrows (filtG p) := fun l k => by
  unfold filtG
  split
  · simp
  · omega
section
variable {prog : Program} {w : World} {A : Around} {h₀ : Heap} {L : Addr} {m : Str → Option Value} {env : Env} {ct elt : PySem.Expr} {x : Str} {scope : Scope} {cl : List (Str × Addr)} {s₁ : Shared} {Fin : Shared → List Value → List (Addr × Obj) → Prop} {news : List (Addr × Obj)}
/-- what a filtering comprehension's turn is to bring -/
def TurnF (prog : Program) (w : World) (A : Around) (h₀ : Heap) (L : Addr) (m : Str → Option Value) (env : Env) (ct elt : PySem.Expr) (x : Str) (scope : Scope) (cl : List (Str × Addr)) (s : Shared) (news : List (Addr × Obj)) (n : Nat) (p : Nat → Bool) : Prop :=
  ∀ (k : Nat) (tk' : Tok) I oI C oC D m₂ (ys : List Value) h tk (E' : Value → Shared → Prop), k < n → LCg.NsObj oC m₂ → m₂ x = some (.int (k : Int) tk') → Fr h₀ L h m → News h₀ L h ((I, oI) :: (C, oC) :: (D, LCg.lst ys) :: news) → LCg.Off3 I C D news → ((@Ne Nat I C) ∧ (@Ne Nat I D) ∧ (@Ne Nat C D)) →
    wpAny (model prog w) A (isTrue ct (compEnvC scope cl C env) (eval ct (compEnvC scope cl C env))) (fun b s' => b = p k ∧
      if b = true then wpAny (model prog w) A (eval elt (compEnvC scope cl C env)) (fun y s'' => (∃ t, y = .int (k : Int) t) ∧ ∃ h' tk', s'' = { s with heap := h', toks := tk' } ∧ Fr h₀ L h' m ∧ News h₀ L h' ((I, oI) :: (C, oC) :: (D, LCg.lst ys) :: news)) E' s'
      else ∃ h' tk', s' = { s with heap := h', toks := tk' } ∧ Fr h₀ L h' m ∧ News h₀ L h' ((I, oI) :: (C, oC) :: (D, LCg.lst ys) :: news)) E' { s with heap := h, toks := tk }
theorem filt_range {R : Addr} {n : Nat} {t u v : Tok} (p : Nat → Bool) (hh : A.handled = none) (F : Fr h₀ L s₁.heap m) (N : News h₀ L s₁.heap news) (hR : (R, rngObj n t u v) ∈ news) (hn : n ≤ 1000)
    (turn : ∀ g, TurnF prog w A h₀ L m env ct elt x scope cl { s₁ with heap := g } news n p)
    (fin : ∀ g ys, IntsAre ys (toZ ((List.range n).filter p)) → Fin { s₁ with heap := g } ys news) : LCt.CompSrcT prog w A h₀ L m env ct elt x scope cl Fin (.ref R) s₁ := by
  refine LCt.CompSrcT.range (a := 0) (b := n) (t := t) (u := u) (v := v) (n := n) hh F N (N.get hR) (small_one (by decide) (by decide) (by omega) (by omega)) (by rw [rangeSize_one]; split <;> omega) (by rw [sizeLine_eq]; omega) (fun g => ?_)
  refine kci_rest (ks := toZ (List.range n)) (filtG p) (by rw [toZ_length, List.length_range]) (fun i v hi hv => ?_) (fun k t I oI C oC D m₂ ys l h tk E' hk hy hC hx F' N' off ne _ => ?_) ?_ (filtG_grows p)
  · obtain ⟨t, e⟩ := hv
    exact ⟨(i : Int), t, by simp [toZ, hi], by rw [e, Int.zero_add]⟩
  · obtain ⟨j, hj, rfl⟩ := List.mem_map.mp hk
    rw [List.mem_range] at hj
    refine wpAny_mono (turn g j t I oI C oC D m₂ ys h tk E' hj hC hx F' N' off ne) (fun b s' hb => ?_) fun _ _ e => e
    obtain ⟨hbp, hb⟩ := hb
    cases b with
    | true =>
      simp only [if_true] at hb ⊢
      refine wpAny_mono hb (fun y s'' hy' => ?_) fun _ _ e => e
      obtain ⟨⟨t', rfl⟩, h', tk', rfl, F2, N2⟩ := hy'
      refine ⟨h', tk', news, rfl, F2, N2, off, trivial, rfl, _, t', rfl, ?_⟩
      unfold filtG
      rw [Int.toNat_natCast, ← hbp, if_pos rfl]
    | false =>
      simp only [Bool.false_eq_true, if_false] at hb ⊢
      obtain ⟨h', tk', rfl, F2, N2⟩ := hb
      refine ⟨h', tk', news, rfl, F2, N2, off, trivial, rfl, ?_⟩
      unfold filtG
      rw [Int.toNat_natCast, ← hbp]
      simp
  · intro ys hI _
    rw [filtG_foldl, List.nil_append] at hI
    exact fin g ys hI
end
def mxL (os : List Nat) : Nat := os.foldl max 0
theorem foldl_max : ∀ (os : List Nat) (a : Nat), a ≤ os.foldl max a ∧ (∀ x ∈ os, x ≤ os.foldl max a) ∧ (os.foldl max a = a ∨ os.foldl max a ∈ os)
  | [], a => ⟨Nat.le_refl _, fun _ h => absurd h List.not_mem_nil, .inl rfl⟩
  | y :: os, a => by
    obtain ⟨h1, h2, h3⟩ := foldl_max os (max a y)
    rw [List.foldl_cons]
    refine ⟨Nat.le_trans (Nat.le_max_left _ _) h1, fun x hx => ?_, ?_⟩
    · rcases List.mem_cons.mp hx with rfl | hx
      · exact Nat.le_trans (Nat.le_max_right _ _) h1
      · exact h2 x hx
    · rcases h3 with h3 | h3
      · rcases Nat.le_total a y with q | q
        · right; rw [h3, Nat.max_eq_right q]; exact List.mem_cons_self
        · left; rw [h3, Nat.max_eq_left q]
      · exact .inr (List.mem_cons_of_mem _ h3)
theorem max_is {os : List Nat} {M : Int} (h1 : M ∈ toZ os) (h2 : ∀ a, a ∈ toZ os → a ≤ M) : M = ((mxL os : Nat) : Int) := by
  obtain ⟨x, hx, rfl⟩ := List.mem_map.mp h1
  obtain ⟨_, g2, g3⟩ := foldl_max os 0
  have e1 := g2 x hx
  have hm : mxL os ∈ os ∨ mxL os = 0 := by
    rcases g3 with g | g
    · exact .inr g
    · exact .inl g
  rcases hm with hm | hm
  · have := h2 _ (List.mem_map.mpr ⟨_, hm, rfl⟩)
    unfold mxL at *; omega
  · unfold mxL at *; omega
theorem most_test {os : List Nat} {M : Int} {k : Nat} (h1 : M ∈ toZ os) (h2 : ∀ a, a ∈ toZ os → a ≤ M) : ((toZ os).getD ((k : Int)).toNat 0 == M) = (os.getD k 0 == mxL os) := by
  rw [toZ_getD, max_is h1 h2]
  by_cases h : os.getD k 0 = mxL os
  · rw [h]; simp
  · have : ((os.getD k 0 : Nat) : Int) ≠ ((mxL os : Nat) : Int) := by omega
    rw [beq_eq_false_iff_ne.mpr h, beq_eq_false_iff_ne.mpr this]
/-- lists of ints, by their references -/
def Lists (h : Heap) : List Value → List (List Int) → Prop
  | [], [] => True
  | v :: vs, ks :: kss => (∃ r us, v = .ref r ∧ h.IsList r (List.toArray us) ∧ IntsAre us ks) ∧ Lists h vs kss
  | _, _ => False
theorem Lists.reads {h : Heap} : ∀ {vs : List Value} {kss : List (List Int)}, Lists h vs kss → ∃ as, ReadsAll h vs (kss.map fun ks => .list (ks.map PyData.int)) as
  | [], [], _ => ⟨_, .nil⟩
  | _ :: _, _ :: _, ⟨⟨r, us, hv, hl, hI⟩, B⟩ => by
    obtain ⟨as, ha⟩ := B.reads
    rw [hv]
    exact ⟨_, .cons (reads_of_ints hl hI) ha⟩
  | [], _ :: _, B => B.elim
  | _ :: _, [], B => B.elim
theorem lists_lay : ∀ kss : List (List Int), PyData.canLayAll0 (kss.map fun ks => .list (ks.map PyData.int)) = true
  | [] => by simp [PyData.canLayAll0]
  | ks :: kss => by simp [PyData.canLayAll0, PyData.canLay0, canLayAll0_ints ks, lists_lay kss]
theorem notin_due {prog : Program} {w : World} {A : Around} {E : Value → Shared → Prop} {s : Shared} {x c : Addr} {cvs vs : List Value} {kss : List (List Int)} {ms : List Int} {Q : Value → Shared → Prop}
    (hc : s.heap.IsList c (List.toArray cvs)) (hL : Lists s.heap cvs kss) (hx : s.heap.IsList x vs.toArray) (hI : IntsAre vs ms) (hm : ms ∈ kss) (hu : A.units + 66 < cLine) (h : Q (.bool false) s) :
    wpAny (model prog w) A (compareOp .NotIn (.ref x) (.ref c)) Q E s := by
  obtain ⟨as, ra⟩ := hL.reads
  obtain ⟨o, ho, hcl, n, hd⟩ := hc
  have hdp := W.depthAll_ints ms
  refine PySem.SeqAt.notIn_list_reads (xs := kss.map fun ks => .list (ks.map PyData.int)) (d := .list (ms.map PyData.int)) (.list ho hcl hd (by simpa using ra)) (reads_of_ints hx hI) (lists_lay kss) (by simp only [PyData.canLay0]; exact canLayAll0_ints ms) ?_ ?_
  · have : PyData.depth (.list (ms.map PyData.int)) ≤ 2 := by simp only [PyData.depth]; omega
    have := Nat.min_le_right (PyData.depthAll (kss.map fun ks => PyData.list (ks.map PyData.int))) (PyData.depth (.list (ms.map PyData.int)))
    omega
  · have : ((kss.map fun ks => PyData.list (ks.map PyData.int)).any fun y => PyData.eqv y (.list (ms.map PyData.int))) = true := by
      rw [List.any_eq_true]
      exact ⟨_, List.mem_map.mpr ⟨ms, hm, rfl⟩, PySem.SeqAt.eqv_refl _ (by simp only [PyData.canLay0]; exact canLayAll0_ints ms)⟩
    rw [this]
    exact h
theorem cutDue {M : Model} {A : Around} {E : Value → Shared → Prop} {s : Shared} {env : Env} {a b : Stmt} {rest : List Stmt} {Q : Flow → Shared → Prop} (R : Shared → Prop)
    (h : wpAny M A (exec a env) (fun f s' => f = .next ∧ wpAny M A (exec b env) (fun fl s'' => fl = .next ∧ R s'') E s') E s) (k : ∀ s', R s' → wpAny M A (execs rest env) Q E s') : wpAny M A (execs (a :: b :: rest) env) Q E s := by
  refine wpAny_execs_cons (wpAny_mono h (fun f s' hf => ?_) fun _ _ e => e)
  obtain ⟨rfl, hf⟩ := hf
  refine wpAny_execs_cons (wpAny_mono hf (fun f s' hf => ?_) fun _ _ e => e)
  obtain ⟨rfl, hf⟩ := hf
  exact k s' hf
def DueEnd (gg : Heap) (LL M R : Addr) (T : Nat) (s : Shared) (led : List (Addr × Obj)) (s' : Shared) : Prop :=
  ∃ m' h' tk' tT, s' = { s with heap := h', toks := tk' } ∧ Fr gg LL h' m' ∧ m' (Str.ofString "middles") = some (.ref M) ∧ m' (Str.ofString "twelfths") = some (.int (T : Int) tT) ∧ m' (Str.ofString "places") = some (.ref R) ∧ News gg LL h' led
theorem toZ_take (os : List Nat) (k : Nat) : (toZ os).take k = toZ (os.take k) := by simp [toZ, List.map_take]
theorem low_test {os row : List Nat} {k : Nat} (h : (toZ row).length = os.sum) : decide ((((toZ row).length : Nat) : Int) ≤ 2 * (List.take ((k : Int) + 1).toNat (toZ os)).sum) = decide (os.sum ≤ 2 * (os.take (k + 1)).sum) := by
  have e : ((k : Int) + 1).toNat = k + 1 := by omega
  rw [h, e, toZ_take, toZ_sum]
  exact decide_eq_decide.mpr (by omega)
theorem high_test {os row : List Nat} {k : Nat} (h : (toZ row).length = os.sum) : decide ((((toZ row).length : Nat) : Int) < 2 * (List.take ((k : Int) + 1).toNat (toZ os)).sum) = decide (os.sum < 2 * (os.take (k + 1)).sum) := by
  have e : ((k : Int) + 1).toNat = k + 1 := by omega
  rw [h, e, toZ_take, toZ_sum]
  exact decide_eq_decide.mpr (by omega)
theorem min_is {F : List Nat} {M : Int} {v : Nat} (h1 : M ∈ toZ F) (h2 : ∀ a, a ∈ toZ F → M ≤ a) (hA : v ∈ F) (hB : ∀ x ∈ F, v ≤ x) : M = (v : Int) := by
  obtain ⟨x, hx, rfl⟩ := List.mem_map.mp h1
  have e1 := hB x hx
  have e2 := h2 _ (List.mem_map.mpr ⟨v, hA, rfl⟩)
  omega
def lowF (os : List Nat) : List Nat := (List.range os.length).filter fun k => decide (os.sum ≤ 2 * (os.take (k + 1)).sum)
def highF (os : List Nat) : List Nat := (List.range os.length).filter fun k => decide (os.sum < 2 * (os.take (k + 1)).sum)
def fltB (S N T : Nat) : Bool := Float64.cmpInt (Float64.mul (Float64.abs (Float64.sub (Float64.mul (Float64.ofInt 12) (Float64.div (Float64.fsumEnd (psOf S)) (Float64.ofInt (N : Nat)))) (Float64.ofInt (T : Nat)))) (Float64.ofInt (2 ^ Int.toNat 30))) 1 == some Ordering.lt
def FltP (S N T : Nat) : Prop := fltB S N T = true
end RL
end
theorem RL.off_RLo : True := by
  w_top off
  trivial
section
open PySem PySem.W PyProof.Rows PySem.Calls
set_option maxRecDepth 100000
set_option maxHeartbeats 20000000
namespace RL
theorem filledO (w : World) (h : Heap) : (hd.heap_39 w.params).In h → PySem.Challenge.rw_rl0068_01.prog = PySem.Challenge.rw_rl0068_01.prog := by
  k_fill
  exact fun _ => rfl
theorem mulB {prog : Program} {w : World} {A : Around} {E : Value → Shared → Prop} {s : Shared} {x y : Int} {t u : Tok} {Q : Value → Shared → Prop} (h1 : -1000000 ≤ x) (h2 : x ≤ 1000000) (h : Q (.int (x * y) s.toks) { s with toks := s.toks + 1 }) : wpAny (model prog w) A (binaryOp .Mult (.int x t) (.int y u)) Q E s :=
  mul_int h (IntMulOk.of_left (intBits_le (k := 64) (by omega)))
theorem with_mid {P : Prop} {h₀ h : Heap} {L M0 : Addr} {x : Addr × Obj} {o : Obj} {rest : List (Addr × Obj)} (N : News h₀ L h (x :: (M0, o) :: rest)) (k : ∀ M, M = M0 → News h₀ L h ((M, o) :: rest) → P) : P :=
  k _ rfl (News.sub N fun q hq => List.mem_cons_of_mem _ hq)
section
local macro_rules | `(tactic| walk_at "execs cons") => `(tactic| ((with_reducible refine wpAny_execs_cons ?_); (try dsimp only); (try k_fold)))
local macro_rules | `(tactic| walk_at "binaryOp Add ref ref") => `(tactic| ((with_reducible show wpAny _ _ (binaryOp _ (Value.ref _) (Value.ref _)) _ _ _); k_dflt (refine' kmk_add_ints ?F ?N ?a ?b ?i ?j ?_ ?z; (case F => k_asm); (case N => k_asm); (case a => exact News.isList (by k_asm) (by k_mem)); (case b => exact News.isList (by k_asm) (by k_mem)); (case i => assumption); (case j => assumption); (case z => first | (simp only [sizeLine_eq, toZ_length, List.length_replicate]; omega) | (simp only [sizeLine_eq]; omega))); intro D' ws' h' F' N' l1 hI'; (try k_lt l1)))
local macro_rules | `(tactic| walk_at $k:str) => if ["UnrEnd", "eval ListComp", "exec Assign cons ListComp", "CompSrcT", "compareOp NotIn ref ref"].contains k.getString then `(tactic| (refine Hold.of ?_)) else Lean.Macro.throwUnsupported
local macro_rules | `(tactic| k_ne) => `(tactic| (refine neN ?_; (try dsimp only); first | exact Nq.ne (by assumption) | exact Ne.symm (Nq.ne (by assumption)) | omega))
local macro_rules | `(tactic| walk_at "pyIter ref") => `(tactic| ((with_reducible show wpAny _ _ (pyIter (Value.ref _)) (SrcU _ _ _ _ _ _ _ _ _ _ _ _ _) _ _); refine Hold.of ?_))
local macro_rules | `(tactic| walk_at "eval Name") => `(tactic| (k_dflt (refine' nameX_L ?F ?v ?_ ?a ?b; (case F => k_asm); (case a => rfl); (case b => rfl); (case v => assumption); k_whole)))
local macro_rules | `(tactic| walk_at "binaryOp FloorDiv int int") => `(tactic| ((with_reducible refine div12 ?hb ?hb2 ?_); (case hb => assumption); (case hb2 => omega)))
local macro_rules | `(tactic| walk_at "exec If") => `(tactic| ((with_reducible show wpAny _ _ (exec (Stmt.If (Expr.BoolOp _ _ _) _ _ _) _) _ _ _); refine Hold.of ?_))
local macro_rules | `(tactic| walk_at "execs cons") => `(tactic| ((with_reducible show wpAny _ _ (execs (Stmt.If _ _ (List.cons _ _) _ :: _) _) _ _ _); refine Hold.of ?_))
local macro_rules | `(tactic| walk_at "binaryOp Mult int int") => `(tactic| ((with_reducible refine mulB ?mb1 ?mb2 ?_); (case mb1 => omega); (case mb2 => omega)))
local macro_rules | `(tactic| walk_at "call builtin:len") => `(tactic| (k_dflt (refine' lenG ?sl ?sn ?sz ?_; (case sl => exact Fr.lst (by assumption) (by assumption)); (case sn => rfl); (case sz => omega)); k_whole))
local macro_rules | `(tactic| walk_at "call type:range") => `(tactic| (k_dflt (refine' rangeN ?rF ?rN ?_; (case rF => k_asm); (case rN => k_asm)); k_whole; intro R' h' t' u' v' tk' F' N' l1; (try k_lt l1)))
local macro_rules | `(tactic| walk_at "pyIter ref") => `(tactic| ((with_reducible show wpAny _ _ (pyIter (Value.ref _)) (fun it s₂ => LoopAtV _ _ _ _ _ _ _ _ _ it s₂) _ _); refine Hold.of ?_))
local macro_rules | `(tactic| walk_at "call ref") => `(tactic| ((k_dflt (show wpAny _ _ (call (Value.ref _) _) _ _ _)); refine Hold.of ?_))
theorem holds_spec {w : World} {l : Addr} {a : Nat} {ta : Tok} {bs : List (Nat × Nat)} (hfig : i2d a 9 ++ (List.replicate (((toZ (figs bs)).length : Int) - ((i2d a 9).length : Int)).toNat [0]).flatten = toZ (figs bs)) (hsum : (figs bs).sum ≤ 256) (hpos : 0 < (figs bs).sum) (htw : tw bs ≤ 1000) (hb0 : ∀ p ∈ bs, 0 < p.1) (hdueA : tw bs % 12 * (tw bs / 12 + 2) < 12 → (List.range (figs bs).length).filter (fun k => (figs bs).getD k 0 == mxL (figs bs)) = [tw bs / 12]) (hdueB : ¬ tw bs % 12 * (tw bs / 12 + 2) < 12 → (12 - tw bs % 12) * (bs.length - tw bs / 12 + 1) < 12 → (List.range (figs bs).length).filter (fun k => (figs bs).getD k 0 == mxL (figs bs)) = [tw bs / 12 + 1])
    (hdueC : ¬ tw bs % 12 * (tw bs / 12 + 2) < 12 → ¬ (12 - tw bs % 12) * (bs.length - tw bs / 12 + 1) < 12 → (List.range (figs bs).length).filter (fun k => (figs bs).getD k 0 == mxL (figs bs)) ∈ [[tw bs / 12], [tw bs / 12 + 1], [tw bs / 12, tw bs / 12 + 1]]) (hcb : tw bs / 12 ≤ bs.length) (hloA : lowM (figs bs) ∈ lowF (figs bs)) (hloB : ∀ x ∈ lowF (figs bs), lowM (figs bs) ≤ x) (hhiA : highM (figs bs) ∈ highF (figs bs)) (hhiB : ∀ x ∈ highF (figs bs), highM (figs bs) ≤ x) (hflt : FltP (rowOf (figs bs) (figs bs).length).sum (figs bs).sum (tw bs)) (hmed1 : tw bs / 12 ≤ lowM (figs bs)) (hmed2 : highM (figs bs) ≤ if tw bs % 12 = 0 then tw bs / 12 else tw bs / 12 + 1) (ha : a < 2 ^ 60) (hb : ∀ p ∈ bs, p.2 ≤ p.1 ∧ p.1 ≤ 4) (hlen : bs.length ≤ 4) :
    HSpecT w 310 60 129 [.int a ta, .ref l] (BoxesAt l bs) (fun _ v _ => v = .bool true) := by
  intro p loose mean mg mb A₀ env outer base h₀ L m s Q E B F X T C1 C2 z1 z2 hf hk TB hl ret
  obtain ⟨bvs, be, g0, gb⟩ := hl
  have TB0 := TB
  obtain ⟨t1, t2, g1, g2, T1, T2⟩ := TB
  have N := newsT F g1 g2 z1 z2
  refine wpAny_call ?_
  k_dflt (refine' callC ?k1 ?k2 ?k3 ?k4 ?k5 ?kA ?kF ?kK ?k6 ?k7 ?k8 ?k9 ?kB ?kD ?_ ?c2 ?c3 ?c4; (case kA => exact rfl); (case kF => assumption); (case kK => assumption); (case k1 => k_asm); (case k2 => k_asm); (case k3 => k_asm); (case k4 => k_asm); (case k5 => k_asm); (case k6 => k_is); (case k7 => k_is); (case k8 => k_room); (case k9 => first | exact BindsTo.of_eq rfl | exact binds_K (by k_in) rfl (by k_is) rfl rfl rfl); (case kB => exact rfl); (case kD => decide +kernel); (case c2 => exact rfl); (case c3 => exact rfl); (case c4 => exact rfl); k_whole; intro g' L' h' tk' cells' G' FG' F' N' Y' B' X' T' l1; (try k_lt l1); k_cells Y'; (try simp only [List.cons_append, List.nil_append] at N'); (try dsimp only); (try k_fold))
  rename Grd _ _ _ => G1
  rename Fr h₀ L _ m => FG
  have C1g := CodeHd.keeps C1 FG.keep
  have C2g := CodeHd.keeps C2 FG.keep
  have Tb1 := tbl_enter TB0 G1 T1 T2
  rename News _ _ _ _ => N1
  have y1 := (N1 (58, tabObj t1) (by k_mem)).2.2
  have y2 := (N1 (65, tabObj t2) (by k_mem)).2.2
  have N2 := news_four2 N1
  clear N1
  have hbvl := (boxes_funs gb).1
  have ne58 : l ≠ 58 := ne_data g0 g1 nofun
  have ne65 : l ≠ 65 := ne_data g0 g2 nofun
  have yl := G1 _ _ g0 (by simp [ne58, ne65])
  have yb := boxes_grd G1 g1 g2 gb
  k_steps
  rename Below _ _ _ _ => B1
  rename Fr _ _ _ _ => F1
  rename News _ _ _ _ => N1
  rename Frag.In _ _ => X1
  rename Top _ _ _ _ _ _ => T3
  refine with_fr F1 fun gg LL eg eL => ?_
  subst eg
  subst eL
  refine weak (d := 340) (u := 200) (by exact rfl) (by exact Nat.le_of_ble_eq_true rfl) (by exact rfl) (by exact Nat.le_of_ble_eq_true rfl) ?_
  refine int2digits_spec (a := a) (n := 9) ha (by omega) (by omega) p loose mean mg mb _ _ _ _ _ _ _ _ _ _ B1 F1 X1 T3 C1g C2g y1 y2 rfl rfl (tbl_h F1 (News.sub N1 (fun q hq => List.mem_cons_of_mem _ (List.mem_cons_of_mem _ hq))) Tb1) trivial ?_
  intro v h1 tk1 X2 TB2 P2
  obtain ⟨r, vs, e, rfl, fr, hr, hI⟩ := P2
  obtain ⟨F2, tb', Tb2, N2, ap2, more⟩ := ledT (rest := [(LL + 1 + 1, _), (LL + 1, _)]) F1 N1 Tb1 (noCode_cons (noC_cell (by assumption)) (noCode_cons (noC_cell (by assumption)) noCode_nil)) ⟨⟨by k_ne, by k_ne, trivial⟩, ⟨by k_ne, by k_ne, trivial⟩⟩ y1 y2 X2 TB2
  obtain ⟨N3, ne3⟩ := more r _ _ _ fr hr rfl
  have Tb3 := Tb2
  obtain ⟨u1, u2, ⟨a1, ao⟩, ⟨b1, bo⟩, rfl, TL1, TL2⟩ := Tb2
  simp only [List.cons_append, List.nil_append] at N3 ne3
  replace ne3 := ne3.nq
  replace ap2 := ap2.nq
  simp only [NqL, and_true] at ne3
  simp only [ApQ, NqL, and_true] at ap2
  obtain ⟨n1, n2, n3, n4, n5, n6⟩ := ne3
  obtain ⟨⟨n11, n12⟩, ⟨n13, n14⟩, ⟨n15, n16⟩, n17, n18⟩ := ap2
  replace ne58 : Nq l 58 := ne58
  replace ne65 : Nq l 65 := ne65
  clear F1 N1 more N2
  dsimp only
  k_steps
  rename Fr _ _ _ _ => F4
  rename News _ _ _ _ => N4
  refine weak (d := 320) (u := 100) (by exact rfl) (by exact Nat.le_of_ble_eq_true rfl) (by exact rfl) (by exact Nat.le_of_ble_eq_true rfl) ?_
  refine figures_spec (bs := bs) hb hlen p loose mean mg mb _ _ _ _ _ _ _ _ _ _ B1 F4 X1 T3 rfl rfl ⟨bvs, be, F4.keep _ _ yl, yb.ext F4.keep⟩ ?_
  intro v h2 tk2 X4 P4
  obtain ⟨ow, ovs, oe, rfl, fr4, hr4, hI4⟩ := P4
  obtain ⟨F5, N5, ne5⟩ := ledN F4 N4 X4 fr4 hr4
  replace ne5 := ne5.nq
  simp only [NqL, and_true] at ne5
  obtain ⟨n21, n22, n23, n24, n25, n26, n27⟩ := ne5
  have hFl := IntsAre.length hI
  have hOl := IntsAre.length hI4
  have hOl' : ovs.length = (figs bs).length := hOl.trans (by simp [toZ])
  have hfl := figs_length bs
  have hil := i2d_len' (a := a) ha
  clear F4 N4
  dsimp only
  generalize hos : figs bs = os at *
  k_steps
  rename Fr _ _ _ _ => F6
  rename News _ _ _ _ => N6
  have hoz := toZ_length os
  rw [hoz] at N6
  refine with_loop N6 fun D R oR oO tR uR vR e1 e2 e3 e4 e5 e6 e7 N7 => ?_
  subst e1 e2 e3 e4 e5 e6 e7
  clear N6
  refine' iter_rangeUnr (n := os.length) ?ih ?ir ?is ?in_ F6 N7 ?_
  case ih => with_unfolding_all rfl
  case ir => exact News.get N7 (by k_mem)
  case is => exact small_one (by decide) (by decide) (by omega) (by omega)
  case in_ =>
    rw [rangeSize_one]
    split <;> omega
  intro I lI
  k_lt lI
  refine' range_ind (fun i m news => ∃ D rvs e oW, m (Str.ofString "boxes") = some (.ref l) ∧ m (Str.ofString "places") = some (.ref R) ∧ IntsAre rvs (toZ (rowOf os i)) ∧
    news = [(D, listOf (List.toArray rvs) e), (R, rngObj os.length tR uR vR), (ow, listOf ovs.toArray oe), (LL + 1 + 1, oW), (LL + 1, oO), (65, tabObj u2), (58, tabObj u1), (a1, ao), (b1, bo)] ∧ oW.data = .cell (some (.ref D)) ∧
    NqL D [(R, oO), (ow, oO), (LL + 1 + 1, oO), (LL + 1, oO), (65, oO), (58, oO), (a1, oO), (b1, oO), (I, oO)]) ?lz ?ls _ _ ?lb
  case ls =>
    rintro k i m1 news1 hik ih ⟨D1, rvs, e1, oW, i1, i2, i3, rfl, i4, i5⟩
    refine RangeRest.succ fun t9 h9 tk9 F9 N9 => ?_
    replace F9 : Fr gg LL h9 _ := F9
    replace N9 : News gg LL h9 _ := N9
    rw [Int.zero_add] at F9
    clear F6 N7
    simp only [NqL, and_true] at i5
    obtain ⟨n31, n32, n33, n34, n35, n36, n37, n38, n39⟩ := i5
    have hDi := IntsAre.length i3
    have hgi := getD_le_sum os i
    have hri := rowOf_le os i
    rw [toZ_length] at hDi
    k_steps
    rename Fr _ _ _ _ => F7
    rename News _ _ _ _ => N8
    rw [toZ_getD]
    refine' mul1N (D := os.getD i 0) F7 N8 ?nm ?nd ?_
    case nm => k_mem
    case nd => omega
    intro r9 h8 F8 N10 l9 i9
    k_lt l9
    clear F7 N8
    have hwl := rowStep_le os i
    dsimp only
    k_steps
    rename IntsAre _ (List.replicate _ _ ++ toZ _) => I9
    rename _ = Data.cell (some (Value.ref _)) => d9
    rw [toZ_row] at I9
    rename Fr _ _ _ _ => F7
    rename News _ _ _ _ => N8
    refine' UnrEnd.intro (L := LL) F7 N8 _ ?j4 ?j5 (ih _ _ ⟨_, _, 0, _, ?j1, ?j2, I9, rfl, d9, ?j3⟩)
    case j1 => exact i1
    case j2 => exact i2
    case j3 => exact AllNe.nq (r := _) (l := [(R, oO), (ow, oO), (LL + 1 + 1, oO), (LL + 1, oO), (65, oO), (58, oO), (a1, oO), (b1, oO), (I, oO)]) ⟨by k_ne, by k_ne, by k_ne, by k_ne, by k_ne, by k_ne, by k_ne, by k_ne, by k_ne, trivial⟩
    case j4 =>
      intro q hq
      simp only [List.mem_cons, List.not_mem_nil, or_false] at hq
      rcases hq with e | e | e | e | e | e | e | e | e | e <;> rw [e] <;> k_mem
    case j5 =>
      refine AllNe.get (r := I) (l := [_, _, _, _, _, _, _, _, _]) ⟨by k_ne, by k_ne, by k_ne, by k_ne, by k_ne, by k_ne, by k_ne, by k_ne, by k_ne, trivial⟩
  case lb => refine ⟨D, [], 0, oR, rfl, rfl, .nil, rfl, by assumption, AllNe.nq (r := D) (l := [(R, oO), (ow, oO), (LL + 1 + 1, oO), (LL + 1, oO), (65, oO), (58, oO), (a1, oO), (b1, oO), (I, oO)]) ⟨by k_ne, by k_ne, by k_ne, by k_ne, by k_ne, by k_ne, by k_ne, by k_ne, by k_ne, trivial⟩⟩
  rintro m1 news1 ⟨D1, rvs, e1, oW, i1, i2, i3, rfl, i4, i5⟩
  refine RangeRest.zero fun h9 tk9 F9 N9 => ?_
  replace F9 : Fr gg LL h9 _ := F9
  replace N9 : News gg LL h9 _ := N9
  clear F6 N7 hI hFl hfig hil
  simp only [NqL, and_true] at i5
  obtain ⟨n31, n32, n33, n34, n35, n36, n37, n38, n39⟩ := i5
  have q58 : AllNe 58 [(D1, oO), (R, oO), (ow, oO), (LL + 1 + 1, oO), (LL + 1, oO)] := ⟨by k_ne, by k_ne, by k_ne, by k_ne, by k_ne, trivial⟩
  have q65 : AllNe 65 [(D1, oO), (R, oO), (ow, oO), (LL + 1 + 1, oO), (LL + 1, oO)] := ⟨by k_ne, by k_ne, by k_ne, by k_ne, by k_ne, trivial⟩
  replace q58 := q58.nq
  replace q65 := q65.nq
  simp only [NqL, and_true] at q58 q65
  obtain ⟨n41, n42, n43, n44, n45⟩ := q58
  obtain ⟨n46, n47, n48, n49, n50⟩ := q65
  clear lI
  repeat (rename @LT.lt Nat _ _ _ ∧ @LT.lt Nat _ _ _ ∧ @LT.lt Nat _ _ _ ∧ _ => q9; clear q9)
  repeat (rename IntsAre _ (_ ++ _) => q9; clear q9)
  repeat (rename IntsAre _ (List.flatten _) => q9; clear q9)
  repeat (rename _ = Data.cell (bindC _ _ _) => q9; clear q9)
  have hDl := IntsAre.length i3
  rw [toZ_length, rowOf_length, List.take_length] at hDl
  have hpw := rowOf_pw os os.length
  have hzr : (toZ (rowOf os os.length)).length = os.sum := by rw [toZ_length, rowOf_length, List.take_length]
  generalize hrow : rowOf os os.length = row at i3 hpw hzr
  k_steps
  refine weak (d := 320) (u := 100) (by exact rfl) (by exact Nat.le_of_ble_eq_true rfl) (by exact rfl) (by exact Nat.le_of_ble_eq_true rfl) ?_
  refine median_low_spec (l := D1) i3 (by omega) (by omega) (veeL_row hpw) p loose mean mg mb _ _ _ _ _ _ _ _ _ _ B1 F9 X1 T3 rfl rfl (News.isList N9 (by k_mem)) ?_
  intro v h3 tk3 X5 P5
  obtain ⟨ns1, tl, pm1, so1, rfl⟩ := P5
  have hs1 := sorted_row hpw pm1 so1
  subst hs1
  rw [toZ_get]
  replace F9 := fr_ext F9 X5
  replace N9 := news_ext N9 X5
  clear pm1 so1 X5
  have hmlE : lowM os = row.reverse.getD ((rvs.length - 1) / 2) 0 := by unfold lowM; rw [hrow, hDl]
  have hmhE : highM os = row.reverse.getD (rvs.length / 2) 0 := by unfold highM; rw [hrow, hDl]
  rw [hmlE] at hmed1
  rw [hmhE] at hmed2
  clear hmlE hmhE
  generalize hml : row.reverse.getD ((rvs.length - 1) / 2) 0 = ml at hmed1 ⊢
  dsimp only at F9 N9 ⊢
  k_steps
  obtain ⟨x, ms, hrx, hrot⟩ := rot_row (row := row) (by omega)
  rename IntsAre _ (List.drop 1 _ ++ _) => I7
  rw [hrot] at I7
  have len7 := IntsAre.length I7
  have len8 : (toZ (ms ++ [x])).length = os.sum := by rw [← hzr, hrx, toZ_length, toZ_length]; simp
  rename Fr _ _ _ _ => F10
  rename News _ _ _ _ => N10
  refine weak (d := 320) (u := 100) (by exact rfl) (by exact Nat.le_of_ble_eq_true rfl) (by exact rfl) (by exact Nat.le_of_ble_eq_true rfl) ?_
  refine median_high_spec I7 (by omega) (by omega) (veeL_rot (hrx ▸ hpw)) p loose mean mg mb _ _ _ _ _ _ _ _ _ _ B1 F10 X1 T3 rfl rfl (News.isList N10 (by k_mem)) ?_
  intro v h4 tk4 X6 P6
  obtain ⟨ns2, tl2, pm2, so2, rfl⟩ := P6
  have hs2 := sorted_rot (hrx ▸ hpw) pm2 so2
  subst hs2
  rw [toZ_get, ← hrx]
  replace F10 := fr_ext F10 X6
  replace N10 := news_ext N10 X6
  have elen : _ = rvs.length := (len7.trans len8).trans hDl.symm
  clear pm2 so2 X6 I7
  rw [elen]
  generalize hmh : row.reverse.getD (rvs.length / 2) 0 = mh at hmed2 ⊢
  dsimp only at F10 N10 ⊢
  replace N10 := News.sub (l' := [(D1, listOf rvs.toArray e1), (R, rngObj os.length tR uR vR), (ow, listOf ovs.toArray oe), (LL + 1 + 1, oW), (LL + 1, oO), (65, tabObj u2), (58, tabObj u1), (a1, ao), (b1, bo)]) N10 (by
    intro q hq
    simp only [List.mem_cons, List.not_mem_nil, or_false] at hq ⊢
    rcases hq with e | e | e | e | e | e | e | e | e <;> simp [e])
  repeat (rename @LT.lt Nat _ _ _ ∧ @LT.lt Nat _ _ _ ∧ @LT.lt Nat _ _ _ ∧ _ => q9; clear q9)
  k_steps
  refine' ListComp_V ?q0 ?q1 ?q2 ?q3 ?q4 ?q5 ?q6 ?q7 ?q8
  case q0 => k_asm
  case q1 => with_unfolding_all rfl
  case q2 => decide
  case q3 => rfl
  case q4 => decide
  case q5 => rfl
  case q6 => rfl
  case q7 => decide
  k_steps
  rename Fr _ _ _ _ => F11
  rename News _ _ _ _ => N11
  refine' list_U (vs := bvs) (bs := bs) (n1 := be) (Ytw bs) ?z0 ?zF ?zN ?z1 ?z2 ?z3 ?z4 ?z5
  case zF => exact F11
  case zN => exact N11
  case z0 => with_unfolding_all rfl
  case z1 => exact F11.keep _ _ yl
  case z2 => exact yb.ext F11.keep
  case z3 => omega
  case z4 =>
    intro hz i v1 v2 C oC m2 h tk E' hi hP hoC hx1 hx2 F5 N5 lt5
    obtain ⟨ta, tb, j3⟩ := hP
    have c1 := List.cons.inj (congrArg Array.toList j3)
    have k1 := c1.1
    have k2 := (List.cons.inj c1.2).1
    clear c1
    subst k1
    subst k2
    clear j3
    have hp0 := pos_getD hb0 hi
    have hp1 := le_getD hb hi
    have hp2 : 12 / (bs.getD i (0, 0)).1 < 2 ^ 64 := Nat.lt_of_le_of_lt (Nat.div_le_self _ _) (by omega)
    generalize hpa : (bs.getD i (0, 0)).1 = pa at *
    generalize hpb : (bs.getD i (0, 0)).2 = pb at *
    clear F11 N11
    k_steps
    · exact fun _ _ e => e
    · exact ytw_of hpa hpb
  case z5 =>
  intro hz zs hlen8 hY D5 h5 tk5 F5 N5 lt5
  have I8 := tw_ints hlen8 hY
  k_lt lt5
  clear F11 N11
  dsimp only
  k_steps
  rename Fr _ _ _ _ => F12
  rename News _ _ _ _ => N12
  rw [tw_sum] at F12 ⊢
  generalize htw2 : tw bs = T at htw hmed1 hmed2 hdueA hdueB hdueC hcb F12 ⊢
  refine with_mid N12 fun M eM N13 => ?_
  subst eM
  clear N12
  refine weak (d := 320) (u := 100) (by exact rfl) (by exact Nat.le_of_ble_eq_true rfl) (by exact rfl) (by exact Nat.le_of_ble_eq_true rfl) ?_
  refine int_divmod_spec (a := T) (b := 12) (by omega) (by omega) (by omega) p loose mean mg mb _ _ _ _ _ _ _ _ _ _ B1 F12 X1 T3 C1g C2g y1 y2 rfl rfl (tbl_h F12 (News.sub N13 (fun q hq => List.mem_cons_of_mem _ (List.mem_cons_of_mem _ (List.mem_cons_of_mem _ (List.mem_cons_of_mem _ (List.mem_cons_of_mem _ (List.mem_cons_of_mem _ hq))))))) Tb3) trivial ?_
  intro v h6 tk6 X6 TB6 P6
  obtain ⟨r2, w1, w2, rfl, fr6, hr6⟩ := P6
  obtain ⟨F13, tb6, Tb6, N14, ap6, more6⟩ := ledT (rest := [(M, _), (D1, _), (R, _), (ow, _), (LL + 1 + 1, _), (LL + 1, _)]) F12 N13 Tb3 (noCode_cons (noC_seq rfl) (noCode_cons (noC_seq rfl) (noCode_cons noC_rng (noCode_cons (noC_seq rfl) (noCode_cons (noC_cell (by assumption)) (noCode_cons (noC_cell (by assumption)) noCode_nil)))))) ⟨⟨by k_ne, by k_ne, by k_ne, by k_ne, by k_ne, by k_ne, trivial⟩, ⟨by k_ne, by k_ne, by k_ne, by k_ne, by k_ne, by k_ne, trivial⟩⟩ y1 y2 X6 TB6
  obtain ⟨N15, ne7⟩ := more6 r2 _ _ _ fr6 hr6 rfl
  have Tb7 := Tb6
  obtain ⟨u3, u4, ⟨a2, ao2⟩, ⟨b2, bo2⟩, rfl, TL3, TL4⟩ := Tb6
  simp only [List.cons_append, List.nil_append] at N15 ne7
  clear F12 N13 more6 N14 ne7 ap6 lt5
  generalize hcnt : T / 12 = cnt at hmed1 hmed2 hdueA hdueB hdueC hcb N15
  have hrl : T % 12 < 12 := Nat.mod_lt _ (by decide)
  generalize hrst : T % 12 = rst at hmed2 hdueA hdueB hdueC hrl N15
  dsimp only
  k_steps
  have hm2a : rst = 0 → mh ≤ cnt := fun q => by rw [if_pos q] at hmed2; exact hmed2
  have hm2b : mh ≤ cnt + 1 := by
    by_cases q : rst = 0
    · have := hm2a q; omega
    · rw [if_neg q] at hmed2; exact hmed2
  clear hmed2
  refine cutIf ?i9 fun tk7 => ?_
  case i9 =>
    refine wpAny_If ?_
    k_steps
    all_goals exfalso
    · exact absurd (show (ml : Int) < cnt from by assumption) (by omega)
    · exact absurd (show (cnt : Int) < mh from by assumption) (by omega)
    · exact absurd (show (cnt : Int) + 1 < mh from by assumption) (by omega)
  dsimp only
  k_steps
  rename Fr _ _ _ _ => F14
  rename News _ _ _ _ => N16
  refine' LCt.Assign_ListComp_T ?ma0 ?ma1 ?ma2 ?ma3 ?ma4 ?ma5 ?ma6 ?ma7 ?ma8 ?ma9 ?ma10
  case ma0 => exact F14
  case ma1 => rfl
  case ma2 => with_unfolding_all rfl
  case ma3 => with_unfolding_all rfl
  case ma4 => decide
  case ma5 => rfl
  case ma6 => decide
  case ma7 => rfl
  case ma8 => rfl
  case ma9 => rfl
  k_steps
  refine' filt_range (R := R) (n := os.length) (fun k => os.getD k 0 == mxL os) ?fh ?fF ?fN ?fR ?fn ?ft ?ff
  case fh => with_unfolding_all rfl
  case fF => exact F14
  case fN => exact N16
  case fR => k_mem
  case fn => omega
  case ft =>
    intro g k tk' I2 oI2 C oC D9 m9 ys h tk E' hk hoC hx F5 N5 off ne
    clear F14 N16
    k_steps
    · exact most_test (by assumption) (by assumption)
    all_goals assumption
  case ff =>
  intro g mvs hIm D2 h10 tk10 F15 N17 _
  generalize hmst : (List.range os.length).filter (fun k => os.getD k 0 == mxL os) = mst at hIm hdueA hdueB hdueC
  clear F14 N16
  dsimp only at F15 N17 ⊢
  k_steps
  have eA : (rst : Int) * ((cnt : Int) + 2) = ((rst * (cnt + 2) : Nat) : Int) := by rw [Int.natCast_mul]; congr 1
  have eB : (12 - (rst : Int)) * ((bvs.length : Int) - (cnt : Int) + 1) = (((12 - rst) * (bs.length - cnt + 1) : Nat) : Int) := by
    rw [Int.natCast_mul, hbvl]
    congr 1 <;> omega
  repeat (rename @LT.lt Nat _ _ _ ∧ @LT.lt Nat _ _ _ ∧ @LT.lt Nat _ _ _ ∧ _ => q9; clear q9)
  refine' cutDue (DueEnd gg LL M R T s [(M, listOf #[.int (ml : Int) tl, .int (mh : Int) tl2] 0), (D1, listOf rvs.toArray e1), (R, rngObj os.length tR uR vR), (ow, listOf ovs.toArray oe), (LL + 1 + 1, oW), (LL + 1, oO), (65, tabObj u4), (58, tabObj u3), (a2, ao2), (b2, bo2)]) ?d1 ?d2
  case d1 =>
    k_steps
    · have hm : mst = [cnt] := hdueA (by omega)
      rename News _ _ _ _ => N18; rename Fr _ _ _ _ => F18
      refine' notin_due (kss := [[(cnt : Int)]]) (ms := toZ mst) ?e1 ?e2 ?e3 hIm ?e4 ?e5 ?e6
      case e1 => exact News.isList N18 (by k_mem)
      case e2 => exact ⟨⟨_, _, rfl, News.isList N18 (by k_mem), .cons _ _ .nil⟩, trivial⟩
      case e3 => exact News.isList N18 (by k_mem)
      case e4 => rw [hm]; simp [toZ]
      case e5 => exact Nat.le_of_ble_eq_true rfl
      k_steps
      refine ⟨_, _, _, _, rfl, F18, rfl, rfl, i2, News.sub N18 ?_⟩
      intro q hq
      simp only [List.mem_cons, List.not_mem_nil, or_false] at hq
      rcases hq with e | e | e | e | e | e | e | e | e | e <;> rw [e] <;> k_mem
    · refine' lenG (vs := bvs) (n := bvs.length) ?e7 ?e8 ?e9 ?e10
      case e7 => exact Fr.lst (by assumption) ⟨_, yl, rfl, be, rfl⟩
      case e8 => rfl
      case e9 => omega
      k_steps
      · have hm : mst = [cnt + 1] := hdueB (by omega) (by omega)
        rename News _ _ _ _ => N18; rename Fr _ _ _ _ => F18
        refine' notin_due (kss := [[(cnt : Int) + 1]]) (ms := toZ mst) ?f1 ?f2 ?f3 hIm ?f4 ?f5 ?f6
        case f1 => exact News.isList N18 (by k_mem)
        case f2 => exact ⟨⟨_, _, rfl, News.isList N18 (by k_mem), .cons _ _ .nil⟩, trivial⟩
        case f3 => exact News.isList N18 (by k_mem)
        case f4 => rw [hm]; simp [toZ]
        case f5 => exact Nat.le_of_ble_eq_true rfl
        k_steps
        refine ⟨_, _, _, _, rfl, F18, rfl, rfl, i2, News.sub N18 ?_⟩
        intro q hq
        simp only [List.mem_cons, List.not_mem_nil, or_false] at hq
        rcases hq with e | e | e | e | e | e | e | e | e | e <;> rw [e] <;> k_mem
      · have hm := hdueC (by omega) (by omega)
        rename News _ _ _ _ => N18; rename Fr _ _ _ _ => F18
        refine' notin_due (kss := [[(cnt : Int)], [(cnt : Int) + 1], [(cnt : Int), (cnt : Int) + 1]]) (ms := toZ mst) ?g1 ?g2 ?g3 hIm ?g4 ?g5 ?g6
        case g1 => exact News.isList N18 (by k_mem)
        case g2 => exact ⟨⟨_, _, rfl, News.isList N18 (by k_mem), .cons _ _ .nil⟩, ⟨_, _, rfl, News.isList N18 (by k_mem), .cons _ _ .nil⟩, ⟨_, _, rfl, News.isList N18 (by k_mem), .cons _ _ (.cons _ _ .nil)⟩, trivial⟩
        case g3 => exact News.isList N18 (by k_mem)
        case g4 =>
          simp only [List.mem_cons, List.not_mem_nil, or_false] at hm ⊢
          rcases hm with e | e | e <;> rw [e] <;> simp [toZ]
        case g5 => exact Nat.le_of_ble_eq_true rfl
        k_steps
        refine ⟨_, _, _, _, rfl, F18, rfl, rfl, i2, News.sub N18 ?_⟩
        intro q hq
        simp only [List.mem_cons, List.not_mem_nil, or_false] at hq
        rcases hq with e | e | e | e | e | e | e | e | e | e <;> rw [e] <;> k_mem
  case d2 =>
  rintro s' ⟨m2, h11, tk11, tT, rfl, F16, k1, k2, k3, N19⟩
  have hmlE : lowM os = ml := by unfold lowM; rw [hrow, ← hDl, hml]
  have hmhE : highM os = mh := by unfold highM; rw [hrow, ← hDl, hmh]
  rw [hmlE] at hloA hloB
  rw [hmhE] at hhiA hhiB
  clear hdueA hdueB hdueC hIm eA eB hm2a hm2b hmed1 hcb X6 hr6 fr6 I8 hY
  k_steps
  refine' LCt.ListComp_T ?la0 ?la1 ?la2 ?la3 ?la4 ?la5 ?la6
  case la0 => exact F16
  case la1 => with_unfolding_all rfl
  case la2 => decide
  case la3 => rfl
  case la4 => decide
  case la5 => rfl
  k_steps
  refine' filt_range (R := R) (n := os.length) (fun k => decide (os.sum ≤ 2 * (os.take (k + 1)).sum)) ?lh ?lF ?lN ?lR ?ln ?lt ?lf
  case lh => with_unfolding_all rfl
  case lF => exact F16
  case lN => exact N19
  case lR => k_mem
  case ln => omega
  case lt =>
    intro g k tk' I2 oI2 C oC D9 m9 ys h tk E' hk hoC hx F5 N5 off ne
    clear F16 N19
    k_steps
    · exact low_test hzr
    all_goals first | assumption | exact News.sub (by assumption) (fun q hq => List.mem_cons_of_mem _ hq)
  case lf =>
  intro g mvs hIm D2 h10 tk10 F15 N17 _
  clear F16 N19
  replace hIm : IntsAre mvs (toZ (lowF os)) := hIm
  generalize lowF os = F1 at hIm hloA hloB
  have hZ1 : 0 < (toZ F1).length := by rw [toZ_length]; exact List.length_pos_of_mem hloA
  dsimp only at F15 N17 ⊢
  k_steps
  obtain rfl : _ = (ml : Int) := min_is (by assumption) (by assumption) hloA hloB
  rename Fr _ _ _ _ => F16
  rename News _ _ _ _ => N19
  replace N19 := News.sub (l' := [(M, listOf #[.int (ml : Int) tl, .int (mh : Int) tl2] 0), (D1, listOf rvs.toArray e1), (R, rngObj os.length tR uR vR), (ow, listOf ovs.toArray oe), (LL + 1 + 1, oW), (LL + 1, oO), (65, tabObj u4), (58, tabObj u3), (a2, ao2), (b2, bo2)]) N19 (fun q hq => List.mem_cons_of_mem _ hq)
  refine' LCt.ListComp_T ?ha0 ?ha1 ?ha2 ?ha3 ?ha4 ?ha5 ?ha6
  case ha0 => exact F16
  case ha1 => with_unfolding_all rfl
  case ha2 => decide
  case ha3 => rfl
  case ha4 => decide
  case ha5 => rfl
  k_steps
  refine' filt_range (R := R) (n := os.length) (fun k => decide (os.sum < 2 * (os.take (k + 1)).sum)) ?hh ?hF ?hN ?hR ?hn ?ht ?hf'
  case hh => with_unfolding_all rfl
  case hF => exact F16
  case hN => exact N19
  case hR => k_mem
  case hn => omega
  case ht =>
    intro g k tk' I2 oI2 C oC D9 m9 ys h tk E' hk hoC hx F5 N5 off ne
    clear F16 N19
    k_steps
    · exact high_test hzr
    all_goals first | assumption | exact News.sub (by assumption) (fun q hq => List.mem_cons_of_mem _ hq)
  case hf' =>
  intro g mvs2 hIm2 D3 h12 tk12 F21 N21 _
  clear F16 N19
  replace hIm2 : IntsAre mvs2 (toZ (highF os)) := hIm2
  generalize highF os = F2 at hIm2 hhiA hhiB
  have hZ2 : 0 < (toZ F2).length := by rw [toZ_length]; exact List.length_pos_of_mem hhiA
  dsimp only at F21 N21 ⊢
  k_steps
  obtain rfl : _ = (mh : Int) := min_is (by assumption) (by assumption) hhiA hhiB
  rename Fr _ _ _ _ => F22
  rename News _ _ _ _ => N22
  refine wpAny_If ?_
  k_steps
  rename Fr _ _ _ _ => F23
  rename News _ _ _ _ => N23
  refine' LCg.ListComp_U ?ta0 ?ta1 ?ta2 ?ta3 ?ta4 ?ta5 ?ta6
  case ta0 => exact F23
  case ta1 => with_unfolding_all rfl
  case ta2 => decide
  case ta3 => rfl
  case ta4 => decide
  case ta5 => rfl
  walk1
  iterate 6 (first | walk1 | (dsimp only; walk1))
  iterate 5 (first | (k_unfold; (try dsimp only)) | walk1 | (dsimp only; walk1))
  rename Fr _ _ _ _ => F24
  rename News _ _ _ _ => N24
  refine ⟨_, _, _, rfl, F24, N24, ?oo1, ?oo2, ?oo3⟩
  case oo1 => simp only [LCg.Off3, and_true]; assumption
  case oo2 => exact .inr ⟨listOf #[.int (ml : Int) tl, .int (mh : Int) tl2] 0, by k_mem, rfl, 0, rfl⟩
  case oo3 =>
  try (rename ((@Ne Nat _ _ ∧ @Ne Nat _ _ ∧ @Ne Nat _ _) ∧ _) => q9; clear q9)
  clear F23 N23 F24 N24
  dsimp only [List.nil_append]
  iterate 10 (first | (k_unfold; (try dsimp only)) | walk1 | (dsimp only; walk1))
  rename Fr _ _ _ _ => F24
  rename News _ _ _ _ => N24
  refine ⟨_, _, _, rfl, F24, N24, ?op1, ?op2, ?op3⟩
  case op1 => simp only [LCg.Off3, and_true]; assumption
  case op2 => exact .inr ⟨listOf #[.int (ml : Int) tl, .int (mh : Int) tl2] 0, by k_mem, rfl, 0, rfl⟩
  case op3 =>
  try (rename ((@Ne Nat _ _ ∧ @Ne Nat _ _ ∧ @Ne Nat _ _) ∧ _) => q9; clear q9)
  clear F24 N24
  dsimp only [List.nil_append, List.cons_append]
  refine LCg.CompRest.zero ?_
  intro D4 h14 tk14 F25 N25 _
  dsimp only at F25 N25 ⊢
  iterate 2 (first | (k_unfold; (try dsimp only)) | walk1 | (dsimp only; walk1))
  iterate 5 (first | (k_unfold; (try dsimp only)) | walk1 | (dsimp only; walk1))
  rename Fr _ _ _ _ => F26
  rename News _ _ _ _ => N26
  refine (SeqAt.RcNeAt.lists (items := #[.type "int", .type "int"]) (items2 := #[.type "int", .type "int"]) (e := fun _ => true) (News.isList N26 (by k_mem)) (News.isList N26 (by k_mem)) rfl (by exact Nat.le_of_ble_eq_true rfl) (fun j h1 h2 => SeqAt.EqAt.same _) : SeqAt.RcNeAt _ _ _ _ false) _ _ _ _ ?_
  k_steps
  rename Fr _ _ _ _ => F27
  rename News _ _ _ _ => N27
  have hrow4 : ∀ x ∈ row, x ≤ 4 := fun x hx => by
    have := rowOf_lt os os.length x (hrow ▸ hx)
    omega
  have hrlen : row.length = os.sum := by rw [← toZ_length, hzr]
  have hS : row.sum ≤ 1024 := by
    have h4 : ∀ l : List Nat, (∀ x ∈ l, x ≤ 4) → l.sum ≤ 4 * l.length := by
      intro l
      induction l with
      | nil => intro _; simp
      | cons y l ih =>
        intro hh
        have h1 := hh y List.mem_cons_self
        have h2 := ih fun z hz => hh z (List.mem_cons_of_mem _ hz)
        simp only [List.sum_cons, List.length_cons]
        omega
    have := h4 row hrow4
    omega
  refine weak (d := 320) (u := 100) (by exact rfl) (by exact Nat.le_of_ble_eq_true rfl) (by exact rfl) (by exact Nat.le_of_ble_eq_true rfl) ?_
  refine fmean_spec (l := D1) (vs := rvs) (ms := row) (T := row.sum) i3 hrow4 rfl hS (by omega) (by omega) p loose mean mg mb _ _ _ _ _ _ _ _ _ _ B1 F27 X1 T3 rfl rfl (News.isList N27 (by k_mem)) ?_
  intro v h15 tk15 X9 P9
  obtain ⟨tf, rfl⟩ := P9
  replace F27 := fr_ext F27 X9
  replace N27 := news_ext N27 X9
  rw [hrow, htw2, ← hDl] at hflt
  unfold FltP fltB at hflt
  generalize hfm : Float64.div (Float64.fsumEnd (psOf row.sum)) (Float64.ofInt rvs.length) = fm at hflt ⊢
  dsimp only at F27 N27 ⊢
  clear X9
  iterate 14 (first | (k_unfold; (try dsimp only)) | walk1 | (dsimp only; walk1))
  iterate 12 (first | (k_unfold; (try dsimp only)) | walk1 | (dsimp only; walk1))
  iterate 4 (first | (k_unfold; (try dsimp only)) | walk1 | (dsimp only; walk1))
  iterate 4 (first | (k_unfold; (try dsimp only)) | walk1 | (dsimp only; walk1))
  iterate 4 (first | (k_unfold; (try dsimp only)) | walk1 | (dsimp only; walk1))
  refine lt_fi ?_
  rw [hflt]
  k_steps
  rename Fr gg LL _ _ => F28
  rename News gg LL _ _ => N28
  refine ret _ _ _ (extT_of G1 F28) (tbl_h F28 (News.sub N28 ?ntb) Tb7) rfl
  intro q hq
  simp only [List.mem_cons, List.not_mem_nil, or_false] at hq
  rcases hq with e | e | e | e <;> rw [e] <;> k_mem
end
end RL
end
theorem RL.off_RLu2 : True := by
  w_top off
  trivial
section
open PySem PySem.W PyProof.Rows PySem.Calls
set_option maxRecDepth 100000
set_option maxHeartbeats 400000
namespace RL
theorem figStep_getD (own : List Nat) (p : Nat × Nat) (i : Nat) : (figStep own p).getD i 0 = (p.1 - p.2) * own.getD i 0 + p.2 * (0 :: own).getD i 0 := by
  unfold figStep
  rcases Nat.lt_or_ge i (own.length + 1) with h | h
  · rw [zipGet _ (by simp; omega) (by simp; omega)]
    rcases Nat.lt_or_ge i own.length with q | q
    · have e : (own ++ [0]).getD i 0 = own.getD i 0 := by simp [List.getD_eq_getElem?_getD, List.getElem?_append_left q]
      rw [e]
    · have hi : i = own.length := by omega
      subst hi
      have e : (own ++ [0]).getD own.length 0 = own.getD own.length 0 := by simp [List.getD_eq_getElem?_getD]
      rw [e]
  · have e1 : (List.zipWith (fun x y => (p.1 - p.2) * x + p.2 * y) (own ++ [0]) (0 :: own)).getD i 0 = 0 := by
      rw [List.getD_eq_getElem?_getD, List.getElem?_eq_none (by simp; omega)]; rfl
    have e2 : own.getD i 0 = 0 := by rw [List.getD_eq_getElem?_getD, List.getElem?_eq_none (by omega)]; rfl
    have e3 : (0 :: own).getD i 0 = 0 := by rw [List.getD_eq_getElem?_getD, List.getElem?_eq_none (by simp; omega)]; rfl
    rw [e1, e2, e3]; simp
theorem getD_ext {a b : List Nat} (hl : a.length = b.length) (h : ∀ i, a.getD i 0 = b.getD i 0) : a = b := by
  apply List.ext_getElem hl
  intro i h1 h2
  have := h i
  simpa [List.getD_eq_getElem?_getD, h1, h2] using this
theorem comm4 (P P' Q Q' a b c : Nat) : Q * (P * a + P' * b) + Q' * (P * b + P' * c) = P * (Q * a + Q' * b) + P' * (Q * b + Q' * c) := by
  rw [Nat.mul_add, Nat.mul_add, Nat.mul_add, Nat.mul_add, Nat.mul_left_comm Q P a, Nat.mul_left_comm Q P' b, Nat.mul_left_comm Q' P b, Nat.mul_left_comm Q' P' c]
  omega
theorem figStep_comm (own : List Nat) (p q : Nat × Nat) : figStep (figStep own p) q = figStep (figStep own q) p := by
  refine getD_ext (by simp [figStep_length]) fun i => ?_
  rw [figStep_getD, figStep_getD, figStep_getD, figStep_getD]
  cases i with
  | zero => simp only [List.getD_cons_zero, Nat.mul_zero, Nat.add_zero]; rw [Nat.mul_left_comm]
  | succ i =>
    simp only [List.getD_cons_succ]
    rw [figStep_getD, figStep_getD]
    exact comm4 _ _ _ _ _ _ _
def facOf (p : Nat × Nat) : Nat := p.1 - p.2 + 512 * p.2
def numb (bs : List (Nat × Nat)) : Nat := bs.foldl (fun x p => x * facOf p) 1
theorem perm_foldl {α β : Type} {f : β → α → β} (hf : ∀ b x y, f (f b x) y = f (f b y) x) {l l' : List α} (h : l.Perm l') : ∀ b, l.foldl f b = l'.foldl f b := by
  induction h with
  | nil => intro b; rfl
  | cons x _ ih => intro b; exact ih _
  | swap x y l => intro b; simp only [List.foldl_cons]; rw [hf]
  | trans _ _ ih1 ih2 => intro b; rw [ih1, ih2]
theorem perm_figs {l l' : List (Nat × Nat)} (h : l.Perm l') : figs l = figs l' := perm_foldl figStep_comm h _
theorem perm_numb {l l' : List (Nat × Nat)} (h : l.Perm l') : numb l = numb l' := perm_foldl (f := fun x p => x * facOf p) (fun b _ _ => Nat.mul_right_comm b _ _) h 1
theorem perm_tw {l l' : List (Nat × Nat)} (h : l.Perm l') : tw l = tw l' := by
  unfold tw
  exact (h.map _).sum_nat
def boxes12 : List (Nat × Nat) := [(2, 0), (2, 1), (2, 2), (3, 0), (3, 1), (3, 2), (3, 3), (4, 0), (4, 1), (4, 2), (4, 3), (4, 4)]
def dueOk (own : List Nat) (T nb : Nat) : Prop :=
  (T % 12 * (T / 12 + 2) < 12 → (List.range own.length).filter (fun k => own.getD k 0 == mxL own) = [T / 12]) ∧
  (¬ T % 12 * (T / 12 + 2) < 12 → (12 - T % 12) * (nb - T / 12 + 1) < 12 → (List.range own.length).filter (fun k => own.getD k 0 == mxL own) = [T / 12 + 1]) ∧
  (¬ T % 12 * (T / 12 + 2) < 12 → ¬ (12 - T % 12) * (nb - T / 12 + 1) < 12 → (List.range own.length).filter (fun k => own.getD k 0 == mxL own) ∈ [[T / 12], [T / 12 + 1], [T / 12, T / 12 + 1]])
def dueB (ms : List Nat) (c r nb : Nat) : Bool := if r * (c + 2) < 12 then ms == [c] else if (12 - r) * (nb - c + 1) < 12 then ms == [c + 1] else ms == [c] || ms == [c + 1] || ms == [c, c + 1]
theorem dueB_ok {own : List Nat} {T nb : Nat} (h : dueB ((List.range own.length).filter (fun k => own.getD k 0 == mxL own)) (T / 12) (T % 12) nb = true) : dueOk own T nb := by
  unfold dueB at h
  refine ⟨fun a => ?_, fun a b => ?_, fun a b => ?_⟩
  · rw [if_pos a] at h; simpa using h
  · rw [if_neg a, if_pos b] at h; simpa using h
  · rw [if_neg a, if_neg b] at h
    simp only [Bool.or_eq_true, beq_iff_eq] at h
    simp only [List.mem_cons, List.not_mem_nil, or_false]
    rcases h with (h | h) | h
    · exact .inl h
    · exact .inr (.inl h)
    · exact .inr (.inr h)
def goodS (own : List Nat) (T nb a : Nat) : Bool :=
  (i2d a 9 ++ (List.replicate (((toZ own).length : Int) - ((i2d a 9).length : Int)).toNat [0]).flatten == toZ own) && decide (own.sum ≤ 256) && decide (0 < own.sum) && decide (T ≤ 1000) && decide (T / 12 ≤ nb) && decide (a < 2 ^ 60) &&
  dueB ((List.range own.length).filter (fun k => own.getD k 0 == mxL own)) (T / 12) (T % 12) nb &&
  decide (T / 12 ≤ lowM own) && decide (highM own ≤ if T % 12 = 0 then T / 12 else T / 12 + 1) &&
  (lowF own).contains (lowM own) && (lowF own).all (fun x => decide (lowM own ≤ x)) && (highF own).contains (highM own) && (highF own).all (fun x => decide (highM own ≤ x)) && fltB (rowOf own own.length).sum own.sum T
def goodB (bs : List (Nat × Nat)) : Bool := goodS (figs bs) (tw bs) bs.length (numb bs)
end RL
end
theorem RL.off_RLe : True := by
  w_top off
  trivial
section
open PySem PySem.W PyProof.Rows PySem.Calls PyProof.Rows.LCg PyProof.Rows.LCp
set_option maxRecDepth 100000
set_option maxHeartbeats 1000000
namespace RL
theorem all_ints : ∀ {ys : List Value}, (∀ v ∈ ys, ∃ k t, v = Value.int k t) → ∃ zs, IntsAre ys zs
  | [], _ => ⟨[], .nil⟩
  | v :: ys, h => by
    obtain ⟨k, t, rfl⟩ := h v List.mem_cons_self
    obtain ⟨zs, hz⟩ := all_ints fun u hu => h u (List.mem_cons_of_mem _ hu)
    exact ⟨k :: zs, .cons k t hz⟩
theorem ints_all {vs : List Value} {ns : List Int} (h : IntsAre vs ns) : ∀ v ∈ vs, ∃ k t, v = Value.int k t := by
  induction h with
  | nil => intro v hv; exact absurd hv List.not_mem_nil
  | cons n t _ ih =>
    intro v hv
    rcases List.mem_cons.mp hv with e | hv
    · exact ⟨n, t, e⟩
    · exact ih v hv
theorem pick_ints {vs : List Value} {ns : List Int} (h : IntsAre vs ns) (lo hi st : Option Int) : ∃ zs, IntsAre (slicePick vs.toArray lo hi st).toList zs := by
  refine all_ints fun v hv => ?_
  unfold slicePick at hv
  rw [List.toList_toArray] at hv
  obtain ⟨i, _, hi⟩ := List.mem_filterMap.mp hv
  have : v ∈ vs := by
    rw [List.getElem?_toArray] at hi
    exact List.mem_of_getElem? hi
  exact ints_all h v this
section
variable {prog : Program} {w : World} {A : Around} {E : Value → Shared → Prop} {s : Shared} {h₀ : Heap} {L : Addr} {m : Str → Option Value} {env : Env}
theorem sliceE {value slice : PySem.Expr} {l : Addr} {vs : List Value} {ns : List Int} {vl vu vk : Value} {lo hi st : Option Int} {ops : List Value} {Q : Value → Shared → Prop}
    (hl : s.heap.IsList l vs.toArray) (hI : IntsAre vs ns) (pl : IsPart vl lo) (pu : IsPart vu hi) (pk : IsPart vk st) (h0 : st ≠ some 0)
    (h : ∀ D us zs h', Ext s.heap h' → h'.get? D = some (listOf (List.toArray us) 0) → s.heap.get? D = none → IntsAre us zs → us.length ≤ vs.length → Q (.ref D) { s with heap := h' })
    (hs : subscripted slice false (.ref l) (.ref s.heap.objs.size) = operate ops (getItem (.ref l) (.ref s.heap.objs.size)))
    (ht : ∀ r, letTemporaryGo value (.ref l) r = pure ()) (hsz : vs.length ≤ 1000) :
    wpAny (model prog w) A (subscriptTail value slice (.ref l) (.ref s.heap.objs.size)) Q E { s with heap := s.heap.push { cls := .type "slice", data := .fields #[vl, vu, vk] } } := by
  refine subscriptTail_ops (Heap.IsList.typeIs (s := { s with heap := s.heap.push { cls := .type "slice", data := .fields #[vl, vu, vk] } }) (hl.push _)) list_getitem_lookup
    (wpAny_getItem_list_slice (hl.push _) (Heap.IsSliceOf.new ..) pl pu pk h0 ?_ (by rw [sizeLine_eq, List.size_toArray]; omega)) hs ht
  obtain ⟨zs, hz⟩ := pick_ints hI lo hi st
  show Q (.ref (s.heap.push _).objs.size) _
  refine h _ (slicePick vs.toArray lo hi st).toList zs _ (fun b o e => Heap.get?_push_of_some _ (Heap.get?_push_of_some _ e)) (by rw [Array.toArray_toList]; exact Heap.get?_push_size _ rfl) ?_ hz ?_
  · rw [Heap.size_push]
    exact Heap.get?_none_of_le (Nat.le_succ _)
  · have := slicePick_size_le vs.toArray lo hi st
    simpa using this
theorem sumE {l : Addr} {vs : List Value} {ns : List Int} {Q : Value → Shared → Prop} (hh : A.handled = none) (hl : s.heap.IsList l vs.toArray) (hI : IntsAre vs ns)
    (h : ∀ h' tk t' k, Ext s.heap h' → Q (.int k t') { s with heap := h', toks := tk }) : wpAny (model prog w) A (call (.builtin "sum") [.ref l]) Q E s := by
  have ha := hI.allInts
  obtain ⟨xs, e⟩ := ha.items
  rw [e] at hl
  exact sum_intListG hh hl fun h' tk t' hk => h h' tk t' _ hk
theorem enum_U {elt : PySem.Expr} {x x₂ : Str} {scope : Scope} {cl : List (Str × Addr)} {Fin : Shared → List Value → List (Addr × Obj) → Nat → (Nat → Value → Prop) → Prop} {l : Addr} {vs : List Value} {n1 : Nat} {news : List (Addr × Obj)} (Y : Nat → Value → Prop)
    (hh : A.handled = none) (F : Fr h₀ L s.heap m) (N : News h₀ L s.heap news) (hm : (l, listOf vs.toArray n1) ∈ news) (hlen : vs.length ≤ 1000)
    (body : ∀ h, BodyU prog w A h₀ L m env elt x x₂ scope cl { s with heap := h } news vs.length (fun i vals => ∃ t x, vs[i]? = some x ∧ vals = #[.int (i : Int) t, x]) Y)
    (fin : ∀ h zs, zs.length = vs.length → (∀ i y, zs[i]? = some y → Y i y) → Fin { s with heap := h } zs news vs.length Y) :
    wpAny (model prog w) A (call (.type "enumerate") [.ref l]) (fun xv s₁ => wpAny (model prog w) A (pyIter xv) (SrcU prog w A h₀ L m env elt x x₂ scope cl Fin) E s₁) E s := by
  have hax := N _ hm
  have hl : s.heap.IsList l vs.toArray := ⟨_, hax.1, rfl, n1, rfl⟩
  have hlt : l < s.heap.objs.size := Heap.lt_size hax.1
  have hLs : L < s.heap.objs.size := F.ns.lt
  refine call_enumerate_list hl fun h' hE hI hsz hk => ?_
  refine wpAny_pyIter_enum hE ?_
  have W := (WalksT.enumerate (prog := prog) (w := w) (A := A) hh (s.heap.objs.size + 1) s.heap.objs.size l (Nat.succ_ne_self _) (ktu_ne 1 hlt) (Nat.ne_of_lt hlt) vs.toArray).toU
  have hbig : ∀ b ∈ [s.heap.objs.size + 1, s.heap.objs.size], s.heap.objs.size ≤ b := by
    intro b hb
    simp only [List.mem_cons, List.not_mem_nil, or_false] at hb
    rcases hb with rfl | rfl
    · exact Nat.le_add_right _ _
    · exact Nat.le_refl _
  refine ⟨_, _, _, _, _, _, _, news, Y, rfl, W, ?_, ?_, hh, ⟨⟨_, hE⟩, hI, hl.at fun o e => hk l o e⟩, ?_, F.keeps hk, N.grown hk, ?_, ?_, ?_, ?_, ?_⟩
  · rw [sizeLine_eq, List.size_toArray]; omega
  · rintro i vals ⟨t, x, _, rfl⟩
    exact ⟨_, x, rfl⟩
  · intro b hb
    show b < h'.objs.size
    rw [hsz]
    simp only [List.mem_cons, List.not_mem_nil, or_false] at hb
    rcases hb with rfl | rfl | e
    · exact Nat.lt_succ_self _
    · exact Nat.lt_succ_of_lt (Nat.lt_succ_self _)
    · rw [e]; exact Nat.lt_of_lt_of_le hlt (Nat.le_add_right _ _)
  · intro hm
    exact absurd hLs (Nat.not_lt.mpr (hbig _ hm))
  · intro b hb
    exact ktu_new F (hbig b hb)
  · intro p hp hm
    exact absurd (Heap.lt_size (N p hp).1) (Nat.not_lt.mpr (hbig _ hm))
  · intro i v₁ v₂ C oC m₂ h tk E' hi hP
    have hi' : i < vs.length := by simpa using hi
    refine body h' i v₁ v₂ C oC m₂ h tk E' hi' ?_
    obtain ⟨t, x, e1, e2⟩ := hP
    exact ⟨t, x, by simpa using e1, e2⟩
  · intro zs hz hy
    have e : vs.toArray.size = vs.length := by simp
    rw [e] at hz ⊢
    exact fin _ zs hz hy
end
end RL
end
theorem RL.off_RLhg : True := by
  w_top off
  trivial
section
open PySem PySem.W PyProof.Rows PySem.Calls
set_option maxRecDepth 100000
set_option maxHeartbeats 400000
namespace RL
theorem holds_good {w : World} {l : Addr} {ta : Tok} {bs : List (Nat × Nat)} (hg : goodB bs = true) (hb : ∀ p ∈ bs, p.2 ≤ p.1 ∧ p.1 ≤ 4) (hb0 : ∀ p ∈ bs, 0 < p.1) (hlen : bs.length ≤ 4) :
    HSpecT w 310 60 129 [.int (numb bs) ta, .ref l] (BoxesAt l bs) (fun _ v _ => v = .bool true) := by
  unfold goodB goodS at hg
  simp only [Bool.and_eq_true, decide_eq_true_eq, beq_iff_eq, List.all_eq_true, List.contains_iff_mem] at hg
  obtain ⟨⟨⟨⟨⟨⟨⟨⟨⟨⟨⟨⟨⟨h1, h2⟩, h3⟩, h4⟩, h5⟩, h6⟩, h7⟩, h8⟩, h9⟩, h10⟩, h11⟩, h12⟩, h13⟩, h14⟩ := hg
  have hd := dueB_ok h7
  exact holds_spec (hfig := h1) (hsum := h2) (hpos := h3) (htw := h4) (hb0 := hb0) (hdueA := hd.1) (hdueB := hd.2.1) (hdueC := hd.2.2) (hcb := h5) (hloA := h10) (hloB := h11) (hhiA := h12) (hhiB := h13) (hflt := h14) (hmed1 := h8) (hmed2 := h9) (ha := h6) (hb := hb) (hlen := hlen)
/-- a call that may grow the tables, from a frame with a ledger -/
theorem useT {w : World} {d u : Nat} {f : Addr} {args : List Value} {Pre : Heap → Prop} {Post : Heap → Value → Heap → Prop} {p : Program} {loose : List Str} {mean : ExcName → Option Value} {mg mb : Str → Option Value} {A A₀ : Around} {env : Env} {outer : List Env} {base h₀ : Heap} {L : Addr} {m : Str → Option Value} {s : Shared} {Q E : Value → Shared → Prop} {rest tb : List (Addr × Obj)}
    (S : HSpecT w d u f args Pre Post) (hh : A.handled = none) (hdp : A.depth ≤ d) (hfr : A.frames = some (env :: outer)) (hu : A.units ≤ u)
    (B : Below A₀ base outer h₀) (F : Fr h₀ L s.heap m) (X : (hd.heap_39 w.params).In h₀) (T : Top p loose mean mg mb h₀) (C1 : CodeHd h₀ 62 58) (C2 : CodeHd h₀ 69 65) (hf : env.frame = some L) (hk : env.scope.kind = .function)
    (N : News h₀ L s.heap (rest ++ tb)) (Tb : TBl h₀ tb) (nc : NoCode rest) (ap : AllNe 58 rest ∧ AllNe 65 rest) (pre : Pre s.heap)
    (k : ∀ v h' tk' tb', Post s.heap v h' → Fr h₀ L h' m → TBl h₀ tb' → News h₀ L h' (rest ++ tb') → Apart rest tb' → (∀ r obj its e, s.heap.get? r = none → h'.get? r = some obj → obj.data = .seq its e → News h₀ L h' ((r, obj) :: (rest ++ tb')) ∧ AllNe r (rest ++ tb')) → Q v { s with heap := h', toks := tk' }) :
    wpAny (model PySem.Challenge.rw_rl0068_01.prog w) A (call (.ref f) args) Q E s := by
  have Nt : News h₀ L s.heap tb := News.sub N fun q hq => List.mem_append_right _ hq
  have z : h₀.get? 58 = none ∧ h₀.get? 65 = none := by
    obtain ⟨t1, t2, a, b, rfl, _, _⟩ := Tb
    exact ⟨(Nt (58, tabObj t1) (.tail _ (.head _))).2.2, (Nt (65, tabObj t2) (.head _)).2.2⟩
  refine weak (d := d) (u := u) hh hdp hfr hu ?_
  refine S p loose mean mg mb A₀ env outer base h₀ L m s Q E B F X T C1 C2 z.1 z.2 hf hk (tbl_h F Nt Tb) pre fun v h' tk' X2 TB2 P2 => ?_
  obtain ⟨F2, tb', Tb2, N2, ap2, more⟩ := ledT F N Tb nc ap z.1 z.2 X2 TB2
  exact k v h' tk' tb' P2 F2 Tb2 N2 ap2 more
theorem post_true (ns : List Int) : PySem.Challenge.rw_rl0068_01.row.claim.post [ofPy (PyData.list (List.map PyData.int ns))] (WData.bool true) [ofPy (PyData.list (List.map PyData.int ns))] = true := by
  refine postW_of (X := true) ?a ?b rfl
  case a => with_unfolding_all rfl
  case b => with_unfolding_all rfl
end RL
end
theorem RL.off_RLgd : True := by
  w_top off
  trivial
section
open PySem PySem.W PyProof.Rows PySem.Calls
set_option maxRecDepth 100000
set_option maxHeartbeats 400000
namespace RL
def ascL : List Nat → Nat → List Nat
  | [], _ => []
  | o :: os, k => List.replicate o k ++ ascL os (k + 1)
/-- the item at a place of the rising row, without the row -/
def nthA : List Nat → Nat → Nat → Nat
  | [], _, _ => 0
  | o :: os, k, i => if i < o then k else nthA os (k + 1) (i - o)
def dotA : List Nat → Nat → Nat
  | [], _ => 0
  | o :: os, k => o * k + dotA os (k + 1)
theorem asc_getD : ∀ (os : List Nat) (k i : Nat), (ascL os k).getD i 0 = nthA os k i
  | [], _, _ => by simp [ascL, nthA]
  | o :: os, k, i => by
    unfold ascL nthA
    by_cases h : i < o
    · rw [if_pos h, List.getD_eq_getElem?_getD, List.getElem?_append_left (by simpa using h)]
      simp [h]
    · rw [if_neg h, ← asc_getD os (k + 1) (i - o), List.getD_eq_getElem?_getD, List.getElem?_append_right (by simp; omega), List.length_replicate, List.getD_eq_getElem?_getD]
theorem asc_sum : ∀ (os : List Nat) (k : Nat), (ascL os k).sum = dotA os k
  | [], _ => rfl
  | o :: os, k => by
    unfold ascL dotA
    rw [List.sum_append, asc_sum os (k + 1), List.sum_replicate_nat]
theorem asc_append : ∀ (os : List Nat) (x k : Nat), ascL (os ++ [x]) k = ascL os k ++ List.replicate x (k + os.length)
  | [], x, k => by simp [ascL]
  | o :: os, x, k => by
    rw [List.cons_append]
    unfold ascL
    rw [asc_append os x (k + 1), List.append_assoc, List.length_cons, Nat.add_assoc, Nat.add_comm 1]
theorem row_asc (os : List Nat) : ∀ n, n ≤ os.length → (rowOf os n).reverse = ascL (os.take n) 0
  | 0, _ => by simp [rowOf, ascL]
  | n + 1, h => by
    have e : os.take (n + 1) = os.take n ++ [os.getD n 0] := by
      rw [List.take_add_one, List.getD_eq_getElem?_getD, List.getElem?_eq_getElem (by omega)]
      simp
    rw [e, asc_append, ← row_asc os n (by omega), rowOf, List.reverse_append, List.reverse_replicate, List.length_take, Nat.min_eq_left (by omega), Nat.zero_add]
theorem row_all (os : List Nat) : (rowOf os os.length).reverse = ascL os 0 := by
  rw [row_asc os os.length (Nat.le_refl _), List.take_length]
theorem lowM_nth (os : List Nat) : lowM os = nthA os 0 ((os.sum - 1) / 2) := by
  unfold lowM
  rw [row_all, asc_getD]
theorem highM_nth (os : List Nat) : highM os = nthA os 0 (os.sum / 2) := by
  unfold highM
  rw [row_all, asc_getD]
theorem row_dot (os : List Nat) : (rowOf os os.length).sum = dotA os 0 := by
  rw [← List.sum_reverse, row_all, asc_sum]
section
open PySem.Float64
theorem right_unique {r r' : UInt64} {neg : Bool} {W D W' D' : Nat} (hD : 0 < D) (hD' : 0 < D') (h : Right r neg W D) (h' : Right r' neg W' D') (e : W * D' = W' * D) : r = r' := by
  obtain ⟨t, rfl, h1, h2, h3⟩ := h
  obtain ⟨t', rfl, h1', h2', h3'⟩ := h'
  have hK : 0 < D * D' := Nat.mul_pos hD hD'
  have sc : ∀ s, Float64.dist (W * D') (D * D' * V s) = D' * Float64.dist W (D * V s) := fun s => by
    rw [← dist_mul, Nat.mul_comm W D', Nat.mul_comm D D', Nat.mul_assoc]
  have sc' : ∀ s, Float64.dist (W * D') (D * D' * V s) = D * Float64.dist W' (D' * V s) := fun s => by
    rw [e, ← dist_mul, Nat.mul_comm W' D, Nat.mul_assoc]
  have q1 : t < infMag → ∀ s, Float64.dist (W * D') (D * D' * V t) ≤ Float64.dist (W * D') (D * D' * V s) ∧ (V s ≠ V t → Float64.dist (W * D') (D * D' * V t) = Float64.dist (W * D') (D * D' * V s) → t % 2 = 0) := fun hl s => by
    rw [sc, sc]
    exact ⟨Nat.mul_le_mul_left _ (h3 hl s).1, fun a b => (h3 hl s).2 a (Nat.eq_of_mul_eq_mul_left hD' b)⟩
  have q2 : t' < infMag → ∀ s, Float64.dist (W * D') (D * D' * V t') ≤ Float64.dist (W * D') (D * D' * V s) ∧ (V s ≠ V t' → Float64.dist (W * D') (D * D' * V t') = Float64.dist (W * D') (D * D' * V s) → t' % 2 = 0) := fun hl s => by
    rw [sc', sc']
    exact ⟨Nat.mul_le_mul_left _ (h3' hl s).1, fun a b => (h3' hl s).2 a (Nat.eq_of_mul_eq_mul_left hD b)⟩
  clear sc sc' h3 h3'
  have over : D * ((2 ^ 54 - 1) * 2 ^ 2045) ≤ 2 * W ↔ D' * ((2 ^ 54 - 1) * 2 ^ 2045) ≤ 2 * W' := by
    generalize (2 ^ 54 - 1) * 2 ^ 2045 = c
    constructor
    · intro a
      refine Nat.le_of_mul_le_mul_left ?_ hD
      have := Nat.mul_le_mul_left D' a
      rw [← Nat.mul_assoc D', Nat.mul_comm D' D, Nat.mul_assoc] at this
      refine Nat.le_trans this (Nat.le_of_eq ?_)
      rw [Nat.mul_left_comm D' 2 W, Nat.mul_comm D' W, e, Nat.mul_left_comm D 2 W', Nat.mul_comm D W']
    · intro a
      refine Nat.le_of_mul_le_mul_left ?_ hD'
      have := Nat.mul_le_mul_left D a
      rw [← Nat.mul_assoc D, Nat.mul_comm D D', Nat.mul_assoc] at this
      refine Nat.le_trans this (Nat.le_of_eq ?_)
      rw [Nat.mul_left_comm D 2 W', Nat.mul_comm D W', ← e, Nat.mul_left_comm D' 2 W, Nat.mul_comm D' W]
  rw [over, ← h2'] at h2
  have key : t = t' := by
    rcases Nat.lt_or_ge t infMag with g | g
    · have g' : t' < infMag := by
        rcases Nat.lt_or_ge t' infMag with z | z
        · exact z
        · have := h2.mpr (by omega); omega
      have p1 := q1 g
      have p2 := q2 g'
      clear q1 q2 h2 h2' over e
      generalize W * D' = X at p1 p2
      have mono : ∀ a b, a < b → D * D' * V a < D * D' * V b := fun a b h => Nat.mul_lt_mul_of_pos_left (V_lt h) hK
      have vne : ∀ a b, a ≠ b → V a ≠ V b := fun a b h => by
        rcases Nat.lt_or_gt_of_ne h with z | z
        · have := V_lt z; omega
        · have := V_lt z; omega
      generalize D * D' = K at *
      rcases Nat.lt_trichotomy t t' with z | z | z
      · have e1 : Float64.dist X (K * V t) = Float64.dist X (K * V t') := Nat.le_antisymm (p1 t').1 (p2 t).1
        have a1 := (p1 t').2 (vne _ _ (by omega)) e1
        have a2 := (p2 t).2 (vne _ _ (by omega)) e1.symm
        have b1 := mono t (t + 1) (by omega)
        have b2 := mono (t + 1) t' (by omega)
        have c1 := (p1 (t + 1)).1
        unfold Float64.dist at e1 c1
        generalize K * V t = va at *
        generalize K * V t' = vb at *
        generalize K * V (t + 1) = vc at *
        omega
      · exact z
      · have e1 : Float64.dist X (K * V t) = Float64.dist X (K * V t') := Nat.le_antisymm (p1 t').1 (p2 t).1
        have a1 := (p1 t').2 (vne _ _ (by omega)) e1
        have a2 := (p2 t).2 (vne _ _ (by omega)) e1.symm
        have b1 := mono t' (t' + 1) (by omega)
        have b2 := mono (t' + 1) t (by omega)
        have c1 := (p2 (t' + 1)).1
        unfold Float64.dist at e1 c1
        generalize K * V t = va at *
        generalize K * V t' = vb at *
        generalize K * V (t' + 1) = vc at *
        omega
    · have := h2.mp (by omega); omega
  rw [key]
theorem end_ps (S : Nat) : fsumEnd (psOf S) = ofInt (S : Int) := by
  by_cases h : S = 0
  · subst h
    exact RL.zero_ofInt.symm
  · rw [psOf, if_neg h]
    rfl
theorem div_nat {S N : Nat} (hS : S < 2 ^ 53) (hN : N < 2 ^ 53) (h0 : 0 < N) : Right (div (ofInt (S : Int)) (ofInt (N : Int))) false (S * 2 ^ 1074 * 2 ^ 1074) (N * 2 ^ 1074) := by
  obtain ⟨m, e, ha, va⟩ := RL.dec_nat hS
  obtain ⟨k, f, hb, vb⟩ := RL.dec_nat hN
  have hk : k ≠ 0 := by
    rintro rfl
    have h1 := val_natAbs hb
    rw [vb, Int.natAbs_natCast, Nat.zero_mul] at h1
    have := Nat.mul_pos h0 (Nat.two_pow_pos 1074)
    omega
  have := div_right ha hb hk
  rw [va, vb, Int.natAbs_natCast, Int.natAbs_natCast] at this
  exact this
theorem flt_same {S N T : Nat} (hS : S < 2 ^ 53) (hN : N < 2 ^ 53) (hT : T < 2 ^ 53) (h0 : 0 < N) (h : 12 * S = N * T) : fltB S N T = fltB T 12 T := by
  have e : div (ofInt (S : Int)) (ofInt (N : Int)) = div (ofInt (T : Int)) (ofInt ((12 : Nat) : Int)) := by
    refine right_unique (Nat.mul_pos h0 (Nat.two_pow_pos _)) (Nat.mul_pos (by decide) (Nat.two_pow_pos _)) (div_nat hS hN h0) (div_nat hT (by decide) (by decide)) ?_
    generalize (2 : Nat) ^ 1074 = c
    have : S * c * c * (12 * c) = 12 * S * (c * c * c) := by ac_rfl
    rw [this, h]
    ac_rfl
  unfold fltB
  rw [end_ps, end_ps, e]
end
theorem flt48 : (List.range 49).all (fun T => fltB T 12 T) = true := by decide +kernel
theorem nthA_spec : ∀ (os : List Nat) (k i : Nat), i < os.sum → ∃ j, nthA os k i = k + j ∧ j < os.length ∧ (os.take j).sum ≤ i ∧ i < (os.take (j + 1)).sum
  | [], _, _, h => by simp at h
  | o :: os, k, i, h => by
    unfold nthA
    by_cases g : i < o
    · exact ⟨0, by rw [if_pos g]; rfl, by simp, by simp, by simpa using g⟩
    · rw [List.sum_cons] at h
      obtain ⟨j, h1, h2, h3, h4⟩ := nthA_spec os (k + 1) (i - o) (by omega)
      refine ⟨j + 1, by rw [if_neg g, h1]; omega, by simpa using h2, ?_, ?_⟩
      · rw [List.take_succ_cons, List.sum_cons]; omega
      · rw [List.take_succ_cons, List.sum_cons]; omega
theorem take_mono : ∀ (os : List Nat) (a b : Nat), a ≤ b → (os.take a).sum ≤ (os.take b).sum
  | [], _, _, _ => by simp
  | o :: os, 0, b, _ => by simp
  | o :: os, a + 1, 0, h => by omega
  | o :: os, a + 1, b + 1, h => by
    rw [List.take_succ_cons, List.take_succ_cons, List.sum_cons, List.sum_cons]
    have := take_mono os a b (by omega)
    omega
theorem low_ok {os : List Nat} (h : 0 < os.sum) : lowM os ∈ lowF os ∧ ∀ x ∈ lowF os, lowM os ≤ x := by
  rw [lowM_nth]
  obtain ⟨j, h1, h2, h3, h4⟩ := nthA_spec os 0 ((os.sum - 1) / 2) (by omega)
  rw [h1, Nat.zero_add]
  unfold lowF
  refine ⟨List.mem_filter.mpr ⟨List.mem_range.mpr h2, decide_eq_true (by omega)⟩, fun x hx => ?_⟩
  have hx2 := of_decide_eq_true (List.mem_filter.mp hx).2
  rcases Nat.lt_or_ge x j with q | q
  · have := take_mono os (x + 1) j (by omega)
    omega
  · exact q
theorem high_ok {os : List Nat} (h : 0 < os.sum) : highM os ∈ highF os ∧ ∀ x ∈ highF os, highM os ≤ x := by
  rw [highM_nth]
  obtain ⟨j, h1, h2, h3, h4⟩ := nthA_spec os 0 (os.sum / 2) (by omega)
  rw [h1, Nat.zero_add]
  unfold highF
  refine ⟨List.mem_filter.mpr ⟨List.mem_range.mpr h2, decide_eq_true (by omega)⟩, fun x hx => ?_⟩
  have hx2 := of_decide_eq_true (List.mem_filter.mp hx).2
  rcases Nat.lt_or_ge x j with q | q
  · have := take_mono os (x + 1) j (by omega)
    omega
  · exact q
def mostA : List Nat → Nat → Nat → List Nat
  | [], _, _ => []
  | o :: os, m, k => if o = m then k :: mostA os m (k + 1) else mostA os m (k + 1)
theorem most_eq (os : List Nat) (m : Nat) : ∀ (ys : List Nat) (k : Nat), ys = os.drop k → (List.range' k ys.length).filter (fun i => os.getD i 0 == m) = mostA ys m k
  | [], _, _ => rfl
  | y :: ys, k, h => by
    have e1 : os.getD k 0 = y := by
      have := congrArg (fun l => l[0]?) h
      simp only [List.getElem?_cons_zero, List.getElem?_drop, Nat.add_zero] at this
      rw [List.getD_eq_getElem?_getD, ← this]; rfl
    have e2 : ys = os.drop (k + 1) := by
      have := congrArg List.tail h
      rwa [List.tail_cons, List.tail_drop] at this
    rw [List.length_cons, List.range'_succ, List.filter_cons, e1, most_eq os m ys (k + 1) e2, mostA]
    by_cases g : y = m
    · rw [if_pos (by simpa using g), if_pos g]
    · rw [if_neg (by simpa using g), if_neg g]
theorem most_mostA (os : List Nat) : (List.range os.length).filter (fun k => os.getD k 0 == mxL os) = mostA os (mxL os) 0 := by
  rw [List.range_eq_range', most_eq os (mxL os) os 0 rfl]
def goodN (own : List Nat) (N T nb a lm hm : Nat) : Bool :=
  (i2d a 9 ++ (List.replicate (((toZ own).length : Int) - ((i2d a 9).length : Int)).toNat [0]).flatten == toZ own) && decide (N ≤ 256) && decide (0 < N) && decide (T ≤ 48) && decide (T / 12 ≤ nb) && decide (a < 2 ^ 60) &&
  dueB (mostA own (mxL own) 0) (T / 12) (T % 12) nb &&
  decide (T / 12 ≤ lm) && decide (hm ≤ if T % 12 = 0 then T / 12 else T / 12 + 1) && decide (12 * dotA own 0 = N * T) && decide (dotA own 0 ≤ 1024)
def goodQ (nb : Nat) (s : List Nat × Nat × Nat) : Bool := goodN s.1 s.1.sum s.2.1 nb s.2.2 (nthA s.1 0 ((s.1.sum - 1) / 2)) (nthA s.1 0 (s.1.sum / 2))
theorem goodQ_ok {own : List Nat} {T nb a : Nat} (h : goodQ nb (own, T, a) = true) : goodS own T nb a = true := by
  unfold goodQ goodN at h
  simp only [Bool.and_eq_true, decide_eq_true_eq] at h
  obtain ⟨⟨⟨⟨⟨⟨⟨⟨⟨⟨h1, h2⟩, h3⟩, h4⟩, h5⟩, h6⟩, h7⟩, h8⟩, h9⟩, h14⟩, h15⟩ := h
  have hf : fltB (rowOf own own.length).sum own.sum T = true := by
    rw [row_dot, flt_same (by omega) (by omega) (by omega) h3 h14]
    exact List.all_eq_true.mp flt48 T (List.mem_range.mpr (by omega))
  rw [← lowM_nth] at h8
  rw [← highM_nth] at h9
  rw [← most_mostA] at h7
  unfold goodS
  simp only [Bool.and_eq_true, decide_eq_true_eq, List.all_eq_true, List.contains_iff_mem]
  exact ⟨⟨⟨⟨⟨⟨⟨⟨⟨⟨⟨⟨⟨h1, h2⟩, h3⟩, by omega⟩, h5⟩, h6⟩, h7⟩, h8⟩, h9⟩, (low_ok h3).1⟩, (low_ok h3).2⟩, (high_ok h3).1⟩, (high_ok h3).2⟩, hf⟩
def stepQ (s : List Nat × Nat × Nat) (p : Nat × Nat) : List Nat × Nat × Nat := (figStep s.1 p, s.2.1 + 12 / p.1 * p.2, s.2.2 * facOf p)
def goX (g : List (Nat × Nat) → List Nat × Nat × Nat → Bool) : List (Nat × Nat) → List Nat × Nat × Nat → Bool
  | [], _ => true
  | x :: xs, s => g (x :: xs) (stepQ s x) && goX g xs s
def allK (f : List Nat × Nat × Nat → Bool) : Nat → List (Nat × Nat) → List Nat × Nat × Nat → Bool
  | 0 => fun _ s => f s
  | k + 1 => goX (allK f k)
theorem goX_intro {g : List (Nat × Nat) → List Nat × Nat × Nat → Bool} {x : Nat × Nat} {xs : List (Nat × Nat)} {s : List Nat × Nat × Nat} (h1 : g (x :: xs) (stepQ s x) = true) (h2 : goX g xs s = true) : goX g (x :: xs) s = true := by
  rw [goX, h1, h2]; rfl
theorem allK_all (f : List Nat × Nat × Nat → Bool) : ∀ (k : Nat) (xs bs : List (Nat × Nat)) (s : List Nat × Nat × Nat), allK f k xs s = true → bs.length = k → (∀ p ∈ bs, p ∈ xs) → ∃ bs' : List (Nat × Nat), bs'.Perm bs ∧ f (bs'.foldl stepQ s) = true := by
  intro k
  induction k with
  | zero =>
    intro xs bs s h hl _
    exact ⟨[], by rw [List.eq_nil_of_length_eq_zero hl], h⟩
  | succ k ih =>
    intro xs
    induction xs with
    | nil =>
      intro bs s _ hl hm
      cases bs with
      | nil => simp at hl
      | cons p bs => exact absurd (hm p List.mem_cons_self) List.not_mem_nil
    | cons x xs ih2 =>
      intro bs s h hl hm
      have h' : (allK f k (x :: xs) (stepQ s x) && allK f (k + 1) xs s) = true := h
      rw [Bool.and_eq_true] at h'
      by_cases hx : x ∈ bs
      · have hp := List.perm_cons_erase hx
        have hl' : (bs.erase x).length = k := by rw [List.length_erase_of_mem hx]; omega
        obtain ⟨b', hp', hf⟩ := ih (x :: xs) (bs.erase x) (stepQ s x) h'.1 hl' fun p hp => hm p (List.mem_of_mem_erase hp)
        exact ⟨x :: b', (hp'.cons x).trans hp.symm, hf⟩
      · exact ih2 bs s h'.2 hl fun p hp => by
          rcases List.mem_cons.mp (hm p hp) with e | e
          · exact absurd (e ▸ hp) hx
          · exact e
theorem foldQ : ∀ (bs : List (Nat × Nat)) (own : List Nat) (T a : Nat), bs.foldl stepQ (own, T, a) = (bs.foldl figStep own, T + tw bs, bs.foldl (fun x p => x * facOf p) a)
  | [], _, _, _ => by simp [tw]
  | p :: bs, own, T, a => by
    rw [List.foldl_cons, List.foldl_cons, List.foldl_cons]
    rw [show stepQ (own, T, a) p = (figStep own p, T + 12 / p.1 * p.2, a * facOf p) from rfl, foldQ bs]
    simp only [tw, List.map_cons, List.sum_cons, Nat.add_assoc]
theorem gq2 : allK (goodQ 2) 2 boxes12 ([1], 0, 1) = true := by decide +kernel
theorem gq3 : allK (goodQ 3) 3 boxes12 ([1], 0, 1) = true := by decide +kernel
theorem gc0 : allK (goodQ 4) 3 [(2, 0), (2, 1), (2, 2), (3, 0), (3, 1), (3, 2), (3, 3), (4, 0), (4, 1), (4, 2), (4, 3), (4, 4)] (stepQ ([1], 0, 1) (2, 0)) = true := by decide +kernel
theorem gc1 : allK (goodQ 4) 3 [(2, 1), (2, 2), (3, 0), (3, 1), (3, 2), (3, 3), (4, 0), (4, 1), (4, 2), (4, 3), (4, 4)] (stepQ ([1], 0, 1) (2, 1)) = true := by decide +kernel
theorem gc2 : allK (goodQ 4) 3 [(2, 2), (3, 0), (3, 1), (3, 2), (3, 3), (4, 0), (4, 1), (4, 2), (4, 3), (4, 4)] (stepQ ([1], 0, 1) (2, 2)) = true := by decide +kernel
theorem gc3 : allK (goodQ 4) 3 [(3, 0), (3, 1), (3, 2), (3, 3), (4, 0), (4, 1), (4, 2), (4, 3), (4, 4)] (stepQ ([1], 0, 1) (3, 0)) = true := by decide +kernel
theorem gc4 : allK (goodQ 4) 3 [(3, 1), (3, 2), (3, 3), (4, 0), (4, 1), (4, 2), (4, 3), (4, 4)] (stepQ ([1], 0, 1) (3, 1)) = true := by decide +kernel
theorem gc5 : allK (goodQ 4) 3 [(3, 2), (3, 3), (4, 0), (4, 1), (4, 2), (4, 3), (4, 4)] (stepQ ([1], 0, 1) (3, 2)) = true := by decide +kernel
theorem gc6 : allK (goodQ 4) 3 [(3, 3), (4, 0), (4, 1), (4, 2), (4, 3), (4, 4)] (stepQ ([1], 0, 1) (3, 3)) = true := by decide +kernel
theorem gc7 : allK (goodQ 4) 3 [(4, 0), (4, 1), (4, 2), (4, 3), (4, 4)] (stepQ ([1], 0, 1) (4, 0)) = true := by decide +kernel
theorem gc8 : allK (goodQ 4) 3 [(4, 1), (4, 2), (4, 3), (4, 4)] (stepQ ([1], 0, 1) (4, 1)) = true := by decide +kernel
theorem gc9 : allK (goodQ 4) 3 [(4, 2), (4, 3), (4, 4)] (stepQ ([1], 0, 1) (4, 2)) = true := by decide +kernel
theorem gc10 : allK (goodQ 4) 3 [(4, 3), (4, 4)] (stepQ ([1], 0, 1) (4, 3)) = true := by decide +kernel
theorem gc11 : allK (goodQ 4) 3 [(4, 4)] (stepQ ([1], 0, 1) (4, 4)) = true := by decide +kernel
theorem gq4 : allK (goodQ 4) 4 boxes12 ([1], 0, 1) = true := goX_intro gc0 (goX_intro gc1 (goX_intro gc2 (goX_intro gc3 (goX_intro gc4 (goX_intro gc5 (goX_intro gc6 (goX_intro gc7 (goX_intro gc8 (goX_intro gc9 (goX_intro gc10 (goX_intro gc11 (rfl))))))))))))
theorem goodB_perm {l l' : List (Nat × Nat)} (h : l.Perm l') : goodB l = goodB l' := by
  unfold goodB
  rw [perm_figs h, perm_tw h, perm_numb h, h.length_eq]
theorem good_of {n : Nat} {bs : List (Nat × Nat)} (h : allK (goodQ n) n boxes12 ([1], 0, 1) = true) (hl : bs.length = n) (hm : ∀ p ∈ bs, p ∈ boxes12) : goodB bs = true := by
  obtain ⟨b', hp, hf⟩ := allK_all _ _ _ _ _ h hl hm
  rw [← goodB_perm hp]
  rw [foldQ] at hf
  have := goodQ_ok hf
  unfold goodB
  rw [hp.length_eq, hl]
  rw [Nat.zero_add] at this
  exact this
theorem good_all {bs : List (Nat × Nat)} (hl : bs.length = 2 ∨ bs.length = 3 ∨ bs.length = 4) (hm : ∀ p ∈ bs, p ∈ boxes12) : goodB bs = true := by
  rcases hl with e | e | e
  · exact good_of gq2 e hm
  · exact good_of gq3 e hm
  · exact good_of gq4 e hm
theorem in12 {b w : Nat} (h1 : 2 ≤ b) (h2 : b ≤ 4) (h3 : w ≤ b) : (b, w) ∈ boxes12 := by
  have hb : b = 2 ∨ b = 3 ∨ b = 4 := by omega
  have hw : w = 0 ∨ w = 1 ∨ w = 2 ∨ w = 3 ∨ w = 4 := by omega
  rcases hb with rfl | rfl | rfl <;> rcases hw with rfl | rfl | rfl | rfl | rfl <;> first | (exfalso; omega) | decide
end RL
end
theorem RL.off_RLta : True := by
  w_top off
  trivial
section
open PySem PySem.W PyProof.Rows PySem.Calls
set_option maxRecDepth 100000
set_option maxHeartbeats 1000000
namespace RL
/-- the boxes' tuples in a ledger -/
def BoxL : List Value → List (Nat × Nat) → List (Addr × Obj) → Prop
  | [], [], [] => True
  | v :: vs, p :: bs, q :: tl => v = .ref q.1 ∧ (∃ t u e, q.2 = tupOf #[.int (p.1 : Nat) t, .int (p.2 : Nat) u] e) ∧ BoxL vs bs tl
  | _, _, _ => False
theorem BoxL.boxes {h₀ h : Heap} {L : Addr} : ∀ {vs : List Value} {bs : List (Nat × Nat)} {tl : List (Addr × Obj)}, BoxL vs bs tl → News h₀ L h tl → Boxes h vs bs
  | [], [], _, _, _ => trivial
  | v :: vs, p :: bs, q :: tl, ⟨e1, ⟨t, u, e, e2⟩, B⟩, N => ⟨⟨q.1, t, u, e, e1, by rw [← e2]; exact (N q List.mem_cons_self).1⟩, B.boxes fun x hx => N x (List.mem_cons_of_mem _ hx)⟩
  | [], _ :: _, _, B, _ => B.elim
  | _ :: _, [], _, B, _ => B.elim
  | _ :: _, _ :: _, [], B, _ => B.elim
theorem BoxL.length : ∀ {vs : List Value} {bs : List (Nat × Nat)} {tl : List (Addr × Obj)}, BoxL vs bs tl → vs.length = bs.length
  | [], [], _, _ => rfl
  | _ :: _, _ :: _, _ :: _, ⟨_, _, B⟩ => by rw [List.length_cons, List.length_cons, B.length]
  | [], _ :: _, _, B => B.elim
  | _ :: _, [], _, B => B.elim
  | _ :: _, _ :: _, [], B => B.elim
theorem BoxL.noCode : ∀ {vs : List Value} {bs : List (Nat × Nat)} {tl : List (Addr × Obj)}, BoxL vs bs tl → NoCode tl
  | [], [], [], _ => noCode_nil
  | [], [], _ :: _, B => B.elim
  | _ :: _, _ :: _, q :: _, ⟨_, ⟨_, _, _, e2⟩, B⟩ => noCode_cons (by rw [e2]; exact noC_seq rfl) B.noCode
  | [], _ :: _, _, B => B.elim
  | _ :: _, [], _, B => B.elim
  | _ :: _, _ :: _, [], B => B.elim
theorem Boxes.take {h : Heap} : ∀ {vs : List Value} {bs : List (Nat × Nat)} (k : Nat), Boxes h vs bs → Boxes h (vs.take k) (bs.take k)
  | [], [], k, _ => by rw [List.take_nil, List.take_nil]; trivial
  | _ :: _, _ :: _, 0, _ => trivial
  | _ :: _, _ :: _, k + 1, ⟨a, B⟩ => ⟨a, B.take k⟩
  | [], _ :: _, _, B => B.elim
  | _ :: _, [], _, B => B.elim
theorem Boxes.drop {h : Heap} : ∀ {vs : List Value} {bs : List (Nat × Nat)} (k : Nat), Boxes h vs bs → Boxes h (vs.drop k) (bs.drop k)
  | [], [], k, _ => by rw [List.drop_nil, List.drop_nil]; trivial
  | _ :: _, _ :: _, 0, B => B
  | _ :: _, _ :: _, k + 1, ⟨_, B⟩ => B.drop k
  | [], _ :: _, _, B => B.elim
  | _ :: _, [], _, B => B.elim
theorem Boxes.append {h : Heap} {vs' : List Value} {bs' : List (Nat × Nat)} (B' : Boxes h vs' bs') : ∀ {vs : List Value} {bs : List (Nat × Nat)}, Boxes h vs bs → Boxes h (vs ++ vs') (bs ++ bs')
  | [], [], _ => B'
  | _ :: _, _ :: _, ⟨a, B⟩ => ⟨a, B'.append B⟩
  | [], _ :: _, B => B.elim
  | _ :: _, [], B => B.elim
theorem allNe_append {r : Addr} {b : List (Addr × Obj)} (hb : AllNe r b) : ∀ {a : List (Addr × Obj)}, AllNe r a → AllNe r (a ++ b)
  | [], _ => hb
  | _ :: _, h => ⟨h.1, allNe_append hb h.2⟩
theorem allNe_lt {r : Addr} {l : List (Addr × Obj)} (h : ∀ p ∈ l, p.1 < r) : AllNe r l := allNe_of fun p hp => Nat.ne_of_lt (h p hp)
/-- the product of the boxes' factors -/
theorem foldl_fac (bs : List (Nat × Nat)) : ∀ a : Nat, bs.foldl (fun x p => x * facOf p) a = a * numb bs := by
  unfold numb
  induction bs with
  | nil => intro a; rw [List.foldl_nil, List.foldl_nil, Nat.mul_one]
  | cons p bs ih => intro a; rw [List.foldl_cons, List.foldl_cons, ih, ih (1 * facOf p), Nat.one_mul, Nat.mul_assoc]
theorem numb_cons (p : Nat × Nat) (bs : List (Nat × Nat)) : numb (p :: bs) = facOf p * numb bs := by
  show (p :: bs).foldl _ 1 = _
  rw [List.foldl_cons, foldl_fac, Nat.one_mul]
theorem numb_append (a b : List (Nat × Nat)) : numb (a ++ b) = numb a * numb b := by
  show (a ++ b).foldl _ 1 = _
  rw [List.foldl_append, foldl_fac]; rfl
def delAt (bs : List (Nat × Nat)) (i : Nat) : List (Nat × Nat) := bs.take i ++ bs.drop (i + 1)
theorem numb_del {bs : List (Nat × Nat)} {i : Nat} (h : i < bs.length) : numb bs = facOf (bs.getD i (0, 0)) * numb (delAt bs i) := by
  have e : bs = bs.take i ++ bs.getD i (0, 0) :: bs.drop (i + 1) := by
    have g : bs.getD i (0, 0) = bs[i] := by simp [List.getD_eq_getElem?_getD, h]
    rw [g, List.getElem_cons_drop, List.take_append_drop]
  have e2 := congrArg numb e
  rw [e2]
  unfold delAt
  rw [numb_append, numb_append, numb_cons]
  rw [Nat.mul_left_comm]
theorem mem_del {bs : List (Nat × Nat)} {i : Nat} {p : Nat × Nat} (h : p ∈ delAt bs i) : p ∈ bs := by
  rcases List.mem_append.mp h with h | h
  · exact List.mem_of_mem_take h
  · exact List.mem_of_mem_drop h
theorem del_length {bs : List (Nat × Nat)} {i : Nat} (h : i < bs.length) : (delAt bs i).length = bs.length - 1 := by
  unfold delAt
  rw [List.length_append, List.length_take, List.length_drop]
  omega
theorem facOf_bd {p : Nat × Nat} (h : 2 ≤ p.1 ∧ p.2 ≤ p.1 ∧ p.1 ≤ 4) : 0 < facOf p ∧ facOf p ≤ 2052 := by
  unfold facOf
  omega
theorem numb_bd : ∀ {bs : List (Nat × Nat)}, (∀ p ∈ bs, 2 ≤ p.1 ∧ p.2 ≤ p.1 ∧ p.1 ≤ 4) → numb bs ≤ 2052 ^ bs.length
  | [], _ => Nat.le_refl _
  | p :: bs, h => by
    rw [numb_cons, List.length_cons, Nat.pow_succ, Nat.mul_comm]
    exact Nat.mul_le_mul (numb_bd fun q hq => h q (List.mem_cons_of_mem _ hq)) (facOf_bd (h p List.mem_cons_self)).2
theorem numb_lt {bs : List (Nat × Nat)} (h : ∀ p ∈ bs, 2 ≤ p.1 ∧ p.2 ≤ p.1 ∧ p.1 ≤ 4) (hl : bs.length ≤ 4) : numb bs < 2 ^ 60 := by
  have h1 := numb_bd h
  have h2 : 2052 ^ bs.length ≤ 2052 ^ 4 := Nat.pow_le_pow_right (by decide) hl
  have h3 : 2052 ^ 4 < 2 ^ 60 := by decide
  omega
theorem box_getD {bs : List (Nat × Nat)} (h : ∀ p ∈ bs, 2 ≤ p.1 ∧ p.2 ≤ p.1 ∧ p.1 ≤ 4) {i : Nat} (hi : i < bs.length) : 2 ≤ (bs.getD i (0, 0)).1 ∧ (bs.getD i (0, 0)).2 ≤ (bs.getD i (0, 0)).1 ∧ (bs.getD i (0, 0)).1 ≤ 4 := by
  simp only [List.getD_eq_getElem?_getD, List.getElem?_eq_getElem hi, Option.getD_some]
  exact h _ (List.getElem_mem hi)
theorem fac_getD {bs : List (Nat × Nat)} {i : Nat} (hi : i < bs.length) : (bs.map facOf).getD i 0 = facOf (bs.getD i (0, 0)) := by
  simp [List.getD_eq_getElem?_getD, List.getElem?_map, List.getElem?_eq_getElem hi]
/-- _law_holds is true of all boxes of law -/
theorem holds_all {w : World} {l : Addr} {ta : Tok} {bs : List (Nat × Nat)} (h : ∀ p ∈ bs, 2 ≤ p.1 ∧ p.2 ≤ p.1 ∧ p.1 ≤ 4) (hl : bs.length = 2 ∨ bs.length = 3 ∨ bs.length = 4) :
    HSpecT w 310 60 129 [.int (numb bs) ta, .ref l] (BoxesAt l bs) (fun _ v _ => v = .bool true) :=
  holds_good (good_all hl fun p hp => in12 (h p hp).1 (h p hp).2.2 (h p hp).2.1) (fun p hp => (h p hp).2) (fun p hp => by have := (h p hp).1; omega) (by omega)
section
variable {prog : Program} {w : World} {A : Around} {E : Value → Shared → Prop} {s : Shared} {env : Env} {h₀ : Heap} {x : Str} {body : List Stmt} {Q : Flow → Shared → Prop}
theorem list_ind {I : Addr} {lp : Addr × Obj} (C : List Value → (Str → Option Value) → List (Addr × Obj) → Prop)
    (h0 : ∀ m news, C [] m news → ListRest prog w A E h₀ env x body Q s I lp [] m news)
    (hs : ∀ v r m news, (∀ m' n', C r m' n' → ListRest prog w A E h₀ env x body Q s I lp r m' n') → C (v :: r) m news → ListRest prog w A E h₀ env x body Q s I lp (v :: r) m news) :
    ∀ vs m news, C vs m news → ListRest prog w A E h₀ env x body Q s I lp vs m news := by
  intro vs
  induction vs with
  | nil => exact h0
  | cons v r ih => exact fun m news hc => hs v r m news ih hc
end
theorem with_rng {P : Prop} {h₀ h : Heap} {L R0 : Addr} {n : Int} {t0 u0 v0 : Tok} {rest : List (Addr × Obj)} (N : News h₀ L h ((R0, rngObj n t0 u0 v0) :: rest)) (k : ∀ R t u v, R = R0 → t = t0 → u = u0 → v = v0 → News h₀ L h ((R, rngObj n t u v) :: rest) → P) : P :=
  k _ _ _ _ rfl rfl rfl rfl N
theorem ints_nil {gs : List Nat} (h : IntsAre [] (toZ gs)) : gs = [] := by
  cases gs with
  | nil => rfl
  | cons g gs => exact nomatch h
theorem ints_cons {v : Value} {r : List Value} {gs : List Nat} (h : IntsAre (v :: r) (toZ gs)) : ∃ (g : Nat) (gs' : List Nat) (tg : Tok), gs = g :: gs' ∧ v = .int (g : Int) tg ∧ IntsAre r (toZ gs') := by
  cases gs with
  | nil => exact nomatch h
  | cons g gs' =>
    unfold toZ at h
    cases h with
    | cons _ t h => exact ⟨g, gs', t, rfl, rfl, h⟩
theorem pick_to (vs : List Value) (i : Nat) : (slicePick vs.toArray none (some (i : Int)) none).toList = vs.take i := by rw [slicePick_upto']
theorem pick_from (vs : List Value) (i : Nat) : (slicePick vs.toArray (some ((i : Int) + 1)) none none).toList = vs.drop (i + 1) := by
  rw [show (i : Int) + 1 = ((i + 1 : Nat) : Int) from rfl, slicePick_from']
theorem tbl_ne {h₀ : Heap} {r : Addr} {tb : List (Addr × Obj)} (T : TBl h₀ tb) (h : AllNe r tb) : Nq 65 r ∧ Nq 58 r := by
  obtain ⟨t1, t2, a, b, rfl, -, -⟩ := T
  exact ⟨h.1, h.2.1⟩
def tb0 : List (Addr × Obj) := [(65, tabObj #[]), (58, tabObj #[]), (58, tabObj #[]), (65, tabObj #[])]
theorem boxes_to3 {h₀ h : Heap} {L D0 A0 A1 A2 c2 : Addr} {o0 o1 o2 ob oc2' : Obj} {x1 x2 x3 x4 : Addr × Obj} {p1 p2 p3 : Obj} (N : News h₀ L h [(D0, ob), (A2, o2), (A1, o1), (A0, o0), x1, x2, x3, (c2, oc2'), x4, (100, p3), (65, p2), (58, p1)]) :
    News h₀ L h ((D0, ob) :: (c2, oc2') :: (100, p3) :: ([(A0, o0), (A1, o1), (A2, o2)] ++ [(65, p2), (58, p1), (58, p1), (65, p2)])) :=
  News.sub N (fun q hq => by
    simp only [List.mem_cons, List.mem_append, List.not_mem_nil, or_false] at hq ⊢
    rcases hq with e | e | e | (e | e | e) | e | e | e | e <;> simp [e])
theorem boxes_to4 {h₀ h : Heap} {L D0 A0 A1 A2 A3 c2 : Addr} {o0 o1 o2 o3 ob oc2' : Obj} {x1 x2 x3 x4 : Addr × Obj} {p1 p2 p3 : Obj} (N : News h₀ L h [(D0, ob), (A3, o3), (A2, o2), (A1, o1), (A0, o0), x1, x2, x3, (c2, oc2'), x4, (100, p3), (65, p2), (58, p1)]) :
    News h₀ L h ((D0, ob) :: (c2, oc2') :: (100, p3) :: ([(A0, o0), (A1, o1), (A2, o2), (A3, o3)] ++ [(65, p2), (58, p1), (58, p1), (65, p2)])) :=
  News.sub N (fun q hq => by
    simp only [List.mem_cons, List.mem_append, List.not_mem_nil, or_false] at hq ⊢
    rcases hq with e | e | e | (e | e | e | e) | e | e | e | e <;> simp [e])
/-- what the statements of law do from the boxes on -/
def TailP (prog : Program) (w : World) (h₀ : Heap) (L : Addr) (A : Around) (env : Env) (st : List Stmt) : Prop :=
  ∀ (n : Nat) (tn : Tok) (bs : List (Nat × Nat)) (vs : List Value) (tl : List (Addr × Obj)) (DB : Addr) (e : Nat) (oS : Obj) (mB : Str → Option Value) (s : Shared) (Q : Flow → Shared → Prop) (E : Value → Shared → Prop),
    PassesOwn (model prog w) A env E → bs.length = n → (n = 3 ∨ n = 4) → (∀ p ∈ bs, 2 ≤ p.1 ∧ p.2 ≤ p.1 ∧ p.1 ≤ 4) → BoxL vs bs tl → oS.data = .cell (some (.int (n : Int) tn)) →
    Fr h₀ L s.heap (fun z => if z = Str.ofString "boxes" then some (.ref DB) else mB z) →
    News h₀ L s.heap ((DB, listOf vs.toArray e) :: (L + 1 + 1, oS) :: (100, tabObj #[]) :: (tl ++ tb0)) →
    AllNe 58 ((DB, listOf vs.toArray e) :: tl) → AllNe 65 ((DB, listOf vs.toArray e) :: tl) →
    (∀ h tk tb m' rest, Fr h₀ L h m' → News h₀ L h ((100, tabObj #[]) :: (rest ++ tb)) → TBl h₀ tb → Q (.ret (.bool true)) { s with heap := h, toks := tk }) →
    wpAny (model prog w) A (execs st env) Q E s
theorem cut_tail {w : World} {A : Around} {env : Env} {s : Shared} {h₀ : Heap} {L : Addr} {m : Str → Option Value} {Q : Flow → Shared → Prop} {E : Value → Shared → Prop} {b : List Stmt} (_X : (hd.heap_39 w.params).In h₀) (_F : Fr h₀ L s.heap m)
    (t : TailP PySem.Challenge.rw_rl0068_01.prog w h₀ L A env (b.drop 3)) (k : TailP PySem.Challenge.rw_rl0068_01.prog w h₀ L A env (b.drop 3) → wpAny (model PySem.Challenge.rw_rl0068_01.prog w) A (execs b env) Q E s) :
    wpAny (model PySem.Challenge.rw_rl0068_01.prog w) A (execs b env) Q E s := k t
end RL
end
theorem RL.off_RLL : True := by
  w_top off
  trivial
section
open PySem PySem.W PyProof.Rows PySem.Calls
set_option maxRecDepth 100000
set_option maxHeartbeats 20000000
namespace RL
section
variable {prog : Program} {w : World} {A : Around} {E : Value → Shared → Prop} {s : Shared} {t u : Tok} {Q : Value → Shared → Prop}
theorem modP {x d : Int} (hd : 0 < d) (h : Q (.int (((x % d).toNat : Nat) : Int) s.toks) { s with toks := s.toks + 1 }) : wpAny (model prog w) A (binaryOp .Mod (.int x t) (.int d u)) Q E s := by
  refine mod_int' (by omega) ?_
  rw [Int.fmod_eq_emod_of_nonneg _ (by omega), ← Int.toNat_of_nonneg (Int.emod_nonneg x (by omega))]
  exact h
theorem add2 {b : Nat} (h : Q (.int ((2 + b : Nat) : Int) s.toks) { s with toks := s.toks + 1 }) : wpAny (model prog w) A (binaryOp .Add (.int 2 t) (.int (b : Int) u)) Q E s := addN (a := 2) h
theorem add3 {b : Nat} (h : Q (.int ((3 + b : Nat) : Int) s.toks) { s with toks := s.toks + 1 }) : wpAny (model prog w) A (binaryOp .Add (.int 3 t) (.int (b : Int) u)) Q E s := addN (a := 3) h
end
theorem news_rot {h₀ h : Heap} {L : Addr} {a b c d : Addr × Obj} {r : List (Addr × Obj)} (N : News h₀ L h (a :: b :: c :: d :: r)) : News h₀ L h (b :: c :: d :: a :: r) := News.sub N fun q hq => by
  simp only [List.mem_cons] at hq ⊢
  rcases hq with e | e | e | e | e <;> simp [e]
theorem ltNe {a b : Addr} {o : Obj} : ∀ {l : List (Addr × Obj)}, AllLt b l → (a, o) ∈ l → @Ne Nat a b
  | _ :: _, h, m => by
    rcases List.mem_cons.mp m with e | e
    · have h1 := h.1
      rw [← e] at h1
      exact Nat.ne_of_lt h1
    · exact ltNe h.2 e
theorem boxW {z : Int} {m : Nat} : (z.fdiv 3 % ((3 + m : Nat) : Int)).toNat ≤ 2 + m := by
  have := Int.emod_lt_of_pos (z.fdiv 3) (b := ((3 + m : Nat) : Int)) (by omega)
  omega
theorem boxM {z : Int} : (z % 3).toNat ≤ 2 := by omega
def Yfac (bs : List (Nat × Nat)) (i : Nat) (y : Value) : Prop := ∃ t : Tok, y = .int ((facOf (bs.getD i (0, 0)) : Nat) : Int) t
theorem fac_ints {bs : List (Nat × Nat)} {zs : List Value} (hl : zs.length = bs.length) (hY : ∀ (i : Nat) (y : Value), zs[i]? = some y → Yfac bs i y) : IntsAre zs (toZ (bs.map facOf)) := by
  refine intsZ_of (by simp [hl]) fun i y hy => ?_
  obtain ⟨t, ht⟩ := hY i y hy
  have hi : i < bs.length := by
    rcases Nat.lt_or_ge i zs.length with h | h
    · omega
    · rw [List.getElem?_eq_none h] at hy; exact nomatch hy
  refine ⟨t, ?_⟩
  rw [ht]
  simp [List.getD_eq_getElem?_getD, hi]
theorem yfac_of {bs : List (Nat × Nat)} {i pa pb : Nat} {t : Tok} (h1 : (bs.getD i (0, 0)).1 = pa) (h2 : (bs.getD i (0, 0)).2 = pb) : Yfac bs i (.int (((pa - pb : Nat) : Int) + 2 ^ Int.toNat 9 * (pb : Int)) t) := ⟨t, by
  unfold facOf
  rw [h1, h2, Int.natCast_add, Int.natCast_mul]
  rfl⟩
theorem off1_all {D : Addr} : ∀ {l : List (Addr × Obj)}, LCg.Off1 D l → AllNe D l
  | [], _ => trivial
  | _ :: _, h => ⟨h.1, off1_all h.2⟩
theorem noC_itR {x y : Int} : NoC1 (itR x y) := fun vs qs tk hd => by
  have e : #[rawInt x, rawInt y, rawInt 1] = vs := Data.fields.inj hd
  subst e
  exact nofun
theorem drop3 {P : Prop} {h₀ h : Heap} {L X0 : Addr} {o : Obj} {a b c : Addr × Obj} {r : List (Addr × Obj)} (N : News h₀ L h ((X0, o) :: a :: b :: c :: r)) (k : ∀ X, X = X0 → News h₀ L h ((X, o) :: r) → P) : P :=
  k _ rfl (News.sub N fun q hq => by
    simp only [List.mem_cons] at hq ⊢
    rcases hq with e | e <;> simp [e])
theorem noC_nil : NoC1 (tabObj #[]) := fun vs qs tk hd => by
  have e : (#[] : Array Value) = vs := Data.fields.inj hd
  subst e
  simp
theorem ints_pop {n : Nat} {zs : List Value} (hl : zs.length = n + 1) (hY : ∀ (i : Nat) (y : Value), zs[i]? = some y → ∃ z t, y = Value.int z t) : ∃ z t r, zs = Value.int z t :: r ∧ r.length = n ∧ ∀ (i : Nat) (y : Value), r[i]? = some y → ∃ z t, y = Value.int z t := by
  cases zs with
  | nil => exact absurd hl (Nat.succ_ne_zero n).symm
  | cons a r =>
    obtain ⟨z, t, rfl⟩ := hY 0 a rfl
    exact ⟨z, t, r, rfl, Nat.succ.inj hl, fun i y hy => hY (i + 1) y hy⟩
theorem three_ints {zs : List Value} (hl : zs.length = 3) (hY : ∀ (i : Nat) (y : Value), zs[i]? = some y → ∃ z t, y = Value.int z t) : ∃ z0 t0 z1 t1 z2 t2, zs = [Value.int z0 t0, .int z1 t1, .int z2 t2] := by
  obtain ⟨z0, t0, r0, rfl, hl, hY⟩ := ints_pop hl hY
  obtain ⟨z1, t1, r1, rfl, hl, hY⟩ := ints_pop hl hY
  obtain ⟨z2, t2, r2, rfl, hl, hY⟩ := ints_pop hl hY
  obtain rfl := List.eq_nil_of_length_eq_zero hl
  exact ⟨z0, t0, z1, t1, z2, t2, rfl⟩
theorem four_ints {zs : List Value} (hl : zs.length = 4) (hY : ∀ (i : Nat) (y : Value), zs[i]? = some y → ∃ z t, y = Value.int z t) : ∃ z0 t0 z1 t1 z2 t2 z3 t3, zs = [Value.int z0 t0, .int z1 t1, .int z2 t2, .int z3 t3] := by
  obtain ⟨z0, t0, r0, rfl, hl, hY⟩ := ints_pop hl hY
  obtain ⟨z1, t1, z2, t2, z3, t3, rfl⟩ := three_ints hl hY
  exact ⟨z0, t0, z1, t1, z2, t2, z3, t3, rfl⟩
section
local macro_rules | `(tactic| walk_at "execs cons") => `(tactic| ((with_reducible refine wpAny_execs_cons ?_); (try dsimp only); (try k_fold)))
local macro_rules | `(tactic| walk_at $k:str) => if ["eval ListComp", "exec Assign cons ListComp", "call type:enumerate", "CompEnd", "CompSrc", "call builtin:sum", "UnrEnd", "binaryOp Add ref ref", "exec For Name Name cons nil", "exec For Name Call cons nil"].contains k.getString then `(tactic| (refine Hold.of ?_)) else Lean.Macro.throwUnsupported
local macro_rules | `(tactic| walk_at "call ref") => `(tactic| ((k_dflt (show wpAny _ _ (call (Value.ref _) _) _ _ _)); refine Hold.of ?_))
local macro_rules | `(tactic| walk_at "subscriptTail List") => `(tactic| (k_dflt (refine kba_turn (value' := PySem.Expr.Name (PySem.Str.ofString "_") ⟨0, 0, 0, 0⟩) (fun _ => rfl) ?_)))
local macro_rules | `(tactic| walk_at "subscriptTail Name Slice ref ref") => `(tactic| ((with_reducible show wpAny _ _ (subscriptTail _ (PySem.Expr.Slice _ _ (some _) _) (Value.ref _) (Value.ref _)) _ _ _); refine Hold.of ?_))
local macro_rules | `(tactic| walk_at "binaryOp Mod int int") => `(tactic| (k_dflt (refine modP ?md ?_; (case md => omega))))
local macro_rules | `(tactic| walk_at "binaryOp Add int int") => `(tactic| first | (with_reducible refine add2 ?_) | (with_reducible refine add3 ?_))
local macro_rules | `(tactic| walk_at "pyIter ref") => `(tactic| ((with_reducible show wpAny _ _ (pyIter (Value.ref _)) (SrcU _ _ _ _ _ _ _ _ _ _ _ _ _) _ _); refine Hold.of ?_))
local macro_rules | `(tactic| walk_at "binaryOp Sub int int") => `(tactic| ((with_reducible refine subN ?hle ?_); (case hle => omega)))
local macro_rules | `(tactic| walk_at "binaryOp Mult int int") => `(tactic| ((with_reducible refine mulN ?hmb ?_); (case hmb => omega)))
local macro_rules | `(tactic| walk_at "pyIter ref") => `(tactic| ((with_reducible show wpAny _ _ (pyIter (Value.ref _)) (fun it s₂ => LoopAtV _ _ _ _ _ _ _ _ _ it s₂) _ _); refine Hold.of ?_))
local macro_rules | `(tactic| walk_at "call type:range") => `(tactic| (k_dflt (refine' rangeN ?rF ?rN ?_; (case rF => k_asm); (case rN => k_asm)); k_whole; intro R' h' t' u' v' tk' F' N' l1; (try k_lt l1)))
local macro_rules | `(tactic| k_lt $h) => `(tactic| (have hAll := allLt_of $h; replace $h := allLt_of $h; simp only [AllLt, and_true] at $h:ident))
local macro_rules | `(tactic| k_ne) => `(tactic| (refine neN ?_; (try dsimp only); first | exact Nq.ne (by assumption) | exact Ne.symm (Nq.ne (by assumption)) | (k_dflt (exact ltNe (by assumption) (by k_mem))) | (k_dflt (exact Ne.symm (ltNe (by assumption) (by k_mem)))) | omega))
local macro_rules | `(tactic| walk_at "subscriptTail Name Slice ref ref") => `(tactic| ((with_reducible show wpAny _ _ (subscriptTail (PySem.Expr.Name (PySem.Str.ofString "boxes") _) _ _ _) _ _ _); refine Hold.of ?_))
local macro_rules | `(tactic| walk_at "eval Name") => `(tactic| (k_dflt (refine' nameX_L ?F ?v ?_ ?a ?b; (case F => k_asm); (case a => rfl); (case b => rfl); (case v => assumption); k_whole)))
theorem law_ok : PySem.Challenge.rw_rl0068_01.Holds := by
  refine hd ?_
  k_go0
  all_goals try k_fold
  try (rename Ground .. => q9; clear q9)
  try (rename Flt.MathXP .. => q9; clear q9)
  try (rename LooseAre .. => q9; clear q9)
  try (rename Tables .. => q9; clear q9)
  try (rename TopE .. => q9; clear q9)
  try (rename TopW .. => q9; clear q9)
  try (rename TabsAt .. => q9; clear q9)
  try (rename Dflts .. => q9; clear q9)
  try (rename ReadsAll .. => q9; clear q9)
  try (rename Well .. => q9; clear q9)
  try (rename Reads .. => q9; clear q9)
  try (rename ReadsAllW .. => q9; clear q9)
  try (rename Heap.CodeRec .. => q9; clear q9)
  try (rename CellsAre .. => q9; clear q9)
  try (rename ∀ P, P ∈ [100, 65, 58] → _ => q9; clear q9)
  try (rename Top hd.view_39 .. => q9; clear q9)
  repeat (rename _ = true => q9; clear q9)
  rename IntsAre _ _ => hI0
  have hvl0 := IntsAre.length hI0
  rename Shared => s1
  refine cut_tail (by assumption) (by assumption) ?tlP ?mnP
  case tlP =>
    generalize ghostOf s1.heap [(104, 100), (69, 65), (62, 58)] = g0 at *
    generalize s1.heap.objs.size = L0 at *
    intro n tn bs vs tl DB e oS mB s Q E hE hbl hn hb12 hBX hoS F8 N8 hA58 hA65 ret
    dsimp only [List.drop]
    have hvl := hBX.length
    have hA58' := hA58.nq
    have hA65' := hA65.nq
    simp only [NqL] at hA58' hA65'
    obtain ⟨nqa, -⟩ := hA58'
    obtain ⟨nqb, -⟩ := hA65'
    k_steps
    refine' Assign_ListComp_V ?fa0 ?fa1 ?fa2 ?fa3 ?fa4 ?fa5 ?fa6 ?fa7 ?fa8 ?fa9 ?fa10 ?fa11 ?_
    case fa0 => exact F8
    case fa1 => exact rfl
    case fa2 => with_unfolding_all rfl
    case fa3 => with_unfolding_all rfl
    case fa4 => decide
    case fa5 => rfl
    case fa6 => decide
    case fa7 => rfl
    case fa8 => rfl
    case fa9 => decide
    case fa10 => rfl
    case fa11 => rfl
    k_steps
    have hbq : ∀ p ∈ bs, p.2 ≤ p.1 ∧ p.1 ≤ 4 := fun p hp => (hb12 p hp).2
    refine' list_U (bs := bs) (Yfac bs) ?ga0 ?gaF ?gaN ?ga1 ?ga2 ?ga3 ?ga4 ?ga5
    case gaF => exact F8
    case gaN => exact N8
    case ga0 => with_unfolding_all rfl
    case ga1 => exact N8.get (by k_mem)
    case ga2 => exact hBX.boxes fun p hp => N8 p (List.mem_cons_of_mem _ (List.mem_cons_of_mem _ (List.mem_cons_of_mem _ (List.mem_append_left _ hp))))
    case ga3 => omega
    case ga4 =>
      intro hz i v1 v2 C oC m9 h tk E' hi hP hoC hx1 hx2 F5 N5 lt5
      obtain ⟨ta, tb, j3⟩ := hP
      have c1 := List.cons.inj (congrArg Array.toList j3)
      have k1 := c1.1
      have k2 := (List.cons.inj c1.2).1
      clear c1
      subst k1
      subst k2
      clear j3
      have hp1 := le_getD hbq hi
      generalize hpa : (List.getD bs i (0, 0)).1 = pa at hx1 hp1
      generalize hpb : (List.getD bs i (0, 0)).2 = pb at hx2 hp1
      clear F8 N8
      k_steps
      · exact fun _ _ e => e
      · exact yfac_of hpa hpb
    case ga5 =>
    intro hz zs hlen hY9 D7 h7 tk7 F9 N9 lt9
    have I9 := fac_ints hlen hY9
    clear F8 N8 hY9
    k_lt lt9
    dsimp only at F9 N9 ⊢
    k_steps
    rename Fr _ _ _ _ => F10
    rename News _ _ _ _ => N10
    refine' For_invVF (hE := hE) F10 ?h1 ?h2 ?_
    case h1 => exact rfl
    case h2 => exact rfl
    k_steps
    refine' iter_listUnr (lo := LCg.lst zs) (vs := zs) ?na F10 N10 ?nb rfl rfl ?nc
    case na => with_unfolding_all rfl
    case nb => k_mem
    case nc =>
    intro I1 lI1
    refine' list_ind (fun r m news => ∃ d gs t, IntsAre r (toZ gs) ∧ (∀ g ∈ gs, g ≤ 2052) ∧ gs.foldl (· * ·) d = numb bs ∧ m (Str.ofString "number") = some (.int (d : Nat) t) ∧ m (Str.ofString "factors") = some (.ref D7) ∧ m (Str.ofString "boxes") = some (.ref DB) ∧
      news = (D7, LCg.lst zs) :: (DB, W.listOf vs.toArray e) :: (L0 + 1 + 1, oS) :: (100, tabObj #[]) :: (tl ++ tb0)) ?l0 ?ls _ _ _ ?lb
    case lb =>
      refine ⟨1, bs.map facOf, _, I9, ?_, ?_, rfl, rfl, rfl, rfl⟩
      · intro g hg
        obtain ⟨p, hp, rfl⟩ := List.mem_map.mp hg
        exact (facOf_bd (hb12 p hp)).2
      · rw [List.foldl_map]; rfl
    case ls =>
      rintro v r m news hr ⟨d, gs, t, hI, hg, hd, hm1, hm2, hm3, rfl⟩
      obtain ⟨g, gs', tg, rfl, rfl, hI'⟩ := ints_cons hI
      have hg1 := hg g List.mem_cons_self
      clear F10 N10 hI
      refine ListRest.succ fun it h11 tk11 hit F11 N11 => ?_
      k_steps
      rename Fr _ _ _ _ => F12
      rename News _ _ _ _ => N12
      refine ⟨_, _, _, _, rfl, F12, N12, fun p hp => Nat.ne_of_lt (lI1 p hp), by k_mem, hr _ _ ⟨d * g, gs', _, hI', fun x hx => hg x (List.mem_cons_of_mem _ hx), hd, rfl, hm2, hm3, rfl⟩⟩
    case l0 =>
    rintro m news ⟨d, gs, tN, hI, -, hd, hm1, hm2, hm3, rfl⟩
    obtain rfl := ints_nil hI
    replace hd : d = numb bs := hd
    subst hd
    clear F10 N10 lI1 hI
    refine ListRest.zero fun h12 tk12 F12 N12 => ?_
    k_steps
    rename Fr _ _ _ _ => F12
    rename News _ _ _ _ => N12
    rename Below _ _ _ _ => KB
    rename Frag.In _ _ => KX
    rename Top _ _ _ _ _ _ => KT
    refine' useT (rest := (D7, _) :: (DB, _) :: (L0 + 1 + 1, oS) :: (100, _) :: tl) (tb := tb0) (holds_all hb12 (by omega)) ?ua ?ub ?uc ?ud KB F12 KX KT (by assumption) (by assumption) ?ue ?uf N12 ⟨#[], #[], _, _, rfl, .inl rfl, .inl rfl⟩ ?ug ?uh ?ui ?uj
    case ua => exact rfl
    case ub => exact Nat.le_of_ble_eq_true rfl
    case uc => exact rfl
    case ud => exact Nat.le_of_ble_eq_true rfl
    case ue => exact rfl
    case uf => exact rfl
    case ug => exact noCode_cons (noC_seq rfl) (noCode_cons (noC_seq rfl) (noCode_cons (noC_cell hoS) (noCode_cons noC_nil hBX.noCode)))
    case uh => exact ⟨⟨by k_ne, by k_ne, by k_ne, by k_ne, hA58.2⟩, ⟨by k_ne, by k_ne, by k_ne, by k_ne, hA65.2⟩⟩
    case ui => exact ⟨vs, _, (N12 (DB, _) (by k_mem)).1, hBX.boxes fun p hp => N12 p (List.mem_cons_of_mem _ (List.mem_cons_of_mem _ (List.mem_cons_of_mem _ (List.mem_cons_of_mem _ (List.mem_append_left _ hp)))))⟩
    case uj =>
    intro v h13 tk13 tb3 P3 F13 Tb3 N13 _ _
    obtain rfl := P3
    simp only [List.cons_append] at N13
    clear F12 N12
    dsimp only
    k_steps
    rename Fr _ _ _ _ => F14
    rename News _ _ _ _ => N14
    refine' For_invVF (hE := hE) F14 ?h3 ?h4 ?_
    case h3 => exact rfl
    case h4 => exact rfl
    k_steps
    clear F14 N14
    rename Fr _ _ _ _ => F15
    rename News _ _ _ _ => N15
    refine with_rng N15 fun R tR uR vR eR eT eU eV N16 => ?_
    subst eR eT eU eV
    clear N15
    refine' iter_rangeUnr (n := n) ?va ?vb ?vc ?vd F15 N16 ?ve
    case va => with_unfolding_all rfl
    case vb => exact News.get N16 (by k_mem)
    case vc => exact small_one (by decide) (by decide) (by omega) (by omega)
    case vd =>
      rw [rangeSize_one]
      split <;> omega
    case ve =>
    intro I2 lI2
    clear F15 N16
    refine' range_ind (fun i m news => ∃ tb t, TBl g0 tb ∧ AllNe I2 tb ∧ m (Str.ofString "number") = some (.int (numb bs : Nat) t) ∧ m (Str.ofString "factors") = some (.ref D7) ∧ m (Str.ofString "boxes") = some (.ref DB) ∧
      news = (R, rngObj n tR uR vR) :: (D7, LCg.lst zs) :: (DB, W.listOf vs.toArray e) :: (L0 + 1 + 1, oS) :: (100, tabObj #[]) :: (tl ++ tb)) ?r0 ?rs _ _ ?rb
    case rb => exact ⟨tb3, _, Tb3, allNe_lt fun p hp => lI2 p (by
        simp only [List.mem_cons, List.mem_append]
        exact .inr (.inr (.inr (.inr (.inr (.inr hp)))))), hm1, hm2, hm3, rfl⟩
    case r0 =>
      clear hm1 hm2 hm3
      rintro m news ⟨tb, t, Tb, -, hm1, hm2, hm3, rfl⟩
      refine RangeRest.zero fun h60 tk60 F60 N60 => ?_
      k_steps
      exact ret h60 tk60 tb m ((R, rngObj n tR uR vR) :: (D7, LCg.lst zs) :: (DB, W.listOf vs.toArray e) :: (L0 + 1 + 1, oS) :: tl) F60 (News.sub N60 fun q hq => by
        simp only [List.cons_append, List.mem_cons, List.mem_append] at hq ⊢
        rcases hq with h | h | h | h | h | h | h <;> simp [h]) Tb
    case rs =>
    have lI3 : AllNe I2 ((R, rngObj n tR uR vR) :: (D7, LCg.lst zs) :: (DB, W.listOf vs.toArray e) :: (L0 + 1 + 1, oS) :: (100, tabObj #[]) :: tl) := allNe_lt fun p hp => lI2 p (by
      simp only [List.mem_cons, List.mem_append] at hp ⊢
      rcases hp with h | h | h | h | h | h <;> simp [h])
    clear hm1 hm2 hm3 lI2
    rintro k i m news hik hr ⟨tb, t, Tb, hAI, hm1, hm2, hm3, rfl⟩
    refine RangeRest.succ fun t20 h20 tk20 F20 N20 => ?_
    rw [Int.zero_add] at F20
    have hib : i < bs.length := by omega
    have hif : i < (bs.map facOf).length := by rw [List.length_map]; exact hib
    k_steps
    rename Fr _ _ _ _ => F30
    rename News _ _ _ _ => N30
    rw [toZ_getD, fac_getD hib]
    have hfb := facOf_bd (box_getD hb12 hib)
    have hdk := numb_del hib
    have hprod := numb_lt hb12 (by omega)
    generalize facOf (bs.getD i (0, 0)) = f at hfb hdk ⊢
    have hq : numb bs / f = numb (delAt bs i) := by rw [hdk, Nat.mul_div_cancel_left _ hfb.1]
    have hr0 : numb bs % f = 0 := by rw [hdk, Nat.mul_mod_right]
    obtain ⟨nqc, nqd⟩ := tbl_ne Tb hAI
    refine' useT (rest := (I2, _) :: (R, _) :: (D7, _) :: (DB, _) :: (L0 + 1 + 1, oS) :: (100, _) :: tl) (tb := tb) (int_divmod_spec (a := numb bs) (b := f) hprod hfb.1 (by omega)) ?xa ?xb ?xc ?xd KB F30 KX KT (by assumption) (by assumption) ?xe ?xf N30 Tb ?xg ?xh trivial ?xj
    case xa => exact rfl
    case xb => exact Nat.le_of_ble_eq_true rfl
    case xc => exact rfl
    case xd => exact Nat.le_of_ble_eq_true rfl
    case xe => exact rfl
    case xf => exact rfl
    case xg => exact noCode_cons noC_itR (noCode_cons noC_rng (noCode_cons (noC_seq rfl) (noCode_cons (noC_seq rfl) (noCode_cons (noC_cell hoS) (noCode_cons noC_nil hBX.noCode)))))
    case xh => exact ⟨⟨by k_ne, by k_ne, by k_ne, by k_ne, by k_ne, by k_ne, hA58.2⟩, ⟨by k_ne, by k_ne, by k_ne, by k_ne, by k_ne, by k_ne, hA65.2⟩⟩
    case xj =>
    intro v h30 tk30 tbb P30 F40 Tbb N40 apb more
    obtain ⟨r0, x10, x20, rfl, fr0, hr30⟩ := P30
    obtain ⟨N50, ne50⟩ := more r0 _ _ _ fr0 hr30 rfl
    rw [hq, hr0] at N50
    clear F30 N30 N40 more fr0 hr30 hdk hq hr0
    simp only [List.cons_append] at N50 ne50
    replace ne50 := ne50.nq
    simp only [NqL] at ne50
    obtain ⟨nq1, nq2, nq3, nq4, nq5, nq6, -⟩ := ne50
    dsimp only
    k_steps
    rename Fr _ _ _ _ => F60
    rename News _ _ _ _ => N60
    refine' kmk_slice_lit F60 N60 (News.isList N60 (by k_mem)) IsPart.none (IsPart.int _ _) (pick_to vs i) ?_ ?sa ?sb ?sc
    case sa => with_unfolding_all rfl
    case sb => (intro _; with_unfolding_all rfl)
    case sc => (rw [sizeLine_eq, List.size_toArray]; omega)
    intro S1 h61 F61 N61 lt61
    k_lt lt61
    clear F60 N60
    dsimp only at F61 N61 ⊢
    k_steps
    rename Fr _ _ _ _ => F60
    rename News _ _ _ _ => N60
    refine' kmk_slice_lit F60 N60 (News.isList N60 (by k_mem)) (IsPart.int _ _) IsPart.none (pick_from vs i) ?_ ?sd ?se ?sf
    case sd => with_unfolding_all rfl
    case se => (intro _; with_unfolding_all rfl)
    case sf => (rw [sizeLine_eq, List.size_toArray]; omega)
    intro S2 h62 F62 N62 lt62
    k_lt lt62
    clear F60 N60
    dsimp only at F62 N62 ⊢
    k_steps
    rename Fr _ _ _ _ => F60
    rename News _ _ _ _ => N60
    refine' kmk_add_lit (zs := vs.take i ++ vs.drop (i + 1)) F60 N60 (News.isList N60 (by k_mem)) (News.isList N60 (by k_mem)) rfl ?_ ?sg
    case sg => (rw [sizeLine_eq, List.length_take, List.length_drop]; omega)
    intro S3 h63 F63 N63 lt63
    k_lt lt63
    clear F60 N60
    dsimp only at F63 N63 ⊢
    k_steps
    refine drop3 N63 fun DX eX N70 => ?_
    subst eX
    clear N63
    have hAIb : AllNe I2 tbb := allNe_of fun p hp => Ne.symm (apb.get p hp _ List.mem_cons_self)
    obtain ⟨nqe, nqf⟩ := tbl_ne Tbb hAIb
    refine' useT (rest := (DX, _) :: (I2, _) :: (R, _) :: (D7, _) :: (DB, _) :: (L0 + 1 + 1, oS) :: (100, _) :: tl) (tb := tbb) (holds_all (bs := delAt bs i) (fun p hp => hb12 p (mem_del hp)) (by rw [del_length hib]; omega)) ?ya ?yb ?yc ?yd KB F63 KX KT (by assumption) (by assumption) ?ye ?yf N70 Tbb ?yg ?yh ?yi ?yj
    case ya => exact rfl
    case yb => exact Nat.le_of_ble_eq_true rfl
    case yc => exact rfl
    case yd => exact Nat.le_of_ble_eq_true rfl
    case ye => exact rfl
    case yf => exact rfl
    case yg => exact noCode_cons (noC_seq rfl) (noCode_cons noC_itR (noCode_cons noC_rng (noCode_cons (noC_seq rfl) (noCode_cons (noC_seq rfl) (noCode_cons (noC_cell hoS) (noCode_cons noC_nil hBX.noCode))))))
    case yh => exact ⟨⟨by k_ne, by k_ne, by k_ne, by k_ne, by k_ne, by k_ne, by k_ne, hA58.2⟩, ⟨by k_ne, by k_ne, by k_ne, by k_ne, by k_ne, by k_ne, by k_ne, hA65.2⟩⟩
    case yi =>
      have B0 : Boxes h63 vs bs := hBX.boxes fun p hp => N70 p (by simp [hp])
      exact ⟨_, _, (N70 (DX, _) (by k_mem)).1, (B0.drop (i + 1)).append (B0.take i)⟩
    case yj =>
    intro v h50 tk50 tbc P50 F80 Tbc N80 ap0 _
    obtain rfl := P50
    simp only [List.cons_append] at N80
    clear F63 N70
    dsimp only
    k_steps
    have hAIc : AllNe I2 tbc := allNe_of fun p hp => Ne.symm (ap0.get p hp _ (List.mem_cons_of_mem _ List.mem_cons_self))
    exact ⟨_, _, _, _, rfl, F80, News.sub N80 (fun q hq => List.mem_cons_of_mem _ hq), (allNe_append hAIc lI3).get, hr _ _ ⟨tbc, t, Tbc, hAIc, hm1, hm2, hm3, rfl⟩⟩
  case mnP =>
  intro TL
  k_steps
  · rename Fr _ _ _ _ => F1
    rename News _ _ _ _ => N1
    refine' Assign_ListComp_V ?b3q0 ?b3q1 ?b3q2 ?b3q3 ?b3q4 ?b3q5 ?b3q6 ?b3q7 ?b3q8 ?b3q9 ?b3q10 ?b3q11 ?_
    case b3q0 => exact F1
    case b3q1 => exact rfl
    case b3q2 => with_unfolding_all rfl
    case b3q3 => with_unfolding_all rfl
    case b3q4 => decide
    case b3q5 => rfl
    case b3q6 => decide
    case b3q7 => rfl
    case b3q8 => rfl
    case b3q9 => decide
    case b3q10 => rfl
    case b3q11 => rfl
    k_steps
    rename Fr _ _ _ _ => F2
    rename News _ _ _ _ => N2
    refine' enum_U (fun _ v => ∃ z t, v = Value.int z t) ?b3z0 ?b3zF ?b3zN ?b3zm ?b3zl ?b3zb ?b3zf
    case b3z0 => with_unfolding_all rfl
    case b3zF => exact F2
    case b3zN => exact N2
    case b3zm => k_mem
    case b3zl => exact Nat.le_of_ble_eq_true rfl
    case b3zb =>
      intro hz i v1 v2 C oC m2 h tk E' hi hP hoC hx1 hx2 F5 N5 lt5
      obtain ⟨ta, x, j1, j3⟩ := hP
      have c1 := List.cons.inj (congrArg Array.toList j3)
      have k1 := c1.1
      have k2 := (List.cons.inj c1.2).1
      clear c1
      subst k1
      subst k2
      clear j3
      obtain ⟨zx, tx, rfl⟩ : ∃ zx tx, v2 = Value.int zx tx := by
        refine ints_all (vs := [_, _, _]) (ns := [3, 5, 5]) (.cons _ _ (.cons _ _ (.cons _ _ .nil))) v2 (List.mem_of_getElem? j1)
      clear F2 N2
      k_steps
      rename Fr _ _ _ _ => F6
      rename News _ _ _ _ => N6
      refine' sliceE (st := some 3) ?b3sl ?b3sI (IsPart.int _ _) IsPart.none (IsPart.int _ _) (by decide) ?b3sh ?b3ss ?b3st ?b3sz
      case b3sl => exact Fr.lst F6 (by assumption)
      case b3sI => assumption
      case b3ss => with_unfolding_all rfl
      case b3st => (intro _; with_unfolding_all rfl)
      case b3sz => omega
      intro D us zs h7 X7 g7 n7 I7 len7
      obtain ⟨F7, N7, _⟩ := ledN F6 N6 X7 n7 g7
      dsimp only at F7 N7 X7 ⊢
      clear F6 N6 n7 g7
      k_steps
      refine' sumE ?b3su1 ?b3su2 I7 ?b3su3
      case b3su1 => with_unfolding_all rfl
      case b3su2 => exact News.isList N7 (by k_mem)
      intro h8 tk8 t8 k8 X8
      replace F7 := fr_ext F7 X8
      replace N7 := news_ext N7 X8
      dsimp only at F7 N7 X8 ⊢
      k_steps
      exact fun b o e => X8 b o (X7 b o e)
    case b3zf =>
    intro hz zs hlen hY D5 h5 tk5 F5 N5 lt5
    obtain ⟨z0, t0, z1, t1, z2, t2, rfl⟩ := three_ints hlen hY
    k_lt lt5
    clear F2 N2
    dsimp only at F5 N5 ⊢
    k_steps
    rename Fr _ _ _ _ => F2
    rename News _ _ _ _ => N2
    refine' LCg.Assign_ListComp_U ?b3ba0 ?b3ba1 ?b3ba2 ?b3ba3 ?b3ba4 ?b3ba5 ?b3ba6 ?b3ba7 ?b3ba8 ?b3ba9 ?b3ba10
    case b3ba0 => exact F2
    case b3ba1 => rfl
    case b3ba2 => with_unfolding_all rfl
    case b3ba3 => with_unfolding_all rfl
    case b3ba4 => decide
    case b3ba5 => rfl
    case b3ba6 => decide
    case b3ba7 => rfl
    case b3ba8 => rfl
    case b3ba9 => rfl
    k_steps
    rename Fr _ _ _ _ => F3
    rename News _ _ _ _ => N3
    refine' LCg.CompSrc.ledger ?b3ca1 F3 N3 ?b3ca3 ?b3ca4 ?b3ca5
    case b3ca1 => with_unfolding_all rfl
    case b3ca3 => k_mem
    case b3ca4 => exact Nat.le_of_ble_eq_true rfl
    case b3ca5 =>
    intro g9
    clear F3 N3
    refine LCg.CompRest.succ ?_
    intro v' I' oI' C' oC' D' m' h' tk' E' hv' hC' hx' F' N' off' ne'
    obtain rfl : Value.int z0 t0 = v' := Option.some.inj hv'
    clear hv'
    dsimp only [List.nil_append, List.cons_append] at F' N' off' ⊢
    k_steps
    rename Fr _ _ _ _ => F4
    rename News _ _ _ _ => N4
    refine ⟨_, _, _, rfl, F4, news_rot N4, ⟨⟨by k_ne, by k_ne, by k_ne⟩, off'⟩, .inr ⟨LCg.lst [.int z0 t0, .int z1 t1, .int z2 t2], by k_mem, rfl, _, rfl⟩, ?_⟩
    clear F4 N4 off' ne' hx' hC'
    dsimp only
    refine LCg.CompRest.succ ?_
    intro v' I' oI' C' oC' D' m' h' tk' E' hv' hC' hx' F' N' off' ne'
    obtain rfl : Value.int z1 t1 = v' := Option.some.inj hv'
    clear hv'
    dsimp only [List.nil_append, List.cons_append] at F' N' off' ⊢
    k_steps
    rename Fr _ _ _ _ => F4
    rename News _ _ _ _ => N4
    refine ⟨_, _, _, rfl, F4, news_rot N4, ⟨⟨by k_ne, by k_ne, by k_ne⟩, off'⟩, .inr ⟨LCg.lst [.int z0 t0, .int z1 t1, .int z2 t2], by k_mem, rfl, _, rfl⟩, ?_⟩
    clear F4 N4 off' ne' hx' hC'
    dsimp only
    refine LCg.CompRest.succ ?_
    intro v' I' oI' C' oC' D' m' h' tk' E' hv' hC' hx' F' N' off' ne'
    obtain rfl : Value.int z2 t2 = v' := Option.some.inj hv'
    clear hv'
    dsimp only [List.nil_append, List.cons_append] at F' N' off' ⊢
    k_steps
    rename Fr _ _ _ _ => F4
    rename News _ _ _ _ => N4
    refine ⟨_, _, _, rfl, F4, news_rot N4, ⟨⟨by k_ne, by k_ne, by k_ne⟩, off'⟩, .inr ⟨LCg.lst [.int z0 t0, .int z1 t1, .int z2 t2], by k_mem, rfl, _, rfl⟩, ?_⟩
    clear F4 N4 off' ne' hx' hC'
    dsimp only
    refine LCg.CompRest.zero ?_
    intro D6 h6 tk6 F6 N6 off6
    have nq1 : Nq 58 D6 := (off1_all off6).get (58, tabObj #[]) (by k_mem)
    have nq2 : Nq 65 D6 := (off1_all off6).get (65, tabObj #[]) (by k_mem)
    clear off6
    dsimp only [List.nil_append, List.cons_append] at F6 N6 ⊢
    have hm0 := boxM (z := z0)
    have hw0 := boxW (z := z0) (m := (z0 % 3).toNat)
    generalize (z0.fdiv 3 % ((3 + (z0 % 3).toNat : Nat) : Int)).toNat = w0 at hw0 N6
    generalize (z0 % 3).toNat = m0 at hm0 hw0 N6
    have hm1 := boxM (z := z1)
    have hw1 := boxW (z := z1) (m := (z1 % 3).toNat)
    generalize (z1.fdiv 3 % ((3 + (z1 % 3).toNat : Nat) : Int)).toNat = w1 at hw1 N6
    generalize (z1 % 3).toNat = m1 at hm1 hw1 N6
    have hm2 := boxM (z := z2)
    have hw2 := boxW (z := z2) (m := (z2 % 3).toNat)
    generalize (z2.fdiv 3 % ((3 + (z2 % 3).toNat : Nat) : Int)).toNat = w2 at hw2 N6
    generalize (z2 % 3).toNat = m2 at hm2 hw2 N6
    refine' TL 3 _ [(2 + m0, w0), (2 + m1, w1), (2 + m2, w2)] _ _ _ _ _ _ _ _ _ ?b3hE rfl (.inl rfl) ?b3hb ?b3hBX ?b3hoS F6 (boxes_to3 N6) ?b3h58 ?b3h65 ?b3fin
    case b3hb =>
      intro p hp
      simp only [List.mem_cons, List.not_mem_nil, or_false] at hp
      rcases hp with e | e | e <;> rw [e] <;> dsimp only <;> omega
    case b3hBX => exact ⟨rfl, ⟨_, _, _, rfl⟩, rfl, ⟨_, _, _, rfl⟩, rfl, ⟨_, _, _, rfl⟩, trivial⟩
    case b3hoS => assumption
    case b3h58 => exact ⟨by k_ne, by k_ne, by k_ne, by k_ne, trivial⟩
    case b3h65 => exact ⟨by k_ne, by k_ne, by k_ne, by k_ne, trivial⟩
    case b3hE => passes_own
    case b3fin =>
    intro h60 tk60 tb60 m60 rest60 F60 N60 Tb60
    obtain ⟨u1, u2, a1, b1, rfl, -, -⟩ := Tb60
    refine And.intro ?_ ⟨⟨_, (N60 (100, tabObj #[]) (by k_mem)).1⟩, ⟨_, (N60 (65, tabObj u2) (by simp)).1⟩, ⟨_, (N60 (58, tabObj u1) (by simp)).1⟩, trivial⟩
    refine goodW_bool F60 ?b3eg ?b3en ?b3ep rfl
    case b3eg => assumption
    case b3en => intro cls; exact rfl
    case b3ep => exact post_true _
  · rename Fr _ _ _ _ => F1
    rename News _ _ _ _ => N1
    refine' Assign_ListComp_V ?b4q0 ?b4q1 ?b4q2 ?b4q3 ?b4q4 ?b4q5 ?b4q6 ?b4q7 ?b4q8 ?b4q9 ?b4q10 ?b4q11 ?_
    case b4q0 => exact F1
    case b4q1 => exact rfl
    case b4q2 => with_unfolding_all rfl
    case b4q3 => with_unfolding_all rfl
    case b4q4 => decide
    case b4q5 => rfl
    case b4q6 => decide
    case b4q7 => rfl
    case b4q8 => rfl
    case b4q9 => decide
    case b4q10 => rfl
    case b4q11 => rfl
    k_steps
    rename Fr _ _ _ _ => F2
    rename News _ _ _ _ => N2
    refine' enum_U (fun _ v => ∃ z t, v = Value.int z t) ?b4z0 ?b4zF ?b4zN ?b4zm ?b4zl ?b4zb ?b4zf
    case b4z0 => with_unfolding_all rfl
    case b4zF => exact F2
    case b4zN => exact N2
    case b4zm => k_mem
    case b4zl => exact Nat.le_of_ble_eq_true rfl
    case b4zb =>
      intro hz i v1 v2 C oC m2 h tk E' hi hP hoC hx1 hx2 F5 N5 lt5
      obtain ⟨ta, x, j1, j3⟩ := hP
      have c1 := List.cons.inj (congrArg Array.toList j3)
      have k1 := c1.1
      have k2 := (List.cons.inj c1.2).1
      clear c1
      subst k1
      subst k2
      clear j3
      obtain ⟨zx, tx, rfl⟩ : ∃ zx tx, v2 = Value.int zx tx := by
        refine ints_all (vs := [_, _, _, _]) (ns := [3, 5, 5, 7]) (.cons _ _ (.cons _ _ (.cons _ _ (.cons _ _ .nil)))) v2 (List.mem_of_getElem? j1)
      clear F2 N2
      k_steps
      rename Fr _ _ _ _ => F6
      rename News _ _ _ _ => N6
      refine' sliceE (st := some 4) ?b4sl ?b4sI (IsPart.int _ _) IsPart.none (IsPart.int _ _) (by decide) ?b4sh ?b4ss ?b4st ?b4sz
      case b4sl => exact Fr.lst F6 (by assumption)
      case b4sI => assumption
      case b4ss => with_unfolding_all rfl
      case b4st => (intro _; with_unfolding_all rfl)
      case b4sz => omega
      intro D us zs h7 X7 g7 n7 I7 len7
      obtain ⟨F7, N7, _⟩ := ledN F6 N6 X7 n7 g7
      dsimp only at F7 N7 X7 ⊢
      clear F6 N6 n7 g7
      k_steps
      refine' sumE ?b4su1 ?b4su2 I7 ?b4su3
      case b4su1 => with_unfolding_all rfl
      case b4su2 => exact News.isList N7 (by k_mem)
      intro h8 tk8 t8 k8 X8
      replace F7 := fr_ext F7 X8
      replace N7 := news_ext N7 X8
      dsimp only at F7 N7 X8 ⊢
      k_steps
      exact fun b o e => X8 b o (X7 b o e)
    case b4zf =>
    intro hz zs hlen hY D5 h5 tk5 F5 N5 lt5
    obtain ⟨z0, t0, z1, t1, z2, t2, z3, t3, rfl⟩ := four_ints hlen hY
    k_lt lt5
    clear F2 N2
    dsimp only at F5 N5 ⊢
    k_steps
    rename Fr _ _ _ _ => F2
    rename News _ _ _ _ => N2
    refine' LCg.Assign_ListComp_U ?b4ba0 ?b4ba1 ?b4ba2 ?b4ba3 ?b4ba4 ?b4ba5 ?b4ba6 ?b4ba7 ?b4ba8 ?b4ba9 ?b4ba10
    case b4ba0 => exact F2
    case b4ba1 => rfl
    case b4ba2 => with_unfolding_all rfl
    case b4ba3 => with_unfolding_all rfl
    case b4ba4 => decide
    case b4ba5 => rfl
    case b4ba6 => decide
    case b4ba7 => rfl
    case b4ba8 => rfl
    case b4ba9 => rfl
    k_steps
    rename Fr _ _ _ _ => F3
    rename News _ _ _ _ => N3
    refine' LCg.CompSrc.ledger ?b4ca1 F3 N3 ?b4ca3 ?b4ca4 ?b4ca5
    case b4ca1 => with_unfolding_all rfl
    case b4ca3 => k_mem
    case b4ca4 => exact Nat.le_of_ble_eq_true rfl
    case b4ca5 =>
    intro g9
    clear F3 N3
    refine LCg.CompRest.succ ?_
    intro v' I' oI' C' oC' D' m' h' tk' E' hv' hC' hx' F' N' off' ne'
    obtain rfl : Value.int z0 t0 = v' := Option.some.inj hv'
    clear hv'
    dsimp only [List.nil_append, List.cons_append] at F' N' off' ⊢
    k_steps
    rename Fr _ _ _ _ => F4
    rename News _ _ _ _ => N4
    refine ⟨_, _, _, rfl, F4, news_rot N4, ⟨⟨by k_ne, by k_ne, by k_ne⟩, off'⟩, .inr ⟨LCg.lst [.int z0 t0, .int z1 t1, .int z2 t2, .int z3 t3], by k_mem, rfl, _, rfl⟩, ?_⟩
    clear F4 N4 off' ne' hx' hC'
    dsimp only
    refine LCg.CompRest.succ ?_
    intro v' I' oI' C' oC' D' m' h' tk' E' hv' hC' hx' F' N' off' ne'
    obtain rfl : Value.int z1 t1 = v' := Option.some.inj hv'
    clear hv'
    dsimp only [List.nil_append, List.cons_append] at F' N' off' ⊢
    k_steps
    rename Fr _ _ _ _ => F4
    rename News _ _ _ _ => N4
    refine ⟨_, _, _, rfl, F4, news_rot N4, ⟨⟨by k_ne, by k_ne, by k_ne⟩, off'⟩, .inr ⟨LCg.lst [.int z0 t0, .int z1 t1, .int z2 t2, .int z3 t3], by k_mem, rfl, _, rfl⟩, ?_⟩
    clear F4 N4 off' ne' hx' hC'
    dsimp only
    refine LCg.CompRest.succ ?_
    intro v' I' oI' C' oC' D' m' h' tk' E' hv' hC' hx' F' N' off' ne'
    obtain rfl : Value.int z2 t2 = v' := Option.some.inj hv'
    clear hv'
    dsimp only [List.nil_append, List.cons_append] at F' N' off' ⊢
    k_steps
    rename Fr _ _ _ _ => F4
    rename News _ _ _ _ => N4
    refine ⟨_, _, _, rfl, F4, news_rot N4, ⟨⟨by k_ne, by k_ne, by k_ne⟩, off'⟩, .inr ⟨LCg.lst [.int z0 t0, .int z1 t1, .int z2 t2, .int z3 t3], by k_mem, rfl, _, rfl⟩, ?_⟩
    clear F4 N4 off' ne' hx' hC'
    dsimp only
    refine LCg.CompRest.succ ?_
    intro v' I' oI' C' oC' D' m' h' tk' E' hv' hC' hx' F' N' off' ne'
    obtain rfl : Value.int z3 t3 = v' := Option.some.inj hv'
    clear hv'
    dsimp only [List.nil_append, List.cons_append] at F' N' off' ⊢
    k_steps
    rename Fr _ _ _ _ => F4
    rename News _ _ _ _ => N4
    refine ⟨_, _, _, rfl, F4, news_rot N4, ⟨⟨by k_ne, by k_ne, by k_ne⟩, off'⟩, .inr ⟨LCg.lst [.int z0 t0, .int z1 t1, .int z2 t2, .int z3 t3], by k_mem, rfl, _, rfl⟩, ?_⟩
    clear F4 N4 off' ne' hx' hC'
    dsimp only
    refine LCg.CompRest.zero ?_
    intro D6 h6 tk6 F6 N6 off6
    have nq1 : Nq 58 D6 := (off1_all off6).get (58, tabObj #[]) (by k_mem)
    have nq2 : Nq 65 D6 := (off1_all off6).get (65, tabObj #[]) (by k_mem)
    clear off6
    dsimp only [List.nil_append, List.cons_append] at F6 N6 ⊢
    have hm0 := boxM (z := z0)
    have hw0 := boxW (z := z0) (m := (z0 % 3).toNat)
    generalize (z0.fdiv 3 % ((3 + (z0 % 3).toNat : Nat) : Int)).toNat = w0 at hw0 N6
    generalize (z0 % 3).toNat = m0 at hm0 hw0 N6
    have hm1 := boxM (z := z1)
    have hw1 := boxW (z := z1) (m := (z1 % 3).toNat)
    generalize (z1.fdiv 3 % ((3 + (z1 % 3).toNat : Nat) : Int)).toNat = w1 at hw1 N6
    generalize (z1 % 3).toNat = m1 at hm1 hw1 N6
    have hm2 := boxM (z := z2)
    have hw2 := boxW (z := z2) (m := (z2 % 3).toNat)
    generalize (z2.fdiv 3 % ((3 + (z2 % 3).toNat : Nat) : Int)).toNat = w2 at hw2 N6
    generalize (z2 % 3).toNat = m2 at hm2 hw2 N6
    have hm3 := boxM (z := z3)
    have hw3 := boxW (z := z3) (m := (z3 % 3).toNat)
    generalize (z3.fdiv 3 % ((3 + (z3 % 3).toNat : Nat) : Int)).toNat = w3 at hw3 N6
    generalize (z3 % 3).toNat = m3 at hm3 hw3 N6
    refine' TL 4 _ [(2 + m0, w0), (2 + m1, w1), (2 + m2, w2), (2 + m3, w3)] _ _ _ _ _ _ _ _ _ ?b4hE rfl (.inr rfl) ?b4hb ?b4hBX ?b4hoS F6 (boxes_to4 N6) ?b4h58 ?b4h65 ?b4fin
    case b4hb =>
      intro p hp
      simp only [List.mem_cons, List.not_mem_nil, or_false] at hp
      rcases hp with e | e | e | e <;> rw [e] <;> dsimp only <;> omega
    case b4hBX => exact ⟨rfl, ⟨_, _, _, rfl⟩, rfl, ⟨_, _, _, rfl⟩, rfl, ⟨_, _, _, rfl⟩, rfl, ⟨_, _, _, rfl⟩, trivial⟩
    case b4hoS => assumption
    case b4h58 => exact ⟨by k_ne, by k_ne, by k_ne, by k_ne, by k_ne, trivial⟩
    case b4h65 => exact ⟨by k_ne, by k_ne, by k_ne, by k_ne, by k_ne, trivial⟩
    case b4hE => passes_own
    case b4fin =>
    intro h60 tk60 tb60 m60 rest60 F60 N60 Tb60
    obtain ⟨u1, u2, a1, b1, rfl, -, -⟩ := Tb60
    refine And.intro ?_ ⟨⟨_, (N60 (100, tabObj #[]) (by k_mem)).1⟩, ⟨_, (N60 (65, tabObj u2) (by simp)).1⟩, ⟨_, (N60 (58, tabObj u1) (by simp)).1⟩, trivial⟩
    refine goodW_bool F60 ?b4eg ?b4en ?b4ep rfl
    case b4eg => assumption
    case b4en => intro cls; exact rfl
    case b4ep => exact post_true _
end
end RL
end
theorem PySem.Challenge.cw_rl0068_01_holds : PySem.Challenge.rw_rl0068_01.Holds :=
  RL.law_ok
