import PyProof.Rows.All
import Wide.All
import OpenK.AllK
import Wide.FinOn
import PySem.Challenge.RW_gl0008_01
open PySem PySem.W PySem.Calls PyProof.Rows
set_option Elab.async false
set_option maxRecDepth 100000
set_option maxHeartbeats 8000000
namespace Mine
open_top hd for PySem.Challenge.rw_gl0008_01

/-- all that stood, but for the named entries, stands -/
def Kept (T : List (Addr × Obj)) (h h' : Heap) : Prop := ∀ b o, h.get? b = some o → b ∉ T.map (·.1) → h'.get? b = some o

theorem Kept.hide (T : List (Addr × Obj)) (h : Heap) : Kept T h (hideAll h (T.map (·.1))) := fun _ _ e n => hideAll_get _ e n
theorem Kept.then {T : List (Addr × Obj)} {h g h' : Heap} (x : Kept T h g) (k : ∀ b o, g.get? b = some o → h'.get? b = some o) : Kept T h h' := fun b o e n => k b o (x b o e n)
theorem Kept.sub {T T' : List (Addr × Obj)} {h h' : Heap} (x : Kept T h h') (hs : ∀ p ∈ T, p.1 ∈ T'.map (·.1)) : Kept T' h h' := fun b o e n => x b o e fun hm => by
  obtain ⟨p, hp, rfl⟩ := List.mem_map.mp hm
  exact n (hs p hp)
theorem Kept.news {T rest : List (Addr × Obj)} {h₀ h h' : Heap} {L : Addr} (x : Kept T h h') (N : News h₀ L h rest) (off : ∀ p ∈ rest, p.1 ∉ T.map (·.1)) : News h₀ L h' rest :=
  fun p hp => ⟨x _ _ (N p hp).1 (off p hp), (N p hp).2⟩
/-- what is in the ledger behind is one of the named, or was not there -/
def Young (T : List (Addr × Obj)) (h : Heap) (T' : List (Addr × Obj)) : Prop := ∀ p ∈ T', p.1 ∈ T.map (·.1) ∨ h.get? p.1 = none
theorem Young.of {T T' : List (Addr × Obj)} {h g h' : Heap} {L' : Addr} (x : Kept T h g) (N : News g L' h' T') : Young T h T' := fun p hp => by
  by_cases hm : p.1 ∈ T.map (·.1)
  · exact .inl hm
  · right
    cases e : h.get? p.1 with
    | none => rfl
    | some o => have := x _ _ e hm; rw [(N p hp).2.2] at this; cases this
theorem Young.ne {T T' rest : List (Addr × Obj)} {h₀ h : Heap} {L : Addr} (y : Young T h T') (N : News h₀ L h rest) (off : ∀ p ∈ rest, p.1 ∉ T.map (·.1)) : ∀ p ∈ T', ∀ q ∈ rest, q.1 ≠ p.1 := fun p hp q hq e => by
  rcases y p hp with h1 | h1
  · exact off q hq (e ▸ h1)
  · rw [← e, (N q hq).1] at h1; cases h1

section
variable {prog : Program} {w : World} {A₀ A : Around} {s : Shared} {base h₀ : Heap} {outer : List Env} {L : Addr} {m : Str → Option Value} {env : Env} {news : List (Addr × Obj)} {K : Frag} {p : Program} {loose : List Str} {mean : ExcName → Option Value} {mg mb : Str → Option Value}
  {R : Result → Shared → Prop} {name qual : Str} {params : Arguments} {body : List Stmt} {scope : Scope} {cl : List (Str × Addr)} {dV kV doc pm cdv ct : Value} {an : Option Addr} {fo : Obj} {f : Addr} {args : Args} {binds : List (Str × Value)}

theorem enterX (B : Below A₀ base outer h₀) (F : Fr h₀ L s.heap m) (X₀ : K.In h₀) (N : News h₀ L s.heap news) (T : Top p loose mean mg mb h₀) (hA : A.frames = some (env :: outer)) (hf : env.frame = some L) (hke : env.scope.kind = .function)
    (ho : s.heap.get? f = some fo) (hd : fo.data = .func (fnX name qual params body scope cl dV kV doc pm an cdv ct)) (hcd : s.heap.CodeRec cdv qual) (hroom : A.depth < recursionLimit)
    (hbind : BindsTo s (fnX name qual params body scope cl dV kV doc pm an cdv ct) args binds) (hloc : ∀ y ∈ binds, scope.names.lookup y.1 = some .local)
    (h : ∀ g L' h₁, Fr h₀ L g m → Fr g L' h₁ (fun y => binds.reverse.lookup y) → News g L' h₁ news → Below A base (env :: outer) g → K.In g → Top p loose mean mg mb g → Kept news s.heap g → (∀ p ∈ news, p.1 < L') →
      wpAny (model prog w) (A.deeper (envX qual scope L' f cdv cl)) (execs body (envX qual scope L' f cdv cl))
        (fun fl s' => LeaveK h₀ L m g R (match fl with | .ret v => v | _ => .none) s')
        (fun e s' => wpAny (model prog w) (A.deeper (envX qual scope L' f cdv cl)) (leaving (envX qual scope L' f cdv cl) e) (fun _ s'' => R (.error e) s'') (fun e' s'' => R (.error e') s'') s')
        { s with heap := h₁, toks := s.toks + binds.length })
    (hcell : ∀ x ∈ scope.names, x.2 ≠ .cell) (hco : scope.isCoroutine = false) (hgen : scope.isGenerator = false) (hk : scope.kind = .function) : codeAny (model prog w) A (.call (.ref f) args) R s := by
  obtain ⟨FG, BG, st, lv⟩ := groundX (R := R) B F N hA hf hke
  have lt : ∀ q ∈ news, q.1 < s.heap.objs.size := fun q hq => Heap.lt_size (N q hq).1
  refine codeAny_call_def (fd := fnX name qual params body scope cl dV kV doc pm an cdv ct) (body := body) (binds := binds) hroom ho hd (T.nolimit.keeps F.keep) hcd rfl hbind hcell hloc (fun h₁ hns hk₁ => ?_) hco hgen hk
  have F₁ : Fr (hideAll s.heap (news.map (·.1))) s.heap.objs.size h₁ (fun y => binds.reverse.lookup y) := ⟨hns, fun b o e => hk₁ b o (of_hideAll _ e), Nat.le_of_eq (hideAll_size _ _)⟩
  have N₁ : News (hideAll s.heap (news.map (·.1))) s.heap.objs.size h₁ news := fun q hq => ⟨hk₁ _ _ (N q hq).1, Nat.ne_of_lt (lt q hq), hideAll_none _ (List.mem_map_of_mem hq)⟩
  exact wpAny_mono (h _ _ h₁ FG F₁ N₁ BG (X₀.keeps st) (T.keeps st) (Kept.hide _ _) lt) (fun _ _ hl => lv _ _ hl) fun _ _ y => y

theorem enterC (B : Below A₀ base outer h₀) (F : Fr h₀ L s.heap m) (X₀ : K.In h₀) (N : News h₀ L s.heap news) (T : Top p loose mean mg mb h₀) (hA : A.frames = some (env :: outer)) (hf : env.frame = some L) (hke : env.scope.kind = .function)
    (ho : s.heap.get? f = some fo) (hd : fo.data = .func (fnX name qual params body scope [] dV kV doc pm an cdv ct)) (hcd : s.heap.CodeRec cdv qual) (hroom : A.depth < recursionLimit)
    (hbind : BindsTo s (fnX name qual params body scope [] dV kV doc pm an cdv ct) args binds)
    (hkind : (binds.all fun y => scope.names.lookup y.1 == some .local || scope.names.lookup y.1 == some .cell) = true) (hnd : ((cellsFrom 0 scope.names []).map (·.1)).Nodup)
    (h : ∀ g L' h₁ tk cells, Fr h₀ L g m → Fr g L' h₁ (bindL (envOfC qual scope L' f cdv).kindOf binds fun _ => none) → News g L' h₁ (cells ++ news) →
      CellsAre (bindC (envOfC qual scope L' f cdv).kindOf binds fun _ => none) (cellsFrom (L' + 1) scope.names []) cells → Below A base (env :: outer) g → K.In g → Top p loose mean mg mb g → Kept news s.heap g → (∀ p ∈ news, p.1 < L') →
      wpAny (model prog w) (A.deeper (envOfC qual scope L' f cdv)) (execs body (envOfC qual scope L' f cdv))
        (fun fl s' => LeaveK h₀ L m g R (match fl with | .ret v => v | _ => .none) s')
        (fun e s' => wpAny (model prog w) (A.deeper (envOfC qual scope L' f cdv)) (leaving (envOfC qual scope L' f cdv) e) (fun _ s'' => R (.error e) s'') (fun e' s'' => R (.error e') s'') s')
        { s with heap := h₁, toks := tk })
    (hco : scope.isCoroutine = false) (hgen : scope.isGenerator = false) (hk : scope.kind = .function) : codeAny (model prog w) A (.call (.ref f) args) R s := by
  obtain ⟨FG, BG, st, lv⟩ := groundX (R := R) B F N hA hf hke
  have lt : ∀ q ∈ news, q.1 < s.heap.objs.size := fun q hq => Heap.lt_size (N q hq).1
  refine codeAny_call_function hroom ho hd hco hgen rfl hcd (hbind _ _ _ _ ?_)
  refine wpAny_newFunctionEnv_cells hk (kindsX hkind _) fun env' he s' x => ?_
  subst he
  refine ⟨(T.nolimit.keeps F.keep).keeps x.toInCall.keep, codeAny_func ?_⟩
  obtain ⟨h₁, tk, rfl, _⟩ := x.done
  have hk₁ := x.toInCall.keep
  have above : ∀ n c, (n, c) ∈ cellsFrom (s.heap.objs.size + 1) scope.names [] → (cellsFrom (s.heap.objs.size + 1) scope.names []).lookup n = some c := fun n c hm =>
    lookup_of_mem_nodup (cellsFrom_names scope.names 0 (s.heap.objs.size + 1) [] [] rfl ▸ hnd) hm
  obtain ⟨cells, NC, Y⟩ := Cl.news (h₀ := s.heap) (Nat.le_refl _) fun n c hm => ⟨x.cell n c (above n c hm), x.above n c hm⟩
  have F₁ : Fr (hideAll s.heap (news.map (·.1))) s.heap.objs.size h₁ _ := ⟨x.toInCall.ns, fun b o e => hk₁ b o (of_hideAll _ e), Nat.le_of_eq (hideAll_size _ _)⟩
  have N₁ : News (hideAll s.heap (news.map (·.1))) s.heap.objs.size h₁ (cells ++ news) := fun q hq => by
    rcases List.mem_append.mp hq with hq | hq
    · refine ⟨(NC q hq).1, (NC q hq).2.1, ?_⟩
      cases e : (hideAll s.heap (news.map (·.1))).get? q.1 with
      | none => rfl
      | some o => have := of_hideAll _ e; rw [(NC q hq).2.2] at this; cases this
    · exact ⟨hk₁ _ _ (N q hq).1, Nat.ne_of_lt (lt q hq), hideAll_none _ (List.mem_map_of_mem hq)⟩
  exact wpAny_mono (h _ _ h₁ tk cells FG F₁ N₁ Y BG (X₀.keeps st) (T.keeps st) (Kept.hide _ _) lt) (fun _ _ hl => lv _ _ hl) fun _ _ y => y
end

/-- what a call of a def gives, from whatever frame: the value, what it made and turned of the named entries; all else stands -/
def Call (w : World) (dep uns : Nat) (f : Addr) (vs : List Value) (news : List (Addr × Obj)) (Post : Value → List (Addr × Obj) → Prop) : Prop :=
  ∀ (loose : List Str) (mean : ExcName → Option Value) (mg mb : Str → Option Value) (dp un : Nat) (gd : Option (List Code)) (cn : Str) (cs : Scope) (a : Addr) (ccd : Value) (cl : List (Str × Addr)) (outer : List Env) (A₀ : Around) (base h₀ : Heap) (L : Addr) (m : Str → Option Value) (s : Shared) (Q E : Value → Shared → Prop),
    Below A₀ base outer h₀ → Fr h₀ L s.heap m → (hd.heap_39 w.params).In h₀ → News h₀ L s.heap news → Top topProg loose mean mg mb h₀ → cs.kind = .function → CodeHd base 41 37 → CodeHd base 34 30 →
    dp + dep < recursionLimit → un + uns < cLine →
    (∀ v news' h' tk', Fr h₀ L h' m → Kept news s.heap h' → Young news s.heap news' → News h₀ L h' news' → Post v news' → Q v { s with heap := h', toks := tk' }) →
    wpAny (model PySem.Challenge.rw_gl0008_01.row.prog w) (ktrTop dp un gd cn cs L a ccd cl outer) (call (.ref f) vs) Q E s

section
variable {prog : Program} {w : World} {A₀ A : Around} {s : Shared} {base h₀ : Heap} {outer : List Env} {L : Addr} {m : Str → Option Value} {env : Env} {news : List (Addr × Obj)} {K : Frag} {p : Program} {loose : List Str} {mean : ExcName → Option Value} {mg mb : Str → Option Value}
  {R : Result → Shared → Prop} {name qual : Str} {params : Arguments} {body : List Stmt} {scope : Scope} {dV kV doc pm cdv ct oc : Value} {an od : Option Addr} {osl : Array (Option Value)} {f : Addr} {args : Args} {binds : List (Str × Value)}

theorem enterKP (B : Below A₀ base outer h₀) (F : Fr h₀ L s.heap m) (X₀ : K.In h₀) (N : News h₀ L s.heap news) (T : Top p loose mean mg mb h₀) (hA : A.frames = some (env :: outer)) (hf : env.frame = some L) (hke : env.scope.kind = .function)
    (ho : K.lookup f = some ⟨oc, od, .func (fnOf name qual params body scope dV kV doc pm an cdv ct), osl⟩) (hcd : codeIn K cdv qual = true) (hroom : A.depth < recursionLimit)
    (hbind : BindsTo s (fnOf name qual params body scope dV kV doc pm an cdv ct) args binds) (hloc : ∀ y ∈ binds, scope.names.lookup y.1 = some .local)
    (h : ∀ g L' h₁, Fr h₀ L g m → Fr g L' h₁ (fun y => binds.reverse.lookup y) → News g L' h₁ news → Below A base (env :: outer) g → K.In g → Top p loose mean mg mb g → Kept news s.heap g → (∀ p ∈ news, p.1 < L') →
      wpAny (model prog w) (A.deeper (envOf qual scope L' f cdv)) (execs body (envOf qual scope L' f cdv))
        (fun fl s' => LeaveK h₀ L m g R (match fl with | .ret v => v | _ => .none) s')
        (fun e s' => wpAny (model prog w) (A.deeper (envOf qual scope L' f cdv)) (leaving (envOf qual scope L' f cdv) e) (fun _ s'' => R (.error e) s'') (fun e' s'' => R (.error e') s'') s')
        { s with heap := h₁, toks := s.toks + binds.length })
    (hco : scope.isCoroutine = false) (hgen : scope.isGenerator = false) (hk : scope.kind = .function) (hcell : ∀ x ∈ scope.names, x.2 ≠ .cell) : codeAny (model prog w) A (.call (.ref f) args) R s :=
  enterX (cl := []) B F X₀ N T hA hf hke ((X₀.keeps F.keep) _ _ ho) rfl (codeRec_of (X₀.keeps F.keep) hcd) hroom hbind hloc h hcell hco hgen hk

theorem enterKC (B : Below A₀ base outer h₀) (F : Fr h₀ L s.heap m) (X₀ : K.In h₀) (N : News h₀ L s.heap news) (T : Top p loose mean mg mb h₀) (hA : A.frames = some (env :: outer)) (hf : env.frame = some L) (hke : env.scope.kind = .function)
    (ho : K.lookup f = some ⟨oc, od, .func (fnOf name qual params body scope dV kV doc pm an cdv ct), osl⟩) (hcd : codeIn K cdv qual = true) (hroom : A.depth < recursionLimit)
    (hbind : BindsTo s (fnOf name qual params body scope dV kV doc pm an cdv ct) args binds)
    (hkind : (binds.all fun y => scope.names.lookup y.1 == some .local || scope.names.lookup y.1 == some .cell) = true) (hnd : ((cellsFrom 0 scope.names []).map (·.1)).Nodup)
    (h : ∀ g L' h₁ tk cells, Fr h₀ L g m → Fr g L' h₁ (bindL (envOfC qual scope L' f cdv).kindOf binds fun _ => none) → News g L' h₁ (cells ++ news) →
      CellsAre (bindC (envOfC qual scope L' f cdv).kindOf binds fun _ => none) (cellsFrom (L' + 1) scope.names []) cells → Below A base (env :: outer) g → K.In g → Top p loose mean mg mb g → Kept news s.heap g → (∀ p ∈ news, p.1 < L') →
      wpAny (model prog w) (A.deeper (envOfC qual scope L' f cdv)) (execs body (envOfC qual scope L' f cdv))
        (fun fl s' => LeaveK h₀ L m g R (match fl with | .ret v => v | _ => .none) s')
        (fun e s' => wpAny (model prog w) (A.deeper (envOfC qual scope L' f cdv)) (leaving (envOfC qual scope L' f cdv) e) (fun _ s'' => R (.error e) s'') (fun e' s'' => R (.error e') s'') s')
        { s with heap := h₁, toks := tk })
    (hco : scope.isCoroutine = false) (hgen : scope.isGenerator = false) (hk : scope.kind = .function) : codeAny (model prog w) A (.call (.ref f) args) R s :=
  enterC B F X₀ N T hA hf hke ((X₀.keeps F.keep) _ _ ho) rfl (codeRec_of (X₀.keeps F.keep) hcd) hroom hbind hkind hnd h hco hgen hk

theorem enterM {cl : List (Str × Addr)} {c' : Addr} {ctv : Value} (B : Below A₀ base outer h₀) (F : Fr h₀ L s.heap m) (X₀ : K.In h₀) (N : News h₀ L s.heap news) (T : Top p loose mean mg mb h₀) (hA : A.frames = some (env :: outer)) (hf : env.frame = some L) (hke : env.scope.kind = .function)
    (ho : (f, fnMade name qual params body scope cl doc pm c' ctv) ∈ news) (hcd : s.heap.CodeRec (.ref c') qual) (hroom : A.depth < recursionLimit)
    (hbind : BindsTo s (fnX name qual params body scope cl .none .none doc pm none (.ref c') ctv) args binds) (hloc : ∀ y ∈ binds, scope.names.lookup y.1 = some .local)
    (h : ∀ g L' h₁, Fr h₀ L g m → Fr g L' h₁ (fun y => binds.reverse.lookup y) → News g L' h₁ news → Below A base (env :: outer) g → K.In g → Top p loose mean mg mb g → Kept news s.heap g → (∀ p ∈ news, p.1 < L') →
      wpAny (model prog w) (A.deeper (envX qual scope L' f (.ref c') cl)) (execs body (envX qual scope L' f (.ref c') cl))
        (fun fl s' => LeaveK h₀ L m g R (match fl with | .ret v => v | _ => .none) s')
        (fun e s' => wpAny (model prog w) (A.deeper (envX qual scope L' f (.ref c') cl)) (leaving (envX qual scope L' f (.ref c') cl) e) (fun _ s'' => R (.error e) s'') (fun e' s'' => R (.error e') s'') s')
        { s with heap := h₁, toks := s.toks + binds.length })
    (hco : scope.isCoroutine = false) (hgen : scope.isGenerator = false) (hk : scope.kind = .function) (hcell : ∀ x ∈ scope.names, x.2 ≠ .cell) : codeAny (model prog w) A (.call (.ref f) args) R s :=
  enterX B F X₀ N T hA hf hke (N _ ho).1 rfl hcd hroom hbind hloc h hcell hco hgen hk
end
local macro_rules | `(tactic| walk_at "mine enter") => `(tactic| (refine' enterKP ?k1 ?k2 ?k3 ?k4 ?k5 ?kA ?kF ?kK ?k6 ?k7 ?k8 ?k9 ?kB ?_ ?c2 ?c3 ?c4 ?c5; (case kA => exact rfl); (case kF => exact rfl); (case kK => first | exact rfl | assumption); (case k1 => k_asm); (case k2 => k_asm); (case k3 => k_asm); (case k4 => k_asm); (case k5 => k_asm); (case k6 => k_is); (case k7 => k_is); (case k8 => ktr_room); (case k9 => first | exact BindsTo.of_eq rfl | (refine' kp_binds ?kx ?ke; (case kx => k_in); (case ke => exact fun _ => rfl))); (case c5 => decide); (case kB => exact locs rfl); (case c2 => exact rfl); (case c3 => exact rfl); (case c4 => exact rfl); k_whole; intro g' L' h' FG' F' N' B' X' T' hKept' l1; (try k_lt l1); (try dsimp only); (try k_fold)))
local macro_rules | `(tactic| walk_at "mine enterC") => `(tactic| (refine' enterKC ?k1 ?k2 ?k3 ?k4 ?k5 ?kA ?kF ?kK ?k6 ?k7 ?k8 ?k9 ?kB ?kD ?_ ?c2 ?c3 ?c4; (case kA => exact rfl); (case kF => exact rfl); (case kK => first | exact rfl | assumption); (case k1 => k_asm); (case k2 => k_asm); (case k3 => k_asm); (case k4 => k_asm); (case k5 => k_asm); (case k6 => k_is); (case k7 => k_is); (case k8 => ktr_room); (case k9 => exact BindsTo.of_eq rfl); (case kB => exact rfl); (case kD => decide +kernel); (case c2 => exact rfl); (case c3 => exact rfl); (case c4 => exact rfl); k_whole; intro g' L' h' tk' cells' FG' F' N' Y' B' X' T' hKept' l1; (try k_lt l1); k_cells Y'; (try simp only [List.cons_append, List.nil_append] at N'); (try dsimp only); (try k_fold)))
local macro_rules | `(tactic| walk_at "mine enterM") => `(tactic| (refine' enterM ?k1 ?k2 ?k3 ?k4 ?k5 ?kA ?kF ?kK ?k6 ?k7 ?k8 ?k9 ?kB ?_ ?c2 ?c3 ?c4 ?c5; (case kA => exact rfl); (case kF => exact rfl); (case kK => first | exact rfl | assumption); (case k1 => k_asm); (case k2 => k_asm); (case k3 => k_asm); (case k4 => k_asm); (case k5 => k_asm); (case k6 => k_mem); (case k7 => exact codeRec_news (by k_asm) (by k_mem) (by assumption) (by assumption)); (case k8 => ktr_room); (case k9 => exact BindsTo.of_eq rfl); (case c5 => decide); (case kB => exact locs rfl); (case c2 => exact rfl); (case c3 => exact rfl); (case c4 => exact rfl); k_whole; intro g' L' h' FG' F' N' B' X' T' hKept' l1; (try k_lt l1); (try dsimp only); (try k_fold)))
section
/-- how many numbers up to forty go into it -/
def tau (d : Int) : Int := (((List.range 40).filter (fun (k : Nat) => decide (d.fmod ((k : Int) + 1) = 0))).length : Nat)
def coarse (p d : Int) : Bool := (List.range 40).all (fun (k : Nat) => decide (p ≤ (k : Int) + 2) || decide (d.fmod ((k : Int) + 2) ≠ 0))
def toldJ (n d f p : Int) : Prop := f * tau d = tau n ∧ coarse p d = true
def toldI (d₀ p d o : Int) : Prop := d * p ^ o.toNat = d₀

theorem forty {P : Int → Prop} (h : ∀ k : Nat, k < 40 → P ((k : Int) + 1)) {x : Int} (h1 : 1 ≤ x) (h2 : x ≤ 40) : P x := by
  have := h (x - 1).toNat (by omega)
  rwa [show (((x - 1).toNat : Nat) : Int) + 1 = x by omega] at this
theorem tau_pos {d : Int} (h1 : 1 ≤ d) (h2 : d ≤ 40) : 1 ≤ tau d ∧ tau d ≤ 40 := by
  refine forty (P := fun d => 1 ≤ tau d ∧ tau d ≤ 40) ?_ h1 h2
  decide +kernel
theorem coarse_le {p d : Int} (h1 : 1 < d) (h2 : d ≤ 40) (h : coarse p d = true) : p ≤ d := by
  unfold coarse at h
  rw [List.all_eq_true] at h
  have := h (d - 2).toNat (List.mem_range.mpr (by omega))
  rw [show (((d - 2).toNat : Nat) : Int) + 2 = d by omega, Int.fmod_self] at this
  simpa using this
theorem pow_big {p : Int} (hp : 2 ≤ p) : ∀ k : Nat, (2 : Int) ^ k ≤ p ^ k
  | 0 => by simp
  | k + 1 => by
    have h1 := pow_big hp k
    have h0 : (0 : Int) < 2 ^ k := Int.pow_pos (by decide)
    rw [Int.pow_succ, Int.pow_succ]
    exact Int.mul_le_mul h1 hp (by decide) (by omega)
theorem pow_six : ∀ j : Nat, (64 : Int) ≤ 2 ^ (6 + j)
  | 0 => by decide
  | j + 1 => by
    have h := pow_six j
    rw [show 6 + (j + 1) = (6 + j) + 1 from rfl, Int.pow_succ]
    omega
theorem toldI_start {p d : Int} : toldI d p d 0 := by simp [toldI]
theorem toldI_turn {d₀ p d o : Int} (h2 : d₀ ≤ 40) (hd : 1 ≤ d) (ho : 0 ≤ o) (hp : 2 ≤ p) (hm : d.fmod p = 0) (h : toldI d₀ p d o) : 1 ≤ d.fdiv p ∧ d.fdiv p < d ∧ o + 1 ≤ 5 ∧ toldI d₀ p (d.fdiv p) (o + 1) := by
  unfold toldI at *
  have e : d = p * d.fdiv p := by have := Int.mul_fdiv_add_fmod d p; omega
  have hq : 1 ≤ d.fdiv p := by
    rcases Int.lt_or_le 0 (d.fdiv p) with h1 | h1
    · omega
    · have := Int.mul_nonpos_of_nonneg_of_nonpos (show 0 ≤ p by omega) h1
      omega
  have hlt : d.fdiv p < d := by
    have h3 : 2 * d.fdiv p ≤ p * d.fdiv p := Int.mul_le_mul_of_nonneg_right hp (by omega)
    omega
  have ht : (o + 1).toNat = o.toNat + 1 := by omega
  have hI : d.fdiv p * p ^ (o + 1).toNat = d₀ := by
    rw [ht, Int.pow_succ, Int.mul_comm (p ^ o.toNat) p, ← Int.mul_assoc, Int.mul_comm (d.fdiv p) p, ← e, h]
  refine ⟨hq, hlt, ?_, hI⟩
  refine Int.not_lt.mp fun hc => ?_
  have h5 : (64 : Int) ≤ 2 ^ (o + 1).toNat := by
    have := pow_six ((o + 1).toNat - 6)
    rwa [show 6 + ((o + 1).toNat - 6) = (o + 1).toNat by omega] at this
  have h6 := pow_big hp (o + 1).toNat
  have h7 : 1 * p ^ (o + 1).toNat ≤ d.fdiv p * p ^ (o + 1).toNat := Int.mul_le_mul_of_nonneg_right hq (by omega)
  omega
def mulOne (d p : Int) (o : Nat) : Bool := !(decide (d * p ^ o ≤ 40) && coarse p (d * p ^ o) && !(d.fmod p == 0)) || (tau (d * p ^ o) == tau d * ((o : Int) + 1) && coarse (p + 1) d)
theorem mul_all : ((List.range 40).all fun (d : Nat) => (List.range 39).all fun (p : Nat) => (List.range 6).all fun o => mulOne ((d : Int) + 1) ((p : Int) + 2) o) = true := by decide +kernel
theorem told_mul (d : Nat) (hd : d < 40) (p : Nat) (hp : p < 39) (o : Nat) (ho : o < 6) (h1 : ((d : Int) + 1) * ((p : Int) + 2) ^ o ≤ 40) (h2 : coarse ((p : Int) + 2) (((d : Int) + 1) * ((p : Int) + 2) ^ o) = true) (h3 : ((d : Int) + 1).fmod ((p : Int) + 2) ≠ 0) :
    tau (((d : Int) + 1) * ((p : Int) + 2) ^ o) = tau ((d : Int) + 1) * ((o : Int) + 1) ∧ coarse ((p : Int) + 2 + 1) ((d : Int) + 1) = true := by
  have h := List.all_eq_true.mp (List.all_eq_true.mp (List.all_eq_true.mp mul_all d (List.mem_range.mpr hd)) p (List.mem_range.mpr hp)) o (List.mem_range.mpr ho)
  simp only [mulOne, Bool.or_eq_true, Bool.not_eq_true', Bool.and_eq_true, Bool.and_eq_false_iff, decide_eq_false_iff_not, Bool.not_eq_false', beq_iff_eq] at h
  rcases h with ((h | h) | h) | h
  · exact absurd h1 h
  · rw [h2] at h; cases h
  · exact absurd h h3
  · exact h
theorem toldJ_start {n : Int} : toldJ n n 1 2 := by
  refine ⟨by rw [Int.one_mul], ?_⟩
  unfold coarse
  rw [List.all_eq_true]
  intro k _
  have : (2 : Int) ≤ (k : Int) + 2 := by omega
  simp [this]
theorem toldJ_turn {n d f p d' o : Int} (hn1 : 1 ≤ n) (hn : n ≤ 40) (h1 : 1 < d) (h2 : d ≤ 40) (hp : 2 ≤ p) (hf : 1 ≤ f) (hJ : toldJ n d f p) (hd' : 1 ≤ d') (hd2 : d' ≤ 40) (ho : 0 ≤ o) (ho2 : o ≤ 5) (hI : toldI d p d' o) (hm : d'.fmod p ≠ 0) :
    p + 1 ≤ 41 ∧ 1 ≤ f * (o + 1) ∧ f * (o + 1) ≤ 40 ∧ toldJ n d' (f * (o + 1)) (p + 1) := by
  obtain ⟨e, c⟩ := hJ
  have hpd := coarse_le h1 h2 c
  unfold toldI at hI
  have hm9 := told_mul (d' - 1).toNat (by omega) (p - 2).toNat (by omega) o.toNat (by omega)
  rw [show (((d' - 1).toNat : Nat) : Int) + 1 = d' by omega, show (((p - 2).toNat : Nat) : Int) + 2 = p by omega, show ((o.toNat : Nat) : Int) = o by omega, hI] at hm9
  obtain ⟨q1, q2⟩ := hm9 h2 c hm
  have t1 := tau_pos hd' hd2
  have t2 := tau_pos hn1 hn
  have hpos : 1 ≤ f * (o + 1) := by
    have := Int.mul_le_mul hf (show (1 : Int) ≤ o + 1 by omega) (by decide) (by omega)
    omega
  have hE : f * (o + 1) * tau d' = tau n := by rw [← e, q1, Int.mul_assoc, Int.mul_comm (o + 1)]
  refine ⟨by omega, hpos, ?_, hE, q2⟩
  have := Int.mul_le_mul_of_nonneg_left t1.1 (show 0 ≤ f * (o + 1) by omega)
  omega
theorem toldJ_end {n d f p : Int} (hJ : toldJ n d f p) (h1 : 1 ≤ d) (h2 : d ≤ 1) : f = tau n := by
  have e : d = 1 := by omega
  subst e
  have := hJ.1
  rw [show tau 1 = 1 by decide +kernel, Int.mul_one] at this
  exact this
theorem told_in {d₀ p d o : Int} (hI : toldI d₀ p d o) (hm : d.fmod p = 0) (h2 : d₀ ≤ 40) (hd : 1 ≤ d) (hd2 : d ≤ 40) (ho : 0 ≤ o) (hp : 2 ≤ p) :
    (1 ≤ d.fdiv p ∧ d.fdiv p ≤ 40 ∧ 0 ≤ o + 1 ∧ o + 1 ≤ 5) ∧ toldI d₀ p (d.fdiv p) (o + 1) := by
  obtain ⟨a, b, c, e⟩ := toldI_turn h2 hd ho hp hm hI
  exact ⟨⟨a, by omega, by omega, c⟩, e⟩
theorem told_less {p d : Int} (hm : d.fmod p = 0) (hd : 1 ≤ d) (hd2 : d ≤ 40) (hp : 2 ≤ p) : (d.fdiv p).toNat < d.toNat := by
  have := (toldI_turn (d₀ := d) hd2 hd (Int.le_refl 0) hp hm toldI_start).2.1
  omega
theorem told_out {n d f p d' o : Int} (hJ : toldJ n d f p) (hI : toldI d p d' o) (hm : d'.fmod p ≠ 0) (hn1 : 1 ≤ n) (hn : n ≤ 40) (h1 : 1 < d) (h2 : d ≤ 40) (hp : 2 ≤ p) (hf : 1 ≤ f) (hd' : 1 ≤ d') (hd2 : d' ≤ 40) (ho : 0 ≤ o) (ho2 : o ≤ 5) :
    (1 ≤ d' ∧ d' ≤ 40 ∧ 2 ≤ p + 1 ∧ p + 1 ≤ 41 ∧ 1 ≤ f * (o + 1) ∧ f * (o + 1) ≤ 40) ∧ toldJ n d' (f * (o + 1)) (p + 1) := by
  obtain ⟨a, b, c, e⟩ := toldJ_turn hn1 hn h1 h2 hp hf hJ hd' hd2 ho ho2 hI hm
  exact ⟨⟨hd', hd2, by omega, a, b, c⟩, e⟩

theorem News.nil (h₀ h : Heap) (L : Addr) : News h₀ L h [] := fun _ h => absurd h List.not_mem_nil
theorem told_call (w : World) (n : Int) (t : Tok) (h1 : 1 ≤ n) (h2 : n ≤ 40) :
    Call w 2 20 91 [.int n t] [] (fun v T' => T' = [] ∧ ∃ t', v = .int (tau n) t') := by
  unfold Call
  k_fill
  intro loose mean mg mb dp un gd cn cs a ccd cl outer A₀ base h₀ L m s Q E B F X N T hk c1 c2 hd hu hret
  refine wpAny_call ?_
  k_with_none
  k_dflt walk_at "mine enter"
  k_with "exec While Compare cons nil" => k_while (fun _ d f p => (1 ≤ d ∧ d ≤ 40 ∧ 2 ≤ p ∧ p ≤ 41 ∧ 1 ≤ f ∧ f ≤ 40) ∧ toldJ n d f p) (fun _ _ _ p => (42 - p).toNat) "door" "found" "prime"
  k_with "exec While Compare cons nil" => k_while_given ["prime", "door!"] (fun p d₀ _ d o => (1 ≤ d ∧ d ≤ 40 ∧ 0 ≤ o ∧ o ≤ 5) ∧ toldI d₀ p d o) (fun p d₀ _ d _ => d.toNat) "door" "often"
  k_with "state" => exact ⟨⟨h1, h2, by decide, by decide, by decide, by decide⟩, toldJ_start⟩
  k_with "state" => exact ⟨⟨by omega, by omega, by decide, by decide⟩, toldI_start⟩
  k_with "state" => exact told_in (by assumption) (by assumption) (by omega) (by omega) (by omega) (by omega) (by omega)
  k_with "state" => exact told_out (by assumption) (by assumption) (by assumption) (by omega) (by omega) (by omega) (by omega) (by omega) (by omega) (by omega) (by omega) (by omega) (by omega)
  k_with "measure" => exact told_less (by assumption) (by omega) (by omega) (by omega)
  k_steps
  refine hret _ _ _ _ (by k_asm) (Kept.then (by assumption) (Fr.keep (by assumption))) ?_ (News.nil _ _ _) ⟨rfl, _, congrArg (fun x => Value.int x _) (toldJ_end (by assumption) (by omega) (by omega))⟩
  exact fun _ h => absurd h List.not_mem_nil
end
section
/-- what the walk is to leave as it stands -/
def Stop (P : Prop) : Prop := P
theorem Stop.out {P : Prop} (h : Stop P) : P := h

section
variable {prog : Program} {w : World} {A : Around} {E : Value → Shared → Prop} {s : Shared} {a b r : Int} {t u : Tok} {Q : Value → Shared → Prop}
theorem rsh_as (e : a.fdiv (2 ^ b.toNat) = r) (hn : 0 ≤ b) (h : Q (.int r s.toks) { s with toks := s.toks + 1 }) : wpAny (model prog w) A (binaryOp .RShift (.int a t) (.int b u)) Q E s := by
  subst e; exact rshift_int hn h
theorem lsh_as (e : a * 2 ^ b.toNat = r) (hn : 0 ≤ b) (hn2 : b ≤ 1000000) (ha : a.natAbs < 2 ^ 64) (h : Q (.int r s.toks) { s with toks := s.toks + 1 }) : wpAny (model prog w) A (binaryOp .LShift (.int a t) (.int b u)) Q E s := by
  subst e; exact lshift_int_small hn hn2 ha h
theorem xor_as (e : Builtin.bitXor a b = r) (h : Q (.int r s.toks) { s with toks := s.toks + 1 }) : wpAny (model prog w) A (binaryOp .BitXor (.int a t) (.int b u)) Q E s := by
  subst e; exact xor_int h
theorem mul_as (e : a * b = r) (ha : a.natAbs < 2 ^ 64) (h : Q (.int r s.toks) { s with toks := s.toks + 1 }) : wpAny (model prog w) A (binaryOp .Mult (.int a t) (.int b u)) Q E s := by
  subst e; exact mul_int h (IntMulOk.of_left (intBits_le_iff.mpr ha))
end

/-- the figures of x by 2^n, the lowest first, laid as the code lays them: the low half, then the high -/
def shOf (n : Int) (len : Nat) : Int := ((len / 2 : Nat) : Int) * n
def upOf (n : Int) (len : Nat) (x : Int) : Int := x.fdiv (2 ^ (shOf n len).toNat)
def loOf (n : Int) (len : Nat) (x : Int) : Int := Builtin.bitXor x (upOf n len x * 2 ^ (shOf n len).toNat)
def wr (n : Int) : Nat → Nat → Int → List Int
  | 0, _, _ => []
  | f + 1, len, x => if len ≤ 1 then [x] else wr n f (len / 2) (loOf n len x) ++ wr n f (len - len / 2) (upOf n len x)
def wrOk (n : Int) : Nat → Nat → Int → Bool
  | 0, _, _ => false
  | f + 1, len, x => if len ≤ 1 then len == 1 else decide (0 ≤ shOf n len) && decide (shOf n len ≤ 1000) && decide ((upOf n len x).natAbs < 2 ^ 60) && wrOk n f (len / 2) (loOf n len x) && wrOk n f (len - len / 2) (upOf n len x)
theorem wr_len (n : Int) : ∀ (f len : Nat) (x : Int), wrOk n f len x = true → (wr n f len x).length = len
  | 0, _, _, h => by cases h
  | f + 1, len, x, h => by
    unfold wrOk at h
    unfold wr
    split
    · rename_i hl
      rw [if_pos hl] at h
      simp only [beq_iff_eq] at h
      subst h; rfl
    · rename_i hl
      rw [if_neg hl] at h
      simp only [Bool.and_eq_true] at h
      rw [List.length_append, wr_len n f _ _ h.1.2, wr_len n f _ _ h.2]
      omega
def put (ns : List Int) (i : Nat) (seg : List Int) : List Int := ns.take i ++ seg ++ ns.drop (i + seg.length)
theorem put_len {ns seg : List Int} {i : Nat} (h : i + seg.length ≤ ns.length) : (put ns i seg).length = ns.length := by
  unfold put
  simp only [List.length_append, List.length_take, List.length_drop]
  omega
theorem put_one {ns : List Int} {i : Nat} {x : Int} (h : i < ns.length) : ns.set i x = put ns i [x] := by
  unfold put
  rw [List.set_eq_take_append_cons_drop, if_pos h]
  simp
theorem put_app (A B a : List Int) : put (A ++ B) A.length a = A ++ a ++ B.drop a.length := by
  unfold put
  rw [List.take_left, ← List.drop_drop, List.drop_left]
theorem put_put {ns a b : List Int} {i j : Nat} (h : i + a.length + b.length ≤ ns.length) (hj : j = i + a.length) : put (put ns i a) j b = put ns i (a ++ b) := by
  subst hj
  have h1 : (ns.take i).length = i := by rw [List.length_take]; omega
  have key : ∀ seg, put ns i seg = ns.take i ++ seg ++ (ns.drop i).drop seg.length := fun seg => by
    have := put_app (ns.take i) (ns.drop i) seg
    rwa [List.take_append_drop, h1] at this
  rw [key, key]
  have e : i + a.length = (ns.take i ++ a).length := by rw [List.length_append, h1]
  rw [e, put_app, List.drop_drop, List.length_append, List.append_assoc (ns.take i) a b]
theorem put_all {ns seg : List Int} (h : seg.length = ns.length) : put ns 0 seg = seg := by
  unfold put
  simp [h]

/-- the table of codes: empty, or with the one code of «inner» -/
inductive Tab (P : Addr) (line col : Nat) (qual : Str) : List (Addr × Obj) → Prop
  | empty : Tab P line col qual [(P, tabObj #[])]
  | full (c' : Addr) (oc : Obj) (vs : Array Value) (t : Tok) (hd : oc.data = .fields vs) (hv : vs[1]? = some (.str qual t)) (hne : @LT.lt Nat _ P c') : Tab P line col qual [(P, tabObj #[rawInt line, rawInt col, .ref c']), (c', oc)]
abbrev q34 : Str := qualnameIn (envOf (Str.ofString "_int2digits") default 0 35 (.ref 34)) (Str.ofString "inner") (Str.ofString "inner")
abbrev q41 : Str := qualnameIn (envOf (Str.ofString "_digits2int") default 0 42 (.ref 41)) (Str.ofString "inner") (Str.ofString "inner")
theorem News.sw {h₀ h : Heap} {L : Addr} {a b : Addr × Obj} {r : List (Addr × Obj)} (N : News h₀ L h (a :: b :: r)) : News h₀ L h (b :: a :: r) := fun p hp => N p (by
  simp only [List.mem_cons] at hp ⊢
  rcases hp with h | h | h
  · exact .inr (.inl h)
  · exact .inl h
  · exact .inr (.inr h))
theorem News.up2 {h₀ h : Heap} {L : Addr} {a b c : Addr × Obj} {r : List (Addr × Obj)} (N : News h₀ L h (a :: b :: c :: r)) : News h₀ L h (c :: a :: b :: r) := fun p hp => N p (by
  simp only [List.mem_cons] at hp ⊢
  rcases hp with h | h | h | h
  · exact .inr (.inr (.inl h))
  · exact .inl h
  · exact .inr (.inl h)
  · exact .inr (.inr (.inr h)))

/-- «inner» of _int2digits: it lays the figures of x at L, .. , R - 1 -/
def InnerTells (w : World) (f D : Addr) (c : Nat) (own : List (Addr × Obj)) (n : Int) (fuel : Nat) : Prop :=
  ∀ (len : Nat) (x L R : Int) (t1 t2 t3 : Tok) (vs : List Value) (ns : List Int), IntsAre vs ns → ns.length ≤ 64 → 0 ≤ L → R = L + (len : Int) → R ≤ (ns.length : Int) → wrOk n fuel len x = true →
    Call w fuel (10 * fuel) f [.int x t1, .int L t2, .int R t3] ((D, listOf vs.toArray c) :: own) (fun v T' => v = .none ∧ ∃ vs', T' = (D, listOf vs'.toArray c) :: own ∧ IntsAre vs' (put ns L.toNat (wr n fuel len x)))
theorem inner_of {w : World} {f D : Addr} {c : Nat} {own : List (Addr × Obj)} {n : Int} (step : ∀ fuel, InnerTells w f D c own n fuel → InnerTells w f D c own n (fuel + 1)) : ∀ fuel, InnerTells w f D c own n fuel
  | 0 => fun _ _ _ _ _ _ _ _ _ _ _ _ _ _ h => by cases h
  | fuel + 1 => step fuel (inner_of step fuel)
section
variable {w : World} {f D : Addr} {c : Nat} {own : List (Addr × Obj)} {n : Int} {fuel : Nat}
theorem inner_use {loose : List Str} {mean : ExcName → Option Value} {mg mb : Str → Option Value} {dp un : Nat} {gd : Option (List Code)} {cn : Str} {cs : Scope} {a : Addr} {ccd : Value} {cl : List (Str × Addr)} {outer : List Env} {A₀ : Around} {base h₀ : Heap} {L : Addr} {m : Str → Option Value} {s : Shared} {Q E : Value → Shared → Prop}
    {len : Nat} {x l r : Int} {t1 t2 t3 : Tok} {vs : List Value} {ns : List Int} (C : InnerTells w f D c own n fuel)
    (B : Below A₀ base outer h₀) (F : Fr h₀ L s.heap m) (X : (hd.heap_39 w.params).In h₀) (N : News h₀ L s.heap ((D, listOf vs.toArray c) :: own)) (T : Top topProg loose mean mg mb h₀) (hk : cs.kind = .function) (c1 : CodeHd base 41 37) (c2 : CodeHd base 34 30)
    (hi : IntsAre vs ns) (hok : wrOk n fuel len x = true) (hlen : ns.length ≤ 64) (h0 : 0 ≤ l) (hR : r = l + (len : Int)) (hR2 : r ≤ (ns.length : Int)) (hd : dp + fuel < recursionLimit) (hu : un + 10 * fuel < cLine)
    (ret : ∀ vs' h' tk', Fr h₀ L h' m → Kept ((D, listOf vs.toArray c) :: own) s.heap h' → News h₀ L h' ((D, listOf vs'.toArray c) :: own) → IntsAre vs' (put ns l.toNat (wr n fuel len x)) → Q .none { s with heap := h', toks := tk' }) :
    wpAny (model PySem.Challenge.rw_gl0008_01.row.prog w) (ktrTop dp un gd cn cs L a ccd cl outer) (call (.ref f) [.int x t1, .int l t2, .int r t3]) Q E s := by
  refine C len x l r t1 t2 t3 vs ns hi hlen h0 hR hR2 hok loose mean mg mb dp un gd cn cs a ccd cl outer A₀ base h₀ L m s Q E B F X N T hk c1 c2 hd hu ?_
  rintro v T' h' tk' F' K' _ N' ⟨rfl, vs', rfl, hi'⟩
  exact ret vs' h' tk' F' K' N' hi'
end

theorem mid_eq {l : Int} {len : Nat} (uh : 0 ≤ l) : (l + (l + (len : Int))).fdiv (2 ^ Int.toNat 1) = l + ((len / 2 : Nat) : Int) := by
  show (l + (l + (len : Int))).fdiv 2 = _
  rw [Int.fdiv_eq_ediv_of_nonneg _ (by decide)]
  omega
theorem wr_base {n x : Int} {fuel len : Nat} (h : len ≤ 1) : wr n (fuel + 1) len x = [x] := by unfold wr; rw [if_pos h]
theorem wr_rec {n x : Int} {fuel len : Nat} (h : ¬ len ≤ 1) : wr n (fuel + 1) len x = wr n fuel (len / 2) (loOf n len x) ++ wr n fuel (len - len / 2) (upOf n len x) := by
  rw [wr, if_neg h]
theorem wrOk_base {n x : Int} {fuel len : Nat} (h : len ≤ 1) (e : wrOk n (fuel + 1) len x = true) : len = 1 := by
  unfold wrOk at e; rw [if_pos h] at e; simpa using e
theorem wrOk_rec {n x : Int} {fuel len : Nat} (h : ¬ len ≤ 1) (e : wrOk n (fuel + 1) len x = true) :
    0 ≤ shOf n len ∧ shOf n len ≤ 1000 ∧ (upOf n len x).natAbs < 2 ^ 60 ∧ wrOk n fuel (len / 2) (loOf n len x) = true ∧ wrOk n fuel (len - len / 2) (upOf n len x) = true := by
  unfold wrOk at e; rw [if_neg h] at e
  simp only [Bool.and_eq_true, decide_eq_true_eq] at e
  exact ⟨e.1.1.1.1, e.1.1.1.2, e.1.1.2, e.1.2, e.2⟩
theorem inner_end {n x l : Int} {fuel len : Nat} {vs : List Value} {ns : List Int} (h : ¬ len ≤ 1) (e : wrOk n (fuel + 1) len x = true) (h0 : 0 ≤ l) (hl : l + (len : Int) ≤ (ns.length : Int))
    (hi : IntsAre vs (put (put ns l.toNat (wr n fuel (len / 2) (loOf n len x))) (l + ((len / 2 : Nat) : Int)).toNat (wr n fuel (len - len / 2) (upOf n len x)))) : IntsAre vs (put ns l.toNat (wr n (fuel + 1) len x)) := by
  obtain ⟨_, _, _, k1, k2⟩ := wrOk_rec h e
  have e1 := wr_len _ _ _ _ k1
  have e2 := wr_len _ _ _ _ k2
  rw [wr_rec h]
  rwa [put_put (by omega) (by omega)] at hi

theorem pick3 {h₀ h : Heap} {L : Addr} {d f c l a1 a2 a3 t : Addr × Obj} {r : List (Addr × Obj)} (N : News h₀ L h (d :: f :: c :: l :: a1 :: a2 :: a3 :: t :: r)) : News h₀ L h [d, t, c] := fun p hp => N p (by
  simp only [List.mem_cons, List.not_mem_nil, or_false] at hp ⊢
  rcases hp with h | h | h <;> simp [h])
theorem tab_ps (a b c : Value) : (#[] ++ #[a, b, c] : Array Value) = #[a, b, c] := by simp
theorem pick3b {h₀ h : Heap} {L : Addr} {d f c l a1 a2 a3 t : Addr × Obj} {r : List (Addr × Obj)} (N : News h₀ L h (d :: f :: l :: a1 :: a2 :: a3 :: t :: c :: r)) : News h₀ L h [d, t, c] := fun p hp => N p (by
  simp only [List.mem_cons, List.not_mem_nil, or_false] at hp ⊢
  rcases hp with h | h | h <;> simp [h])
end
section
local macro_rules | `(tactic| walk_at "binaryOp RShift int int") => `(tactic| (with_reducible refine' rsh_as ?k1 ?k2 ?_; (case k1 => assumption); (case k2 => first | decide | omega)))
local macro_rules | `(tactic| walk_at "binaryOp LShift int int") => `(tactic| (with_reducible refine' lsh_as ?k1 ?k2 ?k3 ?k4 ?_; (case k1 => assumption); (case k2 => first | decide | omega); (case k3 => first | decide | omega); (case k4 => first | decide | omega)))
local macro_rules | `(tactic| walk_at "binaryOp BitXor int int") => `(tactic| (with_reducible refine' xor_as ?k1 ?_; (case k1 => assumption)))
local macro_rules | `(tactic| walk_at "binaryOp Mult int int") => `(tactic| (with_reducible refine' mul_as ?k1 ?k2 ?_; (case k1 => assumption); (case k2 => first | decide | omega)))
local macro_rules | `(tactic| walk_at "call ref") => `(tactic| (k_here; kn_here; refine Stop.out ?_))
local macro_rules | `(tactic| walk_at "mine kn") => `(tactic| first | with_reducible assumption | exact CodeHd.keeps (by assumption) (Below.stays (by assumption)))
local macro_rules | `(tactic| walk_at "call ref") => `(tactic| (k_here; (rename InnerTells _ _ _ _ _ _ _ => ih); k_dflt (refine' inner_use ih ?k1 ?k2 ?k3 ?k4 ?k5 ?k6 ?k7 ?k8 ?k9 ?k10 ?k11 ?k12 ?k13 ?k14 ?k15 ?k16 ?_; (case k1 => k_asm); (case k2 => k_asm); (case k3 => k_asm); (case k4 => k_asm); (case k5 => k_asm); (case k6 => exact rfl); (case k7 => assumption); (case k8 => assumption); (case k9 => assumption); (case k10 => assumption); (case k11 => omega); (case k12 => omega); (case k13 => omega); (case k14 => omega); (case k15 => ktr_room); (case k16 => ktr_units)); intro vs' h' tk' F' Kp' N' hI'; (try dsimp only)))
theorem digs_call_a (w : World) (x n : Int) (t1 t2 : Tok) (h1 : 1 ≤ x) (h2 : x ≤ 40) (h1n : 1 ≤ n) (h2n : n ≤ 40) (nd : Nat) (hd : (↑(Builtin.Int.intBits x) + n - 1).fdiv n = (nd : Int)) (hd1 : 1 ≤ nd) (hd2 : nd ≤ 6) (hok : wrOk n nd nd x = true) :
    Call w 20 200 35 [.int x t1, .int n t2] [(30, tabObj #[])] (fun v T' => ∃ D vs c tab, v = .ref D ∧ T' = (D, listOf vs.toArray c) :: tab ∧ IntsAre vs (wr n nd nd x) ∧ Tab 30 32 4 q34 tab ∧ ∀ p ∈ tab, @Ne Nat p.1 D) := by
  unfold Call
  k_fill
  intro loose mean mg mb dp un gd cn cs a ccd cl outer A₀ base h₀ L m s Q E B F X N T hk c1 c2 hd' hu hret
  refine wpAny_call ?_
  have hrep : (List.replicate ((↑(Builtin.Int.intBits x) + n - 1).fdiv n).toNat [(0 : Int)]).flatten.length = nd := by rw [KM.len_rep, hd]; simp
  k_with_none
  k_dflt walk_at "mine enterC"
  k_steps
  all_goals (try (exfalso; omega))
  unfold Stop
  (rename News _ _ _ _ => N9)
  refine inner_use (n := n) (fuel := nd) (len := nd) (inner_of (fun fuel IH => ?stp) nd) (by k_asm) (by k_asm) (by k_asm) (News.up2 N9) (by k_asm) rfl c1 c2 (by assumption) hok ?_ (Int.le_refl 0) ?_ ?_ ?_ ?_ ?_
  case stp =>
    intro len x l r u1 u2 u3 vs ns hi hlen h0 hR hR2 hok
    subst hR
    unfold Call
    intro loose mean mg mb dp un gd cn cs a ccd cl outer A₀ base h₀ L m s Q E B F X N T hk c1 c2 hd' hu hret
    refine wpAny_call ?_
    k_dflt walk_at "mine enterM"
    by_cases hl : len ≤ 1
    · have hl1 := wrOk_base hl hok
      subst hl1
      k_steps
      all_goals (try (exfalso; omega))
      exact hret _ _ _ _ (by k_asm) (Kept.then (by assumption) (Fr.keep (by assumption))) (Young.of (by assumption) (by assumption)) (by k_asm) ⟨rfl, _, rfl, by rw [wr_base hl, ← put_one (by omega)]; assumption⟩
    · obtain ⟨s1, s2, s3, s4, s5⟩ := wrOk_rec hl hok
      have e1 := mid_eq (len := len) h0
      have e2 : (l + ((len / 2 : Nat) : Int) - l) * n = shOf n len := by unfold shOf; congr 1; omega
      have e3 : x.fdiv (2 ^ (shOf n len).toNat) = upOf n len x := rfl
      have e4 : Builtin.bitXor x (upOf n len x * 2 ^ (shOf n len).toNat) = loOf n len x := rfl
      have e5 : upOf n len x * 2 ^ (shOf n len).toNat = upOf n len x * 2 ^ (shOf n len).toNat := rfl
      have e6 : (put ns l.toNat (wr n fuel (len / 2) (loOf n len x))).length = ns.length := put_len (by rw [wr_len _ _ _ _ s4]; omega)
      k_steps
      all_goals (try (exfalso; omega))
      exact hret _ _ _ _ (by k_asm) (Kept.then (by assumption) (Fr.keep (by assumption))) (Young.of (by assumption) (by assumption)) (by k_asm) ⟨rfl, _, rfl, inner_end hl hok h0 hR2 (by assumption)⟩
  · omega
  · omega
  · omega
  · ktr_room
  · ktr_units
  · intro vs' h' tk' F' Kp' N' hI'
    k_steps
    (rename News h₀ L _ _ => kN9)
    rw [show Int.toNat 0 = 0 from rfl, put_all (by rw [wr_len _ _ _ _ hok, hrep])] at hI'
    refine hret _ _ _ _ (by k_asm) (Kept.then (by assumption) (Fr.keep F')) (Young.of (by assumption) (pick3 N')) (pick3 kN9) ⟨_, _, _, _, rfl, rfl, hI', ?_, ?_⟩
    · rw [tab_ps]
      exact Tab.full _ _ _ _ (by assumption) (by assumption) (by omega)
    · exact List.forall_mem_cons.mpr ⟨neN (by omega), List.forall_mem_cons.mpr ⟨neN (by omega), List.forall_mem_nil _⟩⟩
theorem digs_call_b (w : World) (x n : Int) (t1 t2 : Tok) (h1 : 1 ≤ x) (h2 : x ≤ 40) (h1n : 1 ≤ n) (h2n : n ≤ 40) (nd : Nat) (hd : (↑(Builtin.Int.intBits x) + n - 1).fdiv n = (nd : Int)) (hd1 : 1 ≤ nd) (hd2 : nd ≤ 6) (hok : wrOk n nd nd x = true) (c₀ : Addr) (oc₀ : Obj) (vs₀ : Array Value) (t₀ : Tok) (hd₀ : oc₀.data = .fields vs₀) (hv₀ : vs₀[1]? = some (.str q34 t₀)) (hne₀ : @LT.lt Nat _ 30 c₀) :
    Call w 20 200 35 [.int x t1, .int n t2] [(30, tabObj #[rawInt 32, rawInt 4, .ref c₀]), (c₀, oc₀)] (fun v T' => ∃ D vs c tab, v = .ref D ∧ T' = (D, listOf vs.toArray c) :: tab ∧ IntsAre vs (wr n nd nd x) ∧ Tab 30 32 4 q34 tab ∧ ∀ p ∈ tab, @Ne Nat p.1 D) := by
  unfold Call
  k_fill
  intro loose mean mg mb dp un gd cn cs a ccd cl outer A₀ base h₀ L m s Q E B F X N T hk c1 c2 hd' hu hret
  refine wpAny_call ?_
  have hrep : (List.replicate ((↑(Builtin.Int.intBits x) + n - 1).fdiv n).toNat [(0 : Int)]).flatten.length = nd := by rw [KM.len_rep, hd]; simp
  k_with_none
  k_dflt walk_at "mine enterC"
  k_steps
  all_goals (try (exfalso; omega))
  unfold Stop
  (rename News _ _ _ _ => N9)
  refine inner_use (n := n) (fuel := nd) (len := nd) (inner_of (fun fuel IH => ?stp) nd) (by k_asm) (by k_asm) (by k_asm) (News.sw N9) (by k_asm) rfl c1 c2 (by assumption) hok ?_ (Int.le_refl 0) ?_ ?_ ?_ ?_ ?_
  case stp =>
    intro len x l r u1 u2 u3 vs ns hi hlen h0 hR hR2 hok
    subst hR
    unfold Call
    intro loose mean mg mb dp un gd cn cs a ccd cl outer A₀ base h₀ L m s Q E B F X N T hk c1 c2 hd' hu hret
    refine wpAny_call ?_
    k_dflt walk_at "mine enterM"
    by_cases hl : len ≤ 1
    · have hl1 := wrOk_base hl hok
      subst hl1
      k_steps
      all_goals (try (exfalso; omega))
      exact hret _ _ _ _ (by k_asm) (Kept.then (by assumption) (Fr.keep (by assumption))) (Young.of (by assumption) (by assumption)) (by k_asm) ⟨rfl, _, rfl, by rw [wr_base hl, ← put_one (by omega)]; assumption⟩
    · obtain ⟨s1, s2, s3, s4, s5⟩ := wrOk_rec hl hok
      have e1 := mid_eq (len := len) h0
      have e2 : (l + ((len / 2 : Nat) : Int) - l) * n = shOf n len := by unfold shOf; congr 1; omega
      have e3 : x.fdiv (2 ^ (shOf n len).toNat) = upOf n len x := rfl
      have e4 : Builtin.bitXor x (upOf n len x * 2 ^ (shOf n len).toNat) = loOf n len x := rfl
      have e5 : upOf n len x * 2 ^ (shOf n len).toNat = upOf n len x * 2 ^ (shOf n len).toNat := rfl
      have e6 : (put ns l.toNat (wr n fuel (len / 2) (loOf n len x))).length = ns.length := put_len (by rw [wr_len _ _ _ _ s4]; omega)
      k_steps
      all_goals (try (exfalso; omega))
      exact hret _ _ _ _ (by k_asm) (Kept.then (by assumption) (Fr.keep (by assumption))) (Young.of (by assumption) (by assumption)) (by k_asm) ⟨rfl, _, rfl, inner_end hl hok h0 hR2 (by assumption)⟩
  · omega
  · omega
  · omega
  · ktr_room
  · ktr_units
  · intro vs' h' tk' F' Kp' N' hI'
    k_steps
    (rename News h₀ L _ _ => kN9)
    rw [show Int.toNat 0 = 0 from rfl, put_all (by rw [wr_len _ _ _ _ hok, hrep])] at hI'
    refine hret _ _ _ _ (by k_asm) (Kept.then (by assumption) (Fr.keep F')) (Young.of (by assumption) (pick3b N')) (pick3b kN9) ⟨_, _, _, _, rfl, rfl, hI', ?_, ?_⟩
    · exact Tab.full _ _ _ _ (by assumption) (by assumption) (by omega)
    · exact List.forall_mem_cons.mpr ⟨neN (by omega), List.forall_mem_cons.mpr ⟨neN (by omega), List.forall_mem_nil _⟩⟩
theorem digs_call (w : World) (x n : Int) (t1 t2 : Tok) (h1 : 1 ≤ x) (h2 : x ≤ 40) (h1n : 1 ≤ n) (h2n : n ≤ 40) (nd : Nat) (hd : (↑(Builtin.Int.intBits x) + n - 1).fdiv n = (nd : Int)) (hd1 : 1 ≤ nd) (hd2 : nd ≤ 6) (hok : wrOk n nd nd x = true) (tab : List (Addr × Obj)) (ht : Tab 30 32 4 q34 tab) :
    Call w 20 200 35 [.int x t1, .int n t2] tab (fun v T' => ∃ D vs c tab, v = .ref D ∧ T' = (D, listOf vs.toArray c) :: tab ∧ IntsAre vs (wr n nd nd x) ∧ Tab 30 32 4 q34 tab ∧ ∀ p ∈ tab, @Ne Nat p.1 D) := by
  cases ht with
  | empty => exact digs_call_a w x n t1 t2 h1 h2 h1n h2n nd hd hd1 hd2 hok
  | full c oc vs t a b e => exact digs_call_b w x n t1 t2 h1 h2 h1n h2n nd hd hd1 hd2 hok c oc vs t a b e
end
section
def rd (n : Int) : Nat → List Int → Int
  | 0, _ => 0
  | f + 1, ds => if ds.length ≤ 1 then ds.headD 0 else rd n f (ds.drop (ds.length / 2)) * 2 ^ (shOf n ds.length).toNat + rd n f (ds.take (ds.length / 2))
def rdOk (n : Int) : Nat → List Int → Bool
  | 0, _ => false
  | f + 1, ds => if ds.length ≤ 1 then ds.length == 1 else decide (0 ≤ shOf n ds.length) && decide (shOf n ds.length ≤ 1000) && decide ((rd n f (ds.drop (ds.length / 2))).natAbs < 2 ^ 60) && rdOk n f (ds.drop (ds.length / 2)) && rdOk n f (ds.take (ds.length / 2))
theorem rd_base {n : Int} {fuel : Nat} {ds : List Int} (h : ds.length ≤ 1) : rd n (fuel + 1) ds = ds.headD 0 := by rw [rd, if_pos h]
theorem rd_rec {n : Int} {fuel : Nat} {ds : List Int} (h : ¬ ds.length ≤ 1) : rd n (fuel + 1) ds = rd n fuel (ds.drop (ds.length / 2)) * 2 ^ (shOf n ds.length).toNat + rd n fuel (ds.take (ds.length / 2)) := by rw [rd, if_neg h]
theorem rdOk_base {n : Int} {fuel : Nat} {ds : List Int} (h : ds.length ≤ 1) (e : rdOk n (fuel + 1) ds = true) : ds.length = 1 := by
  rw [rdOk, if_pos h] at e; simpa using e
theorem rdOk_rec {n : Int} {fuel : Nat} {ds : List Int} (h : ¬ ds.length ≤ 1) (e : rdOk n (fuel + 1) ds = true) :
    0 ≤ shOf n ds.length ∧ shOf n ds.length ≤ 1000 ∧ (rd n fuel (ds.drop (ds.length / 2))).natAbs < 2 ^ 60 ∧ rdOk n fuel (ds.drop (ds.length / 2)) = true ∧ rdOk n fuel (ds.take (ds.length / 2)) = true := by
  rw [rdOk, if_neg h] at e
  simp only [Bool.and_eq_true, decide_eq_true_eq] at e
  exact ⟨e.1.1.1.1, e.1.1.1.2, e.1.1.2, e.1.2, e.2⟩
def SegOf (ns ds : List Int) (l : Int) : Prop := ds = (ns.drop l.toNat).take ds.length
theorem SegOf.hi {ns ds : List Int} {l : Int} (h0 : 0 ≤ l) (h : SegOf ns ds l) : SegOf ns (ds.drop (ds.length / 2)) (l + ((ds.length / 2 : Nat) : Int)) := by
  unfold SegOf at *
  have e : (l + ((ds.length / 2 : Nat) : Int)).toNat = l.toNat + ds.length / 2 := by omega
  rw [e, List.length_drop]
  conv => lhs; rw [h]
  rw [List.drop_take, List.drop_drop, List.length_take, List.length_drop]
  have e2 : ds.length ≤ ns.length - l.toNat := by
    have := congrArg List.length h
    rw [List.length_take, List.length_drop] at this
    omega
  rw [show min ds.length (ns.length - l.toNat) = ds.length by omega]
theorem SegOf.lo {ns ds : List Int} {l : Int} (h : SegOf ns ds l) : SegOf ns (ds.take (ds.length / 2)) l := by
  unfold SegOf at *
  have e2 : ds.length ≤ ns.length - l.toNat := by
    have := congrArg List.length h
    rw [List.length_take, List.length_drop] at this
    omega
  rw [List.length_take, show min (ds.length / 2) ds.length = ds.length / 2 by omega]
  conv => lhs; rw [h]
  rw [List.take_take, List.length_take, List.length_drop]
  rw [show min (min ds.length (ns.length - l.toNat) / 2) ds.length = ds.length / 2 by omega]
theorem SegOf.one {ns ds : List Int} {l : Int} (h : SegOf ns ds l) (h1 : ds.length = 1) : ns.getD l.toNat 0 = ds.headD 0 := by
  unfold SegOf at h
  rw [h1] at h
  rw [h]
  cases e : ns.drop l.toNat with
  | nil => rw [e] at h; rw [h] at h1; cases h1
  | cons a r =>
    have : ns[l.toNat]? = some a := by
      have := congrArg (fun x => x[0]?) e
      simpa using this
    simp [List.getD, this]
theorem SegOf.whole (ns : List Int) : SegOf ns ns 0 := by simp [SegOf]

/-- «inner» of _digits2int -/
def InnerReads (w : World) (f : Addr) (own : List (Addr × Obj)) (ns : List Int) (n : Int) (fuel : Nat) : Prop :=
  ∀ (ds : List Int) (l r : Int) (t1 t2 : Tok), SegOf ns ds l → 0 ≤ l → r = l + (ds.length : Int) → r ≤ (ns.length : Int) → rdOk n fuel ds = true →
    Call w fuel (10 * fuel) f [.int l t1, .int r t2] own (fun v T' => T' = own ∧ ∃ t, v = .int (rd n fuel ds) t)
theorem reads_of {w : World} {f : Addr} {own : List (Addr × Obj)} {ns : List Int} {n : Int} (step : ∀ fuel, InnerReads w f own ns n fuel → InnerReads w f own ns n (fuel + 1)) : ∀ fuel, InnerReads w f own ns n fuel
  | 0 => fun _ _ _ _ _ _ _ _ _ h => by cases h
  | fuel + 1 => step fuel (reads_of step fuel)
theorem reads_use {w : World} {f : Addr} {own : List (Addr × Obj)} {ns : List Int} {n : Int} {fuel : Nat} {loose : List Str} {mean : ExcName → Option Value} {mg mb : Str → Option Value} {dp un : Nat} {gd : Option (List Code)} {cn : Str} {cs : Scope} {a : Addr} {ccd : Value} {cl : List (Str × Addr)} {outer : List Env} {A₀ : Around} {base h₀ : Heap} {L : Addr} {m : Str → Option Value} {s : Shared} {Q E : Value → Shared → Prop}
    {ds : List Int} {l r : Int} {t1 t2 : Tok} (C : InnerReads w f own ns n fuel)
    (B : Below A₀ base outer h₀) (F : Fr h₀ L s.heap m) (X : (hd.heap_39 w.params).In h₀) (N : News h₀ L s.heap own) (T : Top topProg loose mean mg mb h₀) (hk : cs.kind = .function) (c1 : CodeHd base 41 37) (c2 : CodeHd base 34 30)
    (hs : SegOf ns ds l) (hok : rdOk n fuel ds = true) (h0 : 0 ≤ l) (hR : r = l + (ds.length : Int)) (hR2 : r ≤ (ns.length : Int)) (hd : dp + fuel < recursionLimit) (hu : un + 10 * fuel < cLine)
    (ret : ∀ t h' tk', Fr h₀ L h' m → Kept own s.heap h' → News h₀ L h' own → Q (.int (rd n fuel ds) t) { s with heap := h', toks := tk' }) :
    wpAny (model PySem.Challenge.rw_gl0008_01.row.prog w) (ktrTop dp un gd cn cs L a ccd cl outer) (call (.ref f) [.int l t1, .int r t2]) Q E s := by
  refine C ds l r t1 t2 hs h0 hR hR2 hok loose mean mg mb dp un gd cn cs a ccd cl outer A₀ base h₀ L m s Q E B F X N T hk c1 c2 hd hu ?_
  rintro v T' h' tk' F' K' _ N' ⟨rfl, t, rfl⟩
  exact ret t h' tk' F' K' N'
theorem pickA {h₀ h : Heap} {L : Addr} {f c a1 a2 a3 d t : Addr × Obj} {r : List (Addr × Obj)} (N : News h₀ L h (f :: c :: a1 :: a2 :: a3 :: d :: t :: r)) : News h₀ L h [d, t, c] := fun p hp => N p (by
  simp only [List.mem_cons, List.not_mem_nil, or_false] at hp ⊢
  rcases hp with h | h | h <;> simp [h])
theorem pickB {h₀ h : Heap} {L : Addr} {f a1 a2 a3 d t c : Addr × Obj} {r : List (Addr × Obj)} (N : News h₀ L h (f :: a1 :: a2 :: a3 :: d :: t :: c :: r)) : News h₀ L h [d, t, c] := fun p hp => N p (by
  simp only [List.mem_cons, List.not_mem_nil, or_false] at hp ⊢
  rcases hp with h | h | h <;> simp [h])
end
section
local macro_rules | `(tactic| walk_at "binaryOp RShift int int") => `(tactic| (with_reducible refine' rsh_as ?k1 ?k2 ?_; (case k1 => assumption); (case k2 => first | decide | omega)))
local macro_rules | `(tactic| walk_at "binaryOp LShift int int") => `(tactic| (with_reducible refine' lsh_as ?k1 ?k2 ?k3 ?k4 ?_; (case k1 => assumption); (case k2 => first | decide | omega); (case k3 => first | decide | omega); (case k4 => first | decide | omega)))
local macro_rules | `(tactic| walk_at "binaryOp Mult int int") => `(tactic| (with_reducible refine' mul_as ?k1 ?k2 ?_; (case k1 => assumption); (case k2 => first | decide | omega)))
local macro_rules | `(tactic| walk_at "call ref") => `(tactic| (k_here; kn_here; refine Stop.out ?_))
local macro_rules | `(tactic| walk_at "call ref") => `(tactic| (k_here; (rename InnerReads _ _ _ _ _ _ => ih); k_dflt (refine' reads_use ih ?k1 ?k2 ?k3 ?k4 ?k5 ?k6 ?k7 ?k8 ?k9 ?k10 ?k11 ?k12 ?k13 ?k14 ?k15 ?_; (case k1 => k_asm); (case k2 => k_asm); (case k3 => k_asm); (case k4 => k_asm); (case k5 => k_asm); (case k6 => exact rfl); (case k7 => assumption); (case k8 => assumption); (case k9 => assumption); (case k10 => assumption); (case k11 => omega); (case k12 => omega); (case k13 => omega); (case k14 => ktr_room); (case k15 => ktr_units)); intro tk' h' tk' F' Kp' N'; (try dsimp only)))
theorem d2i_call_a (w : World) (D : Addr) (c : Nat) (vs : List Value) (ns : List Int) (n : Int) (t2 : Tok) (hi : IntsAre vs ns) (h1n : 1 ≤ n) (h2n : n ≤ 40) (hd1 : 1 ≤ ns.length) (hd2 : ns.length ≤ 6) (hok : rdOk n ns.length ns = true) (hD : @Ne Nat 37 D) :
    Call w 20 200 42 [.ref D, .int n t2] [(D, listOf vs.toArray c), (37, tabObj #[])] (fun v T' => ∃ t tab, v = .int (rd n ns.length ns) t ∧ T' = (D, listOf vs.toArray c) :: tab ∧ Tab 37 47 4 q41 tab) := by
  unfold Call
  k_fill
  intro loose mean mg mb dp un gd cn cs a ccd cl outer A₀ base h₀ L m s Q E B F X N T hk c1 c2 hd' hu hret
  refine wpAny_call ?_
  have hvl := hi.length
  k_with_none
  k_dflt walk_at "mine enterC"
  k_steps
  unfold Stop
  (rename News _ _ _ _ => N9)
  refine reads_use (n := n) (fuel := ns.length) (ds := ns) (ns := ns) (reads_of (fun fuel IH => ?stp) ns.length) (by k_asm) (by k_asm) (by k_asm) N9 (by k_asm) rfl c1 c2 (SegOf.whole ns) hok (Int.le_refl 0) ?_ ?_ ?_ ?_ ?_
  case stp =>
    intro ds l r u1 u2 hseg h0 hR hR2 hok
    subst hR
    unfold Call
    intro loose mean mg mb dp un gd cn cs a ccd cl outer A₀ base h₀ L m s Q E B F X N T hk c1 c2 hd' hu hret
    refine wpAny_call ?_
    k_dflt walk_at "mine enterM"
    by_cases hl : ds.length ≤ 1
    · have hl1 := rdOk_base hl hok
      k_steps
      all_goals (try (exfalso; omega))
      refine hret _ _ _ _ (by k_asm) (Kept.then (by assumption) (Fr.keep (by assumption))) (Young.of (by assumption) (by assumption)) (by k_asm) ⟨rfl, _, congrArg (fun z => Value.int z _) ?_⟩
      rw [rd_base hl, SegOf.one hseg hl1]
    · obtain ⟨s1, s2, s3, s4, s5⟩ := rdOk_rec hl hok
      have g1 := SegOf.hi h0 hseg
      have g2 := SegOf.lo hseg
      have e1 := mid_eq (len := ds.length) h0
      have e2 : (l + ((ds.length / 2 : Nat) : Int) - l) * n = shOf n ds.length := by unfold shOf; congr 1; omega
      have e5 : rd n fuel (ds.drop (ds.length / 2)) * 2 ^ (shOf n ds.length).toNat = rd n fuel (ds.drop (ds.length / 2)) * 2 ^ (shOf n ds.length).toNat := rfl
      have f1 : (ds.drop (ds.length / 2)).length = ds.length - ds.length / 2 := List.length_drop
      have f2 : (ds.take (ds.length / 2)).length = ds.length / 2 := by rw [List.length_take]; omega
      k_steps
      all_goals (try (exfalso; omega))
      refine hret _ _ _ _ (by k_asm) (Kept.then (by assumption) (Fr.keep (by assumption))) (Young.of (by assumption) (by assumption)) (by k_asm) ⟨rfl, _, congrArg (fun z => Value.int z _) ?_⟩
      rw [rd_rec hl]
  · omega
  · omega
  · ktr_room
  · ktr_units
  · intro t' h' tk' F' Kp' N'
    k_steps
    (rename News h₀ L _ _ => kN9)
    refine hret _ _ _ _ (by k_asm) (Kept.then (by assumption) (Fr.keep F')) (Young.of (by assumption) (pickA N')) (pickA kN9) ⟨_, _, rfl, rfl, ?_⟩
    rw [tab_ps]
    exact Tab.full _ _ _ _ (by assumption) (by assumption) (by omega)
theorem d2i_call_b (w : World) (D : Addr) (c : Nat) (vs : List Value) (ns : List Int) (n : Int) (t2 : Tok) (hi : IntsAre vs ns) (h1n : 1 ≤ n) (h2n : n ≤ 40) (hd1 : 1 ≤ ns.length) (hd2 : ns.length ≤ 6) (hok : rdOk n ns.length ns = true) (hD : @Ne Nat 37 D) (c₀ : Addr) (oc₀ : Obj) (vs₀ : Array Value) (t₀ : Tok) (hd₀ : oc₀.data = .fields vs₀) (hv₀ : vs₀[1]? = some (.str q41 t₀)) (hne₀ : @LT.lt Nat _ 37 c₀) (hDc : @Ne Nat c₀ D) :
    Call w 20 200 42 [.ref D, .int n t2] [(D, listOf vs.toArray c), (37, tabObj #[rawInt 47, rawInt 4, .ref c₀]), (c₀, oc₀)] (fun v T' => ∃ t tab, v = .int (rd n ns.length ns) t ∧ T' = (D, listOf vs.toArray c) :: tab ∧ Tab 37 47 4 q41 tab) := by
  unfold Call
  k_fill
  intro loose mean mg mb dp un gd cn cs a ccd cl outer A₀ base h₀ L m s Q E B F X N T hk c1 c2 hd' hu hret
  refine wpAny_call ?_
  have hvl := hi.length
  k_with_none
  k_dflt walk_at "mine enterC"
  k_steps
  unfold Stop
  (rename News _ _ _ _ => N9)
  refine reads_use (n := n) (fuel := ns.length) (ds := ns) (ns := ns) (reads_of (fun fuel IH => ?stp) ns.length) (by k_asm) (by k_asm) (by k_asm) N9 (by k_asm) rfl c1 c2 (SegOf.whole ns) hok (Int.le_refl 0) ?_ ?_ ?_ ?_ ?_
  case stp =>
    intro ds l r u1 u2 hseg h0 hR hR2 hok
    subst hR
    unfold Call
    intro loose mean mg mb dp un gd cn cs a ccd cl outer A₀ base h₀ L m s Q E B F X N T hk c1 c2 hd' hu hret
    refine wpAny_call ?_
    k_dflt walk_at "mine enterM"
    by_cases hl : ds.length ≤ 1
    · have hl1 := rdOk_base hl hok
      k_steps
      all_goals (try (exfalso; omega))
      refine hret _ _ _ _ (by k_asm) (Kept.then (by assumption) (Fr.keep (by assumption))) (Young.of (by assumption) (by assumption)) (by k_asm) ⟨rfl, _, congrArg (fun z => Value.int z _) ?_⟩
      rw [rd_base hl, SegOf.one hseg hl1]
    · obtain ⟨s1, s2, s3, s4, s5⟩ := rdOk_rec hl hok
      have g1 := SegOf.hi h0 hseg
      have g2 := SegOf.lo hseg
      have e1 := mid_eq (len := ds.length) h0
      have e2 : (l + ((ds.length / 2 : Nat) : Int) - l) * n = shOf n ds.length := by unfold shOf; congr 1; omega
      have e5 : rd n fuel (ds.drop (ds.length / 2)) * 2 ^ (shOf n ds.length).toNat = rd n fuel (ds.drop (ds.length / 2)) * 2 ^ (shOf n ds.length).toNat := rfl
      have f1 : (ds.drop (ds.length / 2)).length = ds.length - ds.length / 2 := List.length_drop
      have f2 : (ds.take (ds.length / 2)).length = ds.length / 2 := by rw [List.length_take]; omega
      k_steps
      all_goals (try (exfalso; omega))
      refine hret _ _ _ _ (by k_asm) (Kept.then (by assumption) (Fr.keep (by assumption))) (Young.of (by assumption) (by assumption)) (by k_asm) ⟨rfl, _, congrArg (fun z => Value.int z _) ?_⟩
      rw [rd_rec hl]
  · omega
  · omega
  · ktr_room
  · ktr_units
  · intro t' h' tk' F' Kp' N'
    k_steps
    (rename News h₀ L _ _ => kN9)
    refine hret _ _ _ _ (by k_asm) (Kept.then (by assumption) (Fr.keep F')) (Young.of (by assumption) (pickB N')) (pickB kN9) ⟨_, _, rfl, rfl, ?_⟩
    exact Tab.full _ _ _ _ (by assumption) (by assumption) (by omega)
theorem d2i_call (w : World) (D : Addr) (c : Nat) (vs : List Value) (ns : List Int) (n : Int) (t2 : Tok) (hi : IntsAre vs ns) (h1n : 1 ≤ n) (h2n : n ≤ 40) (hd1 : 1 ≤ ns.length) (hd2 : ns.length ≤ 6) (hok : rdOk n ns.length ns = true) (tab : List (Addr × Obj)) (ht : Tab 37 47 4 q41 tab) (hD : ∀ p ∈ tab, @Ne Nat p.1 D) :
    Call w 20 200 42 [.ref D, .int n t2] ((D, listOf vs.toArray c) :: tab) (fun v T' => ∃ t tab, v = .int (rd n ns.length ns) t ∧ T' = (D, listOf vs.toArray c) :: tab ∧ Tab 37 47 4 q41 tab) := by
  cases ht with
  | empty => exact d2i_call_a w D c vs ns n t2 hi h1n h2n hd1 hd2 hok (hD _ (.head _))
  | full c' oc vs' t a b e => exact d2i_call_b w D c vs ns n t2 hi h1n h2n hd1 hd2 hok (hD _ (.head _)) c' oc vs' t a b e (hD _ (.tail _ (.head _)))
end
section
inductive Tabs : List (Addr × Obj) → Prop
  | mk {t1 t2 : List (Addr × Obj)} (h1 : Tab 37 47 4 q41 t1) (h2 : Tab 30 32 4 q34 t2) (hne : ∀ p ∈ t1, ∀ q ∈ t2, @Ne Nat p.1 q.1) : Tabs (t1 ++ t2)

theorem use_call {w : World} {dep uns : Nat} {f : Addr} {vs : List Value} {U rest all : List (Addr × Obj)} {Post : Value → List (Addr × Obj) → Prop} {loose : List Str} {mean : ExcName → Option Value} {mg mb : Str → Option Value} {dp un : Nat} {gd : Option (List Code)} {cn : Str} {cs : Scope} {a : Addr} {ccd : Value} {cl : List (Str × Addr)} {outer : List Env} {A₀ : Around} {base h₀ : Heap} {L : Addr} {m : Str → Option Value} {s : Shared} {Q E : Value → Shared → Prop}
    (C : Call w dep uns f vs U Post) (B : Below A₀ base outer h₀) (F : Fr h₀ L s.heap m) (X : (hd.heap_39 w.params).In h₀) (N : News h₀ L s.heap all) (T : Top topProg loose mean mg mb h₀) (hk : cs.kind = .function) (c1 : CodeHd base 41 37) (c2 : CodeHd base 34 30)
    (hT : ∀ p ∈ U, p ∈ all) (hr : ∀ p ∈ rest, p ∈ all) (off : ∀ q ∈ rest, ∀ p ∈ U, @Ne Nat q.1 p.1) (hd : dp + dep < recursionLimit) (hu : un + uns < cLine)
    (ret : ∀ v T' h' tk', Fr h₀ L h' m → News h₀ L h' (T' ++ rest) → (∀ q ∈ rest, ∀ p ∈ T', @Ne Nat q.1 p.1) → Post v T' → Q v { s with heap := h', toks := tk' }) :
    wpAny (model PySem.Challenge.rw_gl0008_01.row.prog w) (ktrTop dp un gd cn cs L a ccd cl outer) (call (.ref f) vs) Q E s := by
  refine C loose mean mg mb dp un gd cn cs a ccd cl outer A₀ base h₀ L m s Q E B F X (fun p hp => N p (hT p hp)) T hk c1 c2 hd hu fun v T' h' tk' F' K' Y' N' P' => ?_
  have NR : News h₀ L s.heap rest := fun p hp => N p (hr p hp)
  have off' : ∀ q ∈ rest, q.1 ∉ U.map (·.1) := fun q hq hm => by
    obtain ⟨p, hp, e⟩ := List.mem_map.mp hm
    exact off q hq p hp e.symm
  refine ret v T' h' tk' F' (fun p hp => ?_) (fun q hq p hp => Young.ne Y' NR off' p hp q hq) P'
  rcases List.mem_append.mp hp with hp | hp
  · exact N' p hp
  · exact K'.news NR off' p hp

/-- one step of the long division -/
def dvStep (b n : Int) (st : Int × List Int) (d : Int) : Int × List Int := ((st.1 * 2 ^ n.toNat + d).fmod b, st.2 ++ [(st.1 * 2 ^ n.toNat + d).fdiv b])
def dvOk (b n : Int) : Int → List Int → Bool
  | _, [] => true
  | r, d :: ds => decide (r.natAbs < 2 ^ 60) && decide (((Builtin.Int.intBits (r * 2 ^ n.toNat + d) : Nat) : Int) - n ≤ 4000) && dvOk b n ((r * 2 ^ n.toNat + d).fmod b) ds
def ndOf (a b : Int) : Nat := (((Builtin.Int.intBits a : Nat) : Int) + (Builtin.Int.intBits b : Nat) - 1).toNat / (Builtin.Int.intBits b)
def dvAll (a b : Int) : Bool :=
  let n : Int := (Builtin.Int.intBits b : Nat)
  let ds := wr n (ndOf a b) (ndOf a b) a
  let st := ds.reverse.foldl (dvStep b n) (0, [])
  decide (1 ≤ n) && decide (n ≤ 6) && decide (((Builtin.Int.intBits a : Nat) + n - 1).fdiv n = (ndOf a b : Int)) && decide (1 ≤ ndOf a b) && decide (ndOf a b ≤ 6) && wrOk n (ndOf a b) (ndOf a b) a && dvOk b n 0 ds.reverse &&
    rdOk n st.2.reverse.length st.2.reverse && decide (rd n st.2.reverse.length st.2.reverse = a / b) && decide (st.1 = a % b)
theorem dv_all : ((List.range 40).all fun (a : Nat) => (List.range 40).all fun (b : Nat) => dvAll ((a : Int) + 1) ((b : Int) + 1)) = true := by decide +kernel
theorem dv_at {a b : Int} (h1 : 1 ≤ a) (h2 : a ≤ 40) (h3 : 1 ≤ b) (h4 : b ≤ 40) : dvAll a b = true := by
  have h := List.all_eq_true.mp (List.all_eq_true.mp dv_all (a - 1).toNat (List.mem_range.mpr (by omega))) (b - 1).toNat (List.mem_range.mpr (by omega))
  rwa [show (((a - 1).toNat : Nat) : Int) + 1 = a by omega, show (((b - 1).toNat : Nat) : Int) + 1 = b by omega] at h
theorem dv_len (b n : Int) : ∀ (ds : List Int) (st : Int × List Int), (ds.foldl (dvStep b n) st).2.length = st.2.length + ds.length
  | [], _ => rfl
  | d :: ds, st => by
    rw [List.foldl_cons, dv_len b n ds]
    simp only [dvStep, List.length_append, List.length_cons, List.length_nil]
    omega

theorem fr_with {h₀ h : Heap} {L : Addr} {m : Str → Option Value} {x : Str} {v : Value} (F : Fr h₀ L h m) (e : m x = some v) : Fr h₀ L h (fun y => if y = x then some v else m y) := by
  have : (fun y => if y = x then some v else m y) = m := by
    funext y
    by_cases h : y = x
    · subst h; rw [if_pos rfl, e]
    · rw [if_neg h]
  rw [this]; exact F
theorem offI_of {I : Addr} {it : Obj} : ∀ {l : List (Addr × Obj)}, (∀ p ∈ l, @Ne Nat p.1 I) → OffI I it l
  | [], _ => trivial
  | _ :: _, h => ⟨.inl (h _ (.head _)), offI_of fun p hp => h p (.tail _ hp)⟩
theorem ne_of_allLt {d : Addr} {l : List (Addr × Obj)} (h : AllLt d l) : ∀ p ∈ l, @Ne Nat p.1 d := fun p hp => Nat.ne_of_lt (ktn_ltOf h p hp)
section
variable {prog : Program} {w : World} {A : Around} {E : Value → Shared → Prop} {s : Shared} {env : Env} {h₀ : Heap} {x : Str} {body : List Stmt} {Q : Flow → Shared → Prop} {I : Addr} {lp : Addr × Obj}
theorem rev_induct (J : List Value → (Str → Option Value) → List (Addr × Obj) → Prop)
    (hstep : ∀ v r m news, J (v :: r) m news → ∀ (it : Obj) h tk, it.cls = .type "list_reverseiterator" → Fr h₀ env.locals h (fun y => if y = x then some v else m y) → News h₀ env.locals h ((I, it) :: news) →
      wpAny (model prog w) A (execs body env) (UnrPost h₀ env.locals { s with heap := h, toks := tk } I it (fun m' n' => lp ∈ n' ∧ J r m' n') Q) E { s with heap := h, toks := tk })
    (hend : ∀ m news, J [] m news → ∀ h tk, Fr h₀ env.locals h m → News h₀ env.locals h news → Q .next { s with heap := h, toks := tk }) :
    ∀ (vs : List Value) (m : Str → Option Value) (news : List (Addr × Obj)), J vs m news → RevRest prog w A E h₀ env x body Q s I lp vs m news
  | [], m, news, j => RevRest.zero (hend m news j)
  | v :: r, m, news, j => RevRest.succ fun it h tk hc F N => wpAny_mono (hstep v r m news j it h tk hc F N) (fun f s₂ hq => by
      cases f with
      | ret v => exact hq
      | brk => exact hq
      | next =>
        obtain ⟨h', tk', m', n', e, F', N', off, hm, hj⟩ := hq
        exact ⟨h', tk', m', n', e, F', N', off, hm, rev_induct J hstep hend r m' n' hj⟩
      | cont =>
        obtain ⟨h', tk', m', n', e, F', N', off, hm, hj⟩ := hq
        exact ⟨h', tk', m', n', e, F', N', off, hm, rev_induct J hstep hend r m' n' hj⟩) fun _ _ e => e
end
/-- the state of the long division between two turns -/
def DvJ (y n : Int) (fin : Int × List Int) (Dq : Addr) (tail : List (Addr × Obj)) (vs : List Value) (m : Str → Option Value) (news : List (Addr × Obj)) : Prop :=
  ∃ ds rem qs qvs c t ty tn, IntsAre vs ds ∧ dvOk y n rem ds = true ∧ news = (Dq, listOf (List.toArray qvs) c) :: tail ∧ IntsAre qvs qs ∧ qs.length + ds.length ≤ 6 ∧
    m (Str.ofString "r") = some (.int rem t) ∧ m (Str.ofString "b") = some (.int y ty) ∧ m (Str.ofString "n") = some (.int n tn) ∧ m (Str.ofString "q_digits") = some (.ref Dq) ∧ ds.foldl (dvStep y n) (rem, qs) = fin
theorem map4 {m : Str → Option Value} {x1 x2 x3 x4 : Str} {v1 v2 v3 v4 : Value} (h1 : m x1 = some v1) (h2 : m x2 = some v2) (h3 : m x3 = some v3) (h4 : m x4 = some v4) :
    m = fun y => if y = x1 then some v1 else if y = x2 then some v2 else if y = x3 then some v3 else if y = x4 then some v4 else m y := by
  funext y
  by_cases e1 : y = x1
  · rw [if_pos e1, e1, h1]
  · rw [if_neg e1]
    by_cases e2 : y = x2
    · rw [if_pos e2, e2, h2]
    · rw [if_neg e2]
      by_cases e3 : y = x3
      · rw [if_pos e3, e3, h3]
      · rw [if_neg e3]
        by_cases e4 : y = x4
        · rw [if_pos e4, e4, h4]
        · rw [if_neg e4]
theorem dvOk_cons {b n r d : Int} {ds : List Int} (h : dvOk b n r (d :: ds) = true) : r.natAbs < 2 ^ 60 ∧ ((Builtin.Int.intBits (r * 2 ^ n.toNat + d) : Nat) : Int) - n ≤ 4000 ∧ dvOk b n ((r * 2 ^ n.toNat + d).fmod b) ds = true := by
  simp only [dvOk, Bool.and_eq_true, decide_eq_true_eq] at h
  exact ⟨h.1.1, h.1.2, h.2⟩
theorem drop1 {h₀ h : Heap} {L : Addr} {a : Addr × Obj} {r : List (Addr × Obj)} (N : News h₀ L h (a :: r)) : News h₀ L h r := fun p hp => N p (.tail _ hp)
section
variable {prog : Program} {w : World} {A : Around} {E : Value → Shared → Prop} {s : Shared} {h₀ : Heap} {L D : Addr} {m : Str → Option Value} {rest : List (Addr × Obj)} {vs : List Value} {n : Nat} {x : Value} {Q : Value → Shared → Prop}
theorem append_as (F : Fr h₀ L s.heap m) (N : News h₀ L s.heap ((D, listOf vs.toArray n) :: rest)) (off : ∀ p ∈ rest, p.1 ≠ D) (hz : vs.length ≤ 1000)
    (h : ∀ h', Fr h₀ L h' m → News h₀ L h' ((D, listOf (vs ++ [x]).toArray (n + 1)) :: rest) → Q .none { s with heap := h' }) : wpAny (model prog w) A (call (.builtin "list.append") [.ref D, x]) Q E s :=
  append_K F N (Upd.head off) (fun h' F' N' => h h' F' (by rw [List.push_toArray] at N'; exact N')) (by rw [PySem.sizeLine_eq, List.size_toArray]; omega)
theorem reverse_as (F : Fr h₀ L s.heap m) (N : News h₀ L s.heap ((D, listOf vs.toArray n) :: rest)) (off : ∀ p ∈ rest, p.1 ≠ D) (hz : vs.length ≤ 1000)
    (h : ∀ h', Fr h₀ L h' m → News h₀ L h' ((D, listOf vs.reverse.toArray n) :: rest) → Q .none { s with heap := h' }) : wpAny (model prog w) A (call (.builtin "list.reverse") [.ref D]) Q E s :=
  kl_reverse F N rfl (Upd.head off) (by rw [PySem.sizeLine_eq]; show vs.length ≤ _; omega) h
end
theorem unr_swap {h₀ h' : Heap} {L I : Addr} {it : Obj} {rest : (Str → Option Value) → List (Addr × Obj) → Prop} {s₁ : Shared} {tk : Nat} {m' : Str → Option Value} {a : Addr × Obj} {tail : List (Addr × Obj)} (F : Fr h₀ L h' m') (N : News h₀ L h' (a :: (I, it) :: tail)) (off : ∀ p ∈ a :: tail, p.1 ≠ I) (r : rest m' (a :: tail)) :
    UnrEnd h₀ L s₁ I it rest { s₁ with heap := h', toks := tk } := UnrEnd.intro F (News.sw N) (a :: tail) (fun _ h => h) off r
abbrev tup2 (a b : Int) (t1 t2 : Tok) : Obj := { cls := .type "tuple", data := .seq #[.int a t1, .int b t2] }
theorem dropB {h₀ h : Heap} {L : Addr} {a b : Addr × Obj} {r : List (Addr × Obj)} (N : News h₀ L h (a :: b :: r)) : News h₀ L h (a :: r) := fun p hp => N p (by
  rcases List.mem_cons.mp hp with h | h
  · exact h ▸ .head _
  · exact .tail _ (.tail _ h))
end
section
local macro_rules | `(tactic| walk_at "call ref") => `(tactic| (k_here; (first | (with_reducible show wpAny _ _ (call (Value.ref 35) _) _ _ _) | (with_reducible show wpAny _ _ (call (Value.ref 42) _) _ _ _)); refine Stop.out ?_))
local macro_rules | `(tactic| walk_at "pyIter ref") => `(tactic| (k_here; refine Stop.out ?_))
local macro_rules | `(tactic| k_all) => `(tactic| assumption)
local macro_rules | `(tactic| walk_at "binaryOp LShift int int") => `(tactic| (with_reducible refine' lsh_as ?k1 ?k2 ?k3 ?k4 ?_; (case k1 => assumption); (case k2 => first | decide | omega); (case k3 => first | decide | omega); (case k4 => first | decide | omega)))
local macro_rules | `(tactic| walk_at "call ref") => `(tactic| (k_here; (with_reducible show wpAny _ _ (call (Value.ref 21) _) _ _ _); k_dflt (refine wpAny_call ?_; walk_at "mine enter")))
local macro_rules | `(tactic| walk_at "call builtin:list.append") => `(tactic| (k_here; (rename News _ _ _ _ => nA); k_dflt (refine' append_as ?k1 (News.sw (drop1 nA)) ?k3 ?z ?_; (case k1 => k_asm); (case k3 => exact List.forall_mem_cons.mpr ⟨neN (by omega), by assumption⟩); (case z => omega)); clear nA; intro h' F' N'))
local macro_rules | `(tactic| walk_at "call builtin:list.reverse") => `(tactic| (k_here; k_dflt (refine' reverse_as ?k1 ?k2 ?k3 ?z ?_; (case k1 => k_asm); (case k2 => k_asm); (case k3 => assumption); (case z => omega)); intro h' F' N'))
local macro_rules | `(tactic| walk_at "UnrEnd") => `(tactic| (k_here; refine Stop.out ?_))
theorem pos_call (w : World) (x y : Int) (u1 u2 : Tok) (hx1 : 1 ≤ x) (hx2 : x ≤ 40) (hy1 : 1 ≤ y) (hy2 : y ≤ 40) (tl : List (Addr × Obj)) (ht : Tabs tl) :
    Call w 30 300 49 [.int x u1, .int y u2] tl (fun v T' => ∃ q t1 t2 tl', v = .ref q ∧ T' = (q, tup2 (x / y) (x % y) t1 t2) :: tl' ∧ Tabs tl' ∧ ∀ p ∈ tl', @Ne Nat p.1 q) := by
  cases ht with
  | mk ta tb hne =>
  rename_i t1 t2
  unfold Call
  k_fill
  intro loose mean mg mb dp un gd cn cs a ccd cl outer A₀ base h₀ L m s Q E B F X N T hk c1 c2 hd' hu hret
  have hall := dv_at hx1 hx2 hy1 hy2
  simp only [dvAll, Bool.and_eq_true, decide_eq_true_eq] at hall
  obtain ⟨⟨⟨⟨⟨⟨⟨⟨⟨q1, q2⟩, q3⟩, q4⟩, q5⟩, q6⟩, q7⟩, q8⟩, q9⟩, q10⟩ := hall
  refine wpAny_call ?_
  k_with_none
  k_dflt walk_at "mine enter"
  k_steps
  unfold Stop
  (rename News _ _ _ _ => N9)
  refine use_call (U := t2) (rest := t1) (all := t1 ++ t2) (digs_call w x _ _ _ hx1 hx2 q1 (by omega) (ndOf x y) q3 q4 q5 q6 t2 tb) (by k_asm) (by k_asm) (by k_asm) N9 (by k_asm) rfl c1 c2 (fun p hp => List.mem_append_right _ hp) (fun p hp => List.mem_append_left _ hp) hne ?_ ?_ ?_
  · ktr_room
  · ktr_units
  rintro v T' h2 tk2 F2 N2 off2 ⟨D, dvs, dc, tb', rfl, rfl, hdi, htab, htD⟩
  replace N2 : News _ _ h2 ((D, listOf dvs.toArray dc) :: (tb' ++ t1)) := N2
  clear N9
  k_steps
  unfold Stop
  (rename News _ _ _ _ => N9)
  rename_i Dq hz1 hl1 hz2 I hz3 F9 hl2
  refine iter_revUnr (lo := listOf dvs.toArray dc) (vs := dvs) (n := dc) (by rfl) (by k_asm) N9 ?offI (List.Mem.tail _ (List.Mem.head _)) rfl rfl ?rest
  case offI => exact ⟨Or.inl (neN (by omega)), Or.inl (neN (by omega)), offI_of (ne_of_allLt hl2.2.2)⟩
  case rest =>
    have hDq : ∀ p ∈ (D, listOf dvs.toArray dc) :: (tb' ++ t1), p.1 ≠ Dq := List.forall_mem_cons.mpr ⟨neN (by omega), ne_of_allLt hl1.2⟩
    refine rev_induct (DvJ y (Builtin.Int.intBits y : Nat) ((wr (Builtin.Int.intBits y : Nat) (ndOf x y) (ndOf x y) x).reverse.foldl (dvStep y (Builtin.Int.intBits y : Nat)) (0, [])) Dq ((D, listOf dvs.toArray dc) :: (tb' ++ t1))) ?hstep ?hend _ _ _ ?init
    case init =>
      exact ⟨_, 0, [], [], 0, _, _, _, IntsAre.reverse hdi, q7, rfl, .nil, by rw [List.length_reverse, wr_len _ _ _ _ q6]; simp; omega, rfl, rfl, rfl, rfl, rfl⟩
    case hstep =>
      rintro v r m₁ news₁ ⟨ds, rem, qs, qvs, c, t, ty, tn, hi, hok, rfl, hq, hlen, mr, mb', mn, mq, hfold⟩ it h9 tk9 hc9 F₁ N₁
      cases hi with
      | cons d td hi' =>
      rename_i ds
      obtain ⟨o1, o2, o3⟩ := dvOk_cons hok
      rw [map4 mr mb' mn mq] at F₁
      try dsimp only at F₁
      have e5 : rem * 2 ^ (((Builtin.Int.intBits y : Nat) : Int)).toNat = rem * 2 ^ (((Builtin.Int.intBits y : Nat) : Int)).toNat := rfl
      have hql := hq.length
      simp only [List.length_cons] at hlen
      k_steps
      unfold Stop
      (rename News _ _ _ _ => N8)
      refine unr_swap (by k_asm) N8 (List.forall_mem_cons.mpr ⟨neN (by omega), List.forall_mem_cons.mpr ⟨neN (by omega), ne_of_allLt hl2.2.2⟩⟩) ⟨.tail _ (.head _), ?_⟩
      exact ⟨ds, _, _, _, _, _, _, _, hi', o3, rfl, IntsAre.append hq (.cons _ _ .nil), by simp only [List.length_append, List.length_cons, List.length_nil]; omega, rfl, rfl, rfl, rfl, hfold⟩
    case hend =>
      rintro m₁ news₁ ⟨ds, rem, qs, qvs, c, t, ty, tn, hi, hok, rfl, hq, hlen, mr, mb', mn, mq, hfold⟩ h9 tk9 F₁ N₁
      cases hi
      have hql := hq.length
      rw [map4 mr mb' mn mq] at F₁
      try dsimp only at F₁
      simp only [List.foldl_nil] at hfold
      simp only [List.length_nil] at hlen
      try dsimp only
      k_steps
      unfold Stop
      (rename News _ _ _ _ => N8)
      have hl9 : qs.length = ndOf x y := by
        have := congrArg (fun z => z.2.length) hfold
        simp only [dv_len, List.length_reverse, wr_len _ _ _ _ q6] at this
        simpa using this
      rw [← hfold] at q8 q9 q10
      simp only at q8 q9 q10
      refine use_call (U := (Dq, listOf qvs.reverse.toArray c) :: t1) (rest := tb') (d2i_call w Dq c qvs.reverse qs.reverse _ tn (IntsAre.reverse hq) q1 (by omega) (by rw [List.length_reverse]; omega) (by rw [List.length_reverse]; omega) q8 t1 ta (fun p hp => hDq p (.tail _ (List.mem_append_right _ hp)))) (by k_asm) (by k_asm) (by k_asm) N8 (by k_asm) rfl c1 c2 ?_ ?_ ?_ ?_ ?_ ?_
      · exact List.forall_mem_cons.mpr ⟨.head _, fun p hp => .tail _ (.tail _ (List.mem_append_right _ hp))⟩
      · exact fun p hp => .tail _ (.tail _ (List.mem_append_left _ hp))
      · intro q hq p hp
        rcases List.mem_cons.mp hp with rfl | hp
        · exact hDq q (.tail _ (List.mem_append_left _ hq))
        · exact Ne.symm (off2 p hp q (.tail _ hq))
      · ktr_room
      · ktr_units
      rintro v T' h3 tk3 F3 N3 off3 ⟨t3, ta', rfl, rfl, htab'⟩
      rw [q9]
      clear N8
      replace N3 : News _ _ h3 ((Dq, listOf qvs.reverse.toArray c) :: (ta' ++ tb')) := N3
      subst q10
      k_steps
      (rename News h₀ L _ _ => kN9)
      refine hret _ _ _ _ (by k_asm) (Kept.then (by assumption) (Fr.keep (by assumption))) (Young.of (by assumption) (dropB (by assumption))) (dropB kN9) ⟨_, _, _, _, rfl, rfl, Tabs.mk htab' htab (fun p hp q hq => Ne.symm (off3 q hq p (.tail _ hp))), ne_of_allLt ?_⟩
      exact And.right (by assumption)
end
section
local macro_rules | `(tactic| walk_at "call ref") => `(tactic| (k_here; (with_reducible show wpAny _ _ (call (Value.ref 49) _) _ _ _); refine Stop.out ?_))
theorem divm_call (w : World) (x y : Int) (u1 u2 : Tok) (hx1 : 1 ≤ x) (hx2 : x ≤ 40) (hy1 : 1 ≤ y) (hy2 : y ≤ 40) (tl : List (Addr × Obj)) (ht : Tabs tl) :
    Call w 40 400 56 [.int x u1, .int y u2] tl (fun v T' => ∃ q t1 t2 tl', v = .ref q ∧ T' = (q, tup2 (x / y) (x % y) t1 t2) :: tl' ∧ Tabs tl' ∧ ∀ p ∈ tl', @Ne Nat p.1 q) := by
  unfold Call
  k_fill
  intro loose mean mg mb dp un gd cn cs a ccd cl outer A₀ base h₀ L m s Q E B F X N T hk c1 c2 hd' hu hret
  refine wpAny_call ?_
  k_with_none
  k_dflt walk_at "mine enter"
  k_steps
  all_goals (try (exfalso; omega))
  unfold Stop
  (rename News _ _ _ _ => N9)
  refine use_call (U := tl) (rest := []) (pos_call w x y _ _ hx1 hx2 hy1 hy2 tl ht) (by k_asm) (by k_asm) (by k_asm) N9 (by k_asm) rfl c1 c2 (fun _ h => h) (fun _ h => nomatch h) (fun _ h => nomatch h) ?_ ?_ ?_
  · ktr_room
  · ktr_units
  rintro v T' h3 tk3 F3 N3 off3 ⟨q, t1, t2, tl', rfl, rfl, htl, hq⟩
  rw [List.append_nil] at N3
  clear N9
  k_steps
  (rename News h₀ L _ _ => kN9)
  exact hret _ _ _ _ (by k_asm) (Kept.then (by assumption) (Fr.keep (by assumption))) (Young.of (by assumption) N3) kN9 ⟨_, _, _, _, rfl, rfl, htl, hq⟩
end
section
abbrev itObj (a l : Int) : Obj := { cls := .type "range_iterator", data := .fields #[rawInt a, rawInt l, rawInt 1] }
abbrev cellObj : Obj := { cls := .type "cell", data := .cell none }
def ks1 (n : Nat) : List Int := (List.range n).map fun (i : Nat) => (1 : Int) + (i : Int)
theorem ks1_succ (n : Nat) : ks1 (n + 1) = ks1 n ++ [(1 : Int) + (n : Int)] := by simp [ks1, List.range_succ]
theorem news_at {h₀ h h' : Heap} {L d : Addr} {o' : Obj} {pre post : List (Addr × Obj)} (hd : d ≠ L ∧ h₀.get? d = none) (hn : ∀ p ∈ pre ++ post, p.1 ≠ d) (N : News h₀ L h (pre ++ post))
    (hk : ∀ b o, b ≠ d → h.get? b = some o → h'.get? b = some o) (ho : h'.get? d = some o') : News h₀ L h' (pre ++ (d, o') :: post) := fun q hq => by
  have key : ∀ q ∈ pre ++ post, h'.get? q.1 = some q.2 ∧ q.1 ≠ L ∧ h₀.get? q.1 = none := fun q hq => ⟨hk _ _ (hn q hq) (N q hq).1, (N q hq).2⟩
  rcases List.mem_append.mp hq with hq | hq
  · exact key q (List.mem_append_left _ hq)
  · rcases List.mem_cons.mp hq with rfl | hq
    · exact ⟨ho, hd⟩
    · exact key q (List.mem_append_right _ hq)
theorem fr_at {h₀ h h' : Heap} {L d : Addr} {m : Str → Option Value} (F : Fr h₀ L h m) (hL : d ≠ L) (hd : h₀.get? d = none) (hk : ∀ b o, b ≠ d → h.get? b = some o → h'.get? b = some o) : Fr h₀ L h' m :=
  ⟨F.ns.at' fun o e => hk L o (Ne.symm hL) e, fun b o e => hk b o (fun q => by rw [q, hd] at e; cases e) (F.keep b o e), F.above⟩
section
variable {prog : Program} {w : World} {A : Around} {E : Value → Shared → Prop} {s : Shared} {h₀ : Heap} {L : Addr} {m : Str → Option Value} {env : Env}
theorem newEnv_cell {scope : Scope} {cl : List (Str × Addr)} {qual : Str} {x : Str} {Q : Env → Shared → Prop} (hpc : ∀ h, pushCells h scope.names = h.push cellObj) (hcf : ∀ n acc, cellsFrom n scope.names acc = (x, n) :: acc)
    (h : Q (newEnv scope s.heap.objs.size env.globals ((x, s.heap.objs.size + 1) :: cl) qual none .none (some env) builtinsNs) { s with heap := (s.heap.push { cls := .type "dict", data := .dict #[] }).push cellObj }) :
    wpAny (model prog w) A (newFunctionEnv scope env.globals cl [] qual none .none (some env)) Q E s := by
  simp only [newFunctionEnv, Option.isSome_some, if_true]
  refine wpAny_bind (wpAny_alloc ?_)
  refine wpAny_bind (wpAny_layCells _ (fun name kind cells => by cases hkc : kind == NameKind.cell <;> simp [hkc]) _ _ _ _ ?_)
  rw [hpc, hcf]
  refine wpAny_bind (wpAny_pure (wpAny_pure ?_))
  rw [show ({ s with heap := s.heap.push { cls := .type "dict", data := .dict #[] } } : Shared).heap.objs.size = s.heap.objs.size + 1 from Heap.size_push ..]
  exact h

def SameLed (h₀ : Heap) (L : Addr) (m : Str → Option Value) (led : List (Addr × Obj)) (s₁ : Shared) (b : Bool) (ok : Bool) (s' : Shared) : Prop := ok = b ∧ ∃ h' tk', s' = { s₁ with heap := h', toks := tk' } ∧ Fr h₀ L h' m ∧ News h₀ L h' led
def TurnLed (h₀ : Heap) (L : Addr) (m : Str → Option Value) (I : Addr) (oI : Obj) (C : Addr) (oC : Obj) (D : Addr) (ys : List Value) (S J : List (Addr × Obj) → Prop) (s₁ : Shared) (b : Bool) (ok : Bool) (s' : Shared) : Prop :=
  ok = b ∧ ∃ h' tk' news', s' = { s₁ with heap := h', toks := tk' } ∧ Fr h₀ L h' m ∧ News h₀ L h' ((I, oI) :: (C, oC) :: (D, LCg.lst ys) :: news') ∧ LCg.Off3 I C D news' ∧ S news' ∧ J news'
/-- what the range of such a comprehension is to give -/
def CellSrc (prog : Program) (w : World) (A : Around) (h₀ : Heap) (L : Addr) (m : Str → Option Value) (env : Env) (ct : Expr) (x : Str) (scope : Scope) (cl : List (Str × Addr)) (p : Int → Bool) (Q : Value → Shared → Prop) (xv : Value) (s₁ : Shared) : Prop :=
  ∃ r b t u v n news, xv = .ref r ∧ A.handled = none ∧ Fr h₀ L s₁.heap m ∧ News h₀ L s₁.heap news ∧ IsRange s₁.heap r 1 b 1 t u v ∧ Builtin.Range.small 1 b 1 = true ∧
      Builtin.Range.rangeSize 1 b 1 = ((n : Nat) : Int) ∧ n ≤ 1000 ∧
      (∀ (k : Int) (tk0 : Tok) (I C c D : Addr) (oI oC oc : Obj) ys h tk (E' : Value → Shared → Prop), 1 ≤ k → k ≤ n → oc.data = .cell (some (.int k tk0)) → Fr h₀ L h m → News h₀ L h ((I, oI) :: (C, oC) :: (c, oc) :: (D, LCg.lst ys) :: news) →
        (∀ q ∈ news, @LT.lt Nat _ q.1 I) → (@LT.lt Nat _ I D ∧ @LT.lt Nat _ D C ∧ @LT.lt Nat _ C c) →
        wpAny (model prog w) A (isTrue ct (compEnvC scope ((x, c) :: cl) C env) (eval ct (compEnvC scope ((x, c) :: cl) C env)))
          (SameLed h₀ L m ((I, oI) :: (C, oC) :: (c, oc) :: (D, LCg.lst ys) :: news) s₁ (p k)) E' { s₁ with heap := h, toks := tk }) ∧
      (∀ D ys h tk, Fr h₀ L h m → News h₀ L h ((D, LCg.lst ys) :: news) → (∀ q ∈ news, q.1 < D) → IntsAre ys ((ks1 n).filter p) → Q (.ref D) { s₁ with heap := h, toks := tk })
/-- a comprehension over range(1, n + 1) whose name is closed over by its test, and whose element is the name -/
theorem ListComp_cell {ct iter : Expr} {x : Str} {px p1 : Pos} {scope : Scope} {cl : List (Str × Addr)} {pos : Pos} {Q : Value → Shared → Prop} (p : Int → Bool) (uF₀ : Fr h₀ L s.heap m)
    (hclos : closureFor scope env = pure cl) (hkind : scope.kind = .function) (hnames : ∀ y ∈ scope.names, y.2 = .local → scope.names.lookup y.1 = some .local)
    (hpc : ∀ h, pushCells h scope.names = h.push cellObj) (hcf : ∀ n acc, cellsFrom n scope.names acc = (x, n) :: acc)
    (hx : ∀ cl C, (compEnvC scope cl C env).kindOf x = some .cell) (hdbg : (x == ("__debug__" : Str)) = false)
    (h : wpAny (model prog w) A (eval iter env) (CellSrc prog w A h₀ L m env ct x scope cl p Q) E s)
    (hs : ∀ x, foldedSetIterable iter env x = pure x := by intro _; rfl) :
    wpAny (model prog w) A (eval (.ListComp (.Name x p1) [⟨.Name x px, iter, [ct], 0⟩] scope pos) env) Q E s := by
  rw [eval_ListComp]
  refine wpAny_comprehension_free (use := none) rfl hs hclos hkind hnames (wpAny_mono h (fun xv s₁ h₁ => ?_) fun _ _ e => e)
  obtain ⟨r, b, t, u, v, n, news, rfl, hh, F, N, hr, hsm, hn, hn1, turn, fin⟩ := h₁
  refine wpAny_pyIter_range hr hsm ?_
  have lt : ∀ q ∈ news, q.1 < s₁.heap.objs.size := fun q hq => Heap.lt_size (N q hq).1
  have hLZ : @LT.lt Nat _ L s₁.heap.objs.size := F.ns.lt
  have fresh : ∀ b, s₁.heap.objs.size ≤ b → h₀.get? b = none := fun b hb => Heap.get?_none_of_le (Nat.le_trans F.above (Nat.le_trans (Nat.le_of_lt hLZ) hb))
  generalize hZ : s₁.heap.objs.size = Z at lt hLZ fresh ⊢
  rw [hn]
  have F1 := F.push { cls := .type "range_iterator", data := .fields #[rawInt 1, rawInt ((n : Nat) : Int), rawInt 1] }
  have N1 := News.push F N { cls := .type "range_iterator", data := .fields #[rawInt 1, rawInt ((n : Nat) : Int), rawInt 1] }
  have z1 := Heap.size_push s₁.heap { cls := .type "range_iterator", data := .fields #[rawInt 1, rawInt ((n : Nat) : Int), rawInt 1] }
  rw [hZ] at N1 z1
  generalize hH1 : s₁.heap.push { cls := .type "range_iterator", data := .fields #[rawInt 1, rawInt ((n : Nat) : Int), rawInt 1] } = H1 at F1 N1 z1 ⊢
  refine wpAny_newObj_type (newEnv_cell (x := x) hpc hcf ?_)
  have F2 := F1.push { cls := .type "list", dict := none, data := .seq ([] : List Value).toArray }
  have N2 := News.push F1 N1 { cls := .type "list", dict := none, data := .seq ([] : List Value).toArray }
  have z2 := Heap.size_push H1 { cls := .type "list", dict := none, data := .seq ([] : List Value).toArray }
  rw [z1] at N2 z2
  dsimp only
  generalize hH2 : H1.push { cls := .type "list", dict := none, data := .seq ([] : List Value).toArray } = H2 at F2 N2 z2 ⊢
  have F3 := F2.push { cls := .type "dict", data := .dict #[] }
  have N3 := News.push F2 N2 { cls := .type "dict", data := .dict #[] }
  have z3 := Heap.size_push H2 { cls := .type "dict", data := .dict #[] }
  rw [z2] at N3 z3
  rw [z1, z2]
  have ns3 : (H2.push { cls := .type "dict", data := .dict #[] }).Ns H2.objs.size (fun _ => none) := Heap.Ns.new _ _
  rw [z2] at ns3
  generalize hH3 : H2.push { cls := .type "dict", data := .dict #[] } = H3 at F3 N3 z3 ns3 ⊢
  have F4 := F3.push cellObj
  have N4 := News.push F3 N3 cellObj
  have z4 := Heap.size_push H3 cellObj
  rw [z3] at N4 z4
  have ns4 := ns3.push cellObj
  generalize hH4 : H3.push cellObj = H4 at F4 N4 z4 ns4 ⊢
  have hI0 : Z ≠ L ∧ h₀.get? Z = none := ⟨Nat.ne_of_gt hLZ, fresh _ (Nat.le_refl _)⟩
  have hD0 : Z + 1 ≠ L ∧ h₀.get? (Z + 1) = none := ⟨Nat.ne_of_gt (Nat.lt_succ_of_lt hLZ), fresh _ (Nat.le_succ _)⟩
  have hC0 : Z + 1 + 1 ≠ L ∧ h₀.get? (Z + 1 + 1) = none := ⟨neN (by omega), fresh _ (by show Z ≤ Z + 1 + 1; omega)⟩
  have hc0 : Z + 1 + 1 + 1 ≠ L ∧ h₀.get? (Z + 1 + 1 + 1) = none := ⟨neN (by omega), fresh _ (by show Z ≤ Z + 1 + 1 + 1; omega)⟩
  have off : ∀ d, Z ≤ d → ∀ q ∈ news, q.1 ≠ d := fun d hd q hq => Nat.ne_of_lt (Nat.lt_of_lt_of_le (lt q hq) hd)
  have hkC : ∀ cl C, (compEnvC scope cl C env).scope.kind = .function := fun _ _ => hkind
  have loop : ∀ s₃ : Shared, s₃ = { s₁ with heap := H4 } →
      codeAny (model prog w) A (.compLoop (.ListComp (.Name x p1) [⟨.Name x px, iter, [ct], 0⟩] scope pos) 0 (.ref Z) (.ref (Z + 1)) (compEnvC scope ((x, Z + 1 + 1 + 1) :: cl) (Z + 1 + 1) env))
        (compPost (model prog w) A E none Q (.ref (Z + 1)) (Z + 1 + 1)) s₃ := by
    rintro s₃ rfl
    have W := LCg.range_walks (prog := prog) (w := w) (A := A) (I := Z) hh 1 n
    refine codeAny_compLoop_tests
      (fun k s' => ∃ h' tk i ys oI oC oc cv, s' = { s₁ with heap := h', toks := tk } ∧ i ≤ n ∧ k = n + 1 - i ∧ IntsAre ys ((ks1 i).filter p) ∧ ys.length ≤ i ∧ IsRangeIter h' Z (1 + (i : Nat) * 1) ((n : Int) - (i : Nat)) 1 ∧ Fr h₀ L h' m ∧ LCg.NsObj oC (fun _ => none) ∧ oc.data = .cell cv ∧
        News h₀ L h' ((Z, oI) :: (Z + 1 + 1, oC) :: (Z + 1 + 1 + 1, oc) :: (Z + 1, LCg.lst ys) :: news)) ?_ (n + 1)
      ?_
    · rintro k s' ⟨h', tk, i, ys, oI, oC, oc, cv, rfl, hi, rfl, hys, hyl, hst, F', nsC, hcd, N'⟩
      have e12 : Z ≠ Z + 1 ∧ Z ≠ Z + 1 + 1 ∧ Z ≠ Z + 1 + 1 + 1 ∧ Z + 1 ≠ Z + 1 + 1 ∧ Z + 1 ≠ Z + 1 + 1 + 1 ∧ Z + 1 + 1 ≠ Z + 1 + 1 + 1 := ⟨by omega, by omega, by omega, by omega, by omega, by omega⟩
      obtain ⟨e1, e2, e3, e4, e5, e6⟩ := e12
      by_cases hlt : i < n
      · refine W.item i _ _ _ hlt hst fun v h₂ tk₂ hPv hst₂ hk₂ => ?_
        obtain ⟨tv, rfl⟩ := hPv
        have hkZ : ∀ b o, b ≠ Z → h'.get? b = some o → h₂.get? b = some o := fun b o hb e => hk₂ b o (by simpa using hb) e
        have F₂ := fr_at F' hI0.1 hI0.2 hkZ
        have N₂ := news_at (pre := []) hI0 (List.forall_mem_cons.mpr ⟨Ne.symm e2, List.forall_mem_cons.mpr ⟨Ne.symm e3, List.forall_mem_cons.mpr ⟨Ne.symm e1, off _ (Nat.le_refl _)⟩⟩⟩) (drop1 N') hkZ hst₂
        refine wpAny_assign_Name (wpAny_storeName_cell (c := Z + 1 + 1 + 1) (hkC _ _) (hx _ _) (by simp [compEnvC]) ⟨oc, (N₂ (Z + 1 + 1 + 1, oc) (.tail _ (.tail _ (.head _)))).1, hcd⟩ fun h₃ hc₃ hs₃ => ?_)
        obtain ⟨oc', hoc', hcd'⟩ := hc₃
        have F₃ := F₂.change hs₃ hc0.1 hc0.2
        have N₃ := news_at (h' := h₃) (o' := oc') (pre := [(Z, _), (Z + 1 + 1, oC)]) (post := (Z + 1, LCg.lst ys) :: news) hc0
          (List.forall_mem_cons.mpr ⟨e3, List.forall_mem_cons.mpr ⟨e6, List.forall_mem_cons.mpr ⟨e5, off _ (by show Z ≤ Z + 1 + 1 + 1; omega)⟩⟩⟩)
          (fun q hq => N₂ q (by simp only [List.cons_append, List.nil_append, List.mem_cons] at hq ⊢; exact hq.imp_right (Or.imp_right Or.inr))) (fun b o hb e => (hs₃.2 b hb).trans e) hoc'
        simp only [List.cons_append, List.nil_append] at N₃
        refine wpAny_tests_one ?_
        refine wpAny_mono (turn (1 + (i : Int)) tv Z (Z + 1 + 1) (Z + 1 + 1 + 1) (Z + 1) _ oC oc' ys h₃ tk₂ _ (by omega) (by omega) hcd' F₃ N₃ lt ⟨by omega, by omega, by omega⟩) (fun ok s₄ hq => ?_) fun _ _ e => e
        obtain ⟨hok, h₄, tk₄, rfl, F₄, N₄⟩ := hq
        have hst₄ : IsRangeIter h₄ Z (1 + ((i + 1 : Nat) : Int) * 1) ((n : Int) - ((i + 1 : Nat) : Int)) 1 := (N₄ _ (.head _)).1
        have hc₄ : h₄.get? (Z + 1 + 1 + 1) = some oc' := (N₄ _ (.tail _ (.tail _ (.head _)))).1
        have hD₄ : h₄.get? (Z + 1) = some (LCg.lst ys) := (N₄ _ (.tail _ (.tail _ (.tail _ (.head _))))).1
        cases ok with
        | true =>
          simp only [if_true]
          refine wpAny_Name (wpAny_loadName_cell (c := Z + 1 + 1 + 1) (hkC _ _) (hx _ _) (by simp [compEnvC]) ⟨oc', hc₄, hcd'⟩ ?_) hdbg
          refine append_at hD₄ (fun h₅ hs₅ hD₅ => ?_) (by rw [PySem.sizeLine_eq, List.size_toArray]; omega)
          refine ⟨n + 1 - (i + 1), by omega, h₅, tk₄, i + 1, ys ++ [.int (1 + (i : Int)) tv], itObj (1 + ((i + 1 : Nat) : Int) * 1) ((n : Int) - ((i + 1 : Nat) : Int)), oC, oc', _, rfl, hlt, rfl, ?_, by rw [List.length_append, List.length_singleton]; omega, (hs₅.2 Z e1).trans hst₄, F₄.change hs₅ hD0.1 hD0.2, nsC, hcd', ?_⟩
          · rw [ks1_succ, List.filter_append]
            refine IntsAre.append hys ?_
            rw [List.filter_cons, if_pos hok.symm]
            exact .cons _ _ .nil
          · have N₅ := news_at (h' := h₅) (pre := [(Z, _), (Z + 1 + 1, oC), (Z + 1 + 1 + 1, oc')]) (post := news) hD0
              (List.forall_mem_cons.mpr ⟨e1, List.forall_mem_cons.mpr ⟨Ne.symm e4, List.forall_mem_cons.mpr ⟨Ne.symm e5, off _ (Nat.le_succ _)⟩⟩⟩)
              (fun q hq => N₄ q (by simp only [List.cons_append, List.nil_append, List.mem_cons] at hq ⊢; exact hq.imp_right (Or.imp_right (Or.imp_right Or.inr)))) (fun b o hb e => (hs₅.2 b hb).trans e) (hD₅.trans (congrArg some (LCg.lst_snoc ys _)))
            simpa only [List.cons_append, List.nil_append] using N₅
        | false =>
          simp only [Bool.false_eq_true, if_false]
          refine ⟨n + 1 - (i + 1), by omega, h₄, tk₄, i + 1, ys, _, oC, oc', _, rfl, hlt, rfl, ?_, by omega, hst₄, F₄, nsC, hcd', N₄⟩
          rw [ks1_succ, List.filter_append, List.filter_cons, if_neg (by rw [← hok]; exact Bool.false_ne_true), List.filter_nil, List.append_nil]
          exact hys
      · obtain rfl : i = n := Nat.le_antisymm hi (Nat.not_lt.mp hlt)
        refine W.done _ _ _ hst fun h₂ tk₂ hk₂ => ?_
        have hkZ : ∀ b o, b ≠ Z → h'.get? b = some o → h₂.get? b = some o := fun b o hb e => hk₂ b o (by simpa using hb) e
        have F₂ := fr_at F' hI0.1 hI0.2 hkZ
        have nsC' : h'.Ns (Z + 1 + 1) (fun _ => none) := nsC.ns (N' _ (.tail _ (.head _))).1
        refine ⟨_, nsC'.at' fun o e => hkZ _ o (Ne.symm e2) e, fun h₃ hs₃ => ?_⟩
        refine fin (Z + 1) ys h₃ tk₂ (F₂.change hs₃ hC0.1 hC0.2) (fun q hq => ?_) (fun q hq => Nat.lt_succ_of_lt (lt q hq)) hys
        have hq1 : q.1 ≠ Z ∧ q.1 ≠ Z + 1 + 1 := by
          rcases List.mem_cons.mp hq with rfl | hq
          · exact ⟨Ne.symm e1, e4⟩
          · exact ⟨off _ (Nat.le_refl _) q hq, off _ (by show Z ≤ Z + 1 + 1; omega) q hq⟩
        have hq2 := N' q (.tail _ (.tail _ (.tail _ hq)))
        exact ⟨(hs₃.2 _ hq1.2).trans (hkZ _ _ hq1.1 hq2.1), hq2.2⟩
    · obtain ⟨oC, hoC, nsC⟩ := LCg.ns_obj ns4
      have e := (N4 _ (.tail _ (.head _))).1
      rw [hoC] at e
      cases e
      refine ⟨H4, s₁.toks, 0, [], { cls := .type "range_iterator", data := .fields #[rawInt 1, rawInt ((n : Nat) : Int), rawInt 1] }, _, cellObj, none, rfl, Nat.zero_le _, rfl, .nil, Nat.le_refl _, ?_, F4, nsC, rfl, fun q hq => N4 q ?_⟩
      · have := (N4 (Z, _) (.tail _ (.tail _ (.tail _ (.head _))))).1
        simpa using this
      · simp only [List.mem_cons] at hq ⊢
        rcases hq with h | h | h | h | h
        · exact .inr (.inr (.inr (.inl h)))
        · exact .inr (.inl h)
        · exact .inl h
        · exact .inr (.inr (.inl h))
        · exact .inr (.inr (.inr (.inr h)))
  exact codeAny_compStart_list (loop _ rfl) (wpAny_pyIter_rangeiter (x := 1) (left := n) (step := 1) ((N4 (Z, _) (.tail _ (.tail _ (.tail _ (.head _))))).1) (loop _ rfl))
end
end
section
section
variable {prog : Program} {w : World} {A : Around} {h₀ : Heap} {L : Addr} {m : Str → Option Value} {env : Env} {ct : Expr} {x : Str} {pe : Pos} {scope : Scope} {cl : List (Str × Addr)} {s : Shared} {S : List (Addr × Obj) → Prop} {P : Nat → Value → Prop} {Fin : List Value → List (Addr × Obj) → Prop} {news : List (Addr × Obj)}
/-- the turns of a comprehension that keeps the items of which p holds; the ledger may turn under J -/
theorem filt_rest {n : Nat} {ks : List Int} (p : Int → Bool) (J : List (Addr × Obj) → Prop) (hks : ks.length = n) (hP : ∀ i v, i < n → P i v → ∃ k t, ks[i]? = some k ∧ v = .int k t)
    (hk : ∀ C, (compEnvC scope cl C env).scope.kind = .function) (hl : ∀ C, (compEnvC scope cl C env).kindOf x = some .local) (hd : (x == ("__debug__" : Str)) = false)
    (turn : ∀ k t I oI C oC D m₂ ys news h tk (E' : Value → Shared → Prop), k ∈ ks → J news → LCg.NsObj oC m₂ → m₂ x = some (.int k t) → Fr h₀ L h m → News h₀ L h ((I, oI) :: (C, oC) :: (D, LCg.lst ys) :: news) → LCg.Off3 I C D news → ((@Ne Nat I C) ∧ (@Ne Nat I D) ∧ (@Ne Nat C D)) →
      wpAny (model prog w) A (isTrue ct (compEnvC scope cl C env) (eval ct (compEnvC scope cl C env)))
        (TurnLed h₀ L m I oI C oC D ys S J s (p k)) E' { s with heap := h, toks := tk })
    (fin : ∀ ys news', J news' → IntsAre ys (ks.filter p) → Fin ys news') (h0 : J news) : LCt.CompRestT prog w A h₀ L m env ct (.Name x pe) x scope cl s S P Fin n 0 [] news := by
  have key : ∀ (j i : Nat) (ys : List Value) (news : List (Addr × Obj)), i + j = n → J news → IntsAre ys ((ks.take i).filter p) → LCt.CompRestT prog w A h₀ L m env ct (.Name x pe) x scope cl s S P Fin j i ys news := by
    intro j
    induction j with
    | zero =>
      intro i ys news hi hJ hy
      have e : i = ks.length := by omega
      subst e
      rw [List.take_length] at hy
      exact LCt.CompRestT.zero (fin ys news hJ hy)
    | succ j ih =>
      intro i ys news hi hJ hy
      refine LCt.CompRestT.succ ?_
      intro v I oI C oC D m₂ h tk E' hv hC hx F N off ne
      obtain ⟨k, t, hki, hv'⟩ := hP i v (by omega) hv
      rw [hv'] at hx
      have ht : (ks.take (i + 1)).filter p = (ks.take i).filter p ++ [k].filter p := by rw [List.take_add_one, hki, List.filter_append]; rfl
      refine wpAny_mono (turn k t I oI C oC D m₂ ys news h tk E' (List.mem_of_getElem? hki) hJ hC hx F N off ne) (fun ok s₂ hq => ?_) fun _ _ e => e
      obtain ⟨hok, h', tk', news', rfl, F', N', off', hS, hJ'⟩ := hq
      cases ok with
      | true =>
        simp only [if_true]
        refine LCgL.ld_own N' (.tail _ (.head _)) hC hx ?_ (hk C) (hl C) hd
        refine ⟨h', tk', news', rfl, F', N', off', hS, ih (i + 1) _ _ (by omega) hJ' ?_⟩
        rw [ht, List.filter_cons, if_pos hok.symm]
        exact IntsAre.append hy (.cons _ _ .nil)
      | false =>
        simp only [Bool.false_eq_true, if_false]
        refine ⟨h', tk', news', rfl, F', N', off', hS, ih (i + 1) _ _ (by omega) hJ' ?_⟩
        rw [ht, List.filter_cons, if_neg (by rw [← hok]; exact Bool.false_ne_true), List.filter_nil, List.append_nil]
        exact hy
  exact key n 0 [] news (by omega) h0 (by simp only [List.take_zero, List.filter_nil]; exact .nil)
theorem filt_list {vs : List Value} {ns : List Int} (hi : IntsAre vs ns) (p : Int → Bool) (J : List (Addr × Obj) → Prop)
    (hk : ∀ C, (compEnvC scope cl C env).scope.kind = .function) (hl : ∀ C, (compEnvC scope cl C env).kindOf x = some .local) (hd : (x == ("__debug__" : Str)) = false)
    (turn : ∀ k t I oI C oC D m₂ ys news h tk (E' : Value → Shared → Prop), k ∈ ns → J news → LCg.NsObj oC m₂ → m₂ x = some (.int k t) → Fr h₀ L h m → News h₀ L h ((I, oI) :: (C, oC) :: (D, LCg.lst ys) :: news) → LCg.Off3 I C D news → ((@Ne Nat I C) ∧ (@Ne Nat I D) ∧ (@Ne Nat C D)) →
      wpAny (model prog w) A (isTrue ct (compEnvC scope cl C env) (eval ct (compEnvC scope cl C env)))
        (TurnLed h₀ L m I oI C oC D ys S J s (p k)) E' { s with heap := h, toks := tk })
    (fin : ∀ ys news', J news' → IntsAre ys (ns.filter p) → Fin ys news') (h0 : J news) : LCt.CompRestT prog w A h₀ L m env ct (.Name x pe) x scope cl s S (fun i v => vs.toArray[i]? = some v) Fin vs.toArray.size 0 [] news :=
  filt_rest (ks := ns) p J (by rw [List.size_toArray]; exact hi.length.symm) (fun i v _ hv => by
    obtain ⟨k, t, e, hk⟩ := IntsAre.at hi i v (by simpa using hv)
    exact ⟨k, t, hk, e⟩) hk hl hd turn fin h0
theorem filt_range {n : Nat} (p : Int → Bool) (J : List (Addr × Obj) → Prop)
    (hk : ∀ C, (compEnvC scope cl C env).scope.kind = .function) (hl : ∀ C, (compEnvC scope cl C env).kindOf x = some .local) (hd : (x == ("__debug__" : Str)) = false)
    (turn : ∀ (k : Int) t I oI C oC D m₂ ys news h tk (E' : Value → Shared → Prop), 1 ≤ k → k ≤ (n : Int) → J news → LCg.NsObj oC m₂ → m₂ x = some (.int k t) → Fr h₀ L h m → News h₀ L h ((I, oI) :: (C, oC) :: (D, LCg.lst ys) :: news) → LCg.Off3 I C D news → ((@Ne Nat I C) ∧ (@Ne Nat I D) ∧ (@Ne Nat C D)) →
      wpAny (model prog w) A (isTrue ct (compEnvC scope cl C env) (eval ct (compEnvC scope cl C env)))
        (TurnLed h₀ L m I oI C oC D ys S J s (p k)) E' { s with heap := h, toks := tk })
    (fin : ∀ ys news', J news' → IntsAre ys ((ks1 n).filter p) → Fin ys news') (h0 : J news) : LCt.CompRestT prog w A h₀ L m env ct (.Name x pe) x scope cl s S (fun i v => ∃ t, v = .int (1 + (i : Int)) t) Fin n 0 [] news :=
  filt_rest (ks := ks1 n) p J (by simp [ks1]) (fun i v hi hv => by
    obtain ⟨t, e⟩ := hv
    exact ⟨1 + (i : Int), t, by simp [ks1, hi], e⟩) hk hl hd (fun k t I oI C oC D m₂ ys news h tk E' hm => by
      obtain ⟨i, hi, rfl⟩ := List.mem_map.mp hm
      have := List.mem_range.mp hi
      have hi1 : (1 : Int) ≤ 1 + (i : Int) := by omega
      have hi2 : (1 : Int) + (i : Int) ≤ (n : Int) := by omega
      exact turn (1 + (i : Int)) t I oI C oC D m₂ ys news h tk E' hi1 hi2) fin h0
end
theorem off1_mem {D : Addr} : ∀ {l : List (Addr × Obj)}, LCg.Off1 D l → ∀ p ∈ l, @Ne Nat p.1 D
  | [], _, _, h => nomatch h
  | _ :: _, x, p, h => by
    rcases List.mem_cons.mp h with rfl | h
    · exact x.1
    · exact off1_mem x.2 p h
theorem news_sub {h₀ h : Heap} {L : Addr} {l l' : List (Addr × Obj)} (N : News h₀ L h l) (hs : ∀ p ∈ l', p ∈ l) : News h₀ L h l' := fun p hp => N p (hs p hp)
theorem of4 {I C D Y : Addr × Obj} {q : Addr × Obj} {tl : List (Addr × Obj)} : ∀ p ∈ I :: C :: D :: Y :: tl, p ∈ q :: (tl ++ [I, C, D, Y]) := fun p hp => by
  simp only [List.mem_cons, List.mem_append, List.not_mem_nil, or_false] at hp ⊢
  rcases hp with h | h | h | h | h
  · exact .inr (.inr (.inl h))
  · exact .inr (.inr (.inr (.inl h)))
  · exact .inr (.inr (.inr (.inr (.inl h))))
  · exact .inr (.inr (.inr (.inr (.inr h))))
  · exact .inr (.inl h)
end
section
def cnt (ns : List Int) (d : Int) : Nat := (ns.filter (fun k => decide (k ≤ d) && decide (d.fmod k = 0))).length
def openP (ns : List Int) (d : Int) : Bool := decide (((cnt ns d : Nat) : Int).fmod 2 = 1)
def openL (b : Int) (ns : List Int) : List Int := (ks1 b.toNat).filter (openP ns)
local macro_rules | `(tactic| walk_at "eval ListComp") => `(tactic| (k_here; refine Stop.out ?_))
local macro_rules | `(tactic| walk_at "CompSrcT") => `(tactic| (k_here; refine Stop.out ?_))
theorem open_call (w : World) (b : Int) (u : Tok) (Tn : Addr) (c : Nat) (vs : List Value) (ns : List Int) (hi : IntsAre vs ns) (hb1 : 1 ≤ b) (hb2 : b ≤ 40) (hns : ∀ k ∈ ns, 1 ≤ k) (hlen : ns.length ≤ 40) :
    Call w 5 60 84 [.int b u, .ref Tn] [(Tn, listOf vs.toArray c)] (fun v T' => ∃ D ys, v = .ref D ∧ T' = [(D, LCg.lst ys), (Tn, listOf vs.toArray c)] ∧ IntsAre ys (openL b ns) ∧ @Ne Nat Tn D) := by
  unfold Call
  k_fill
  intro loose mean mg mb dp un gd cn cs a ccd cl outer A₀ base h₀ L m s Q E B F X N T hk c1 c2 hd' hu hret
  refine wpAny_call ?_
  k_with_none
  k_dflt walk_at "mine enterC"
  k_steps
  unfold Stop
  refine ListComp_cell (x := Str.ofString "door") (openP ns) (by k_asm) (by with_unfolding_all rfl) (by rfl) (by decide) (fun _ => by rfl) (fun _ _ => by rfl) (fun _ _ => by rfl) (by decide) ?_
  k_steps
  refine ⟨_, b + 1, _, _, _, (b + 1 - 1).toNat, [_, (Tn, listOf vs.toArray c)], rfl, rfl, by k_asm, by k_asm, by assumption, small_one (by omega) (by omega) (by omega) (by omega), rangeSize_nat _ _, by omega, ?turn, ?fin⟩
  case turn =>
    intro k tk0 I C c' D oI oC oc ys h9 tk9 E9 hk1 hk2 hoc F9 N9 hlt hor
    k_steps
    unfold Stop
    refine LCt.ListComp_T (F₀ := F9) (by with_unfolding_all rfl) (by decide) (by rfl) (by decide) (by rfl) ?_
    k_steps
    unfold Stop
    (rename IntsAre _ _ => hi)
    refine LCt.CompSrcT.ledger (by rfl) F9 N9 (.tail _ (.tail _ (.tail _ (.tail _ (.tail _ (.head _)))))) (by rw [PySem.sizeLine_eq, List.size_toArray, hi.length]; omega) ?_
    intro g9
    refine filt_list hi (fun j => decide (j ≤ k) && decide (k.fmod j = 0)) (fun nw => nw = [(I, oI), (C, oC), (c', oc), (D, LCg.lst ys), _, (Tn, listOf vs.toArray c)]) (fun _ => by rfl) (fun _ => by rfl) (by decide) ?turn2 ?fin2 rfl
    case turn2 =>
      rintro j tj I2 oI2 C2 oC2 D2 m₂ ys2 news2 h8 tk8 E8 hj rfl hC2 hx2 F8 N8 off2 ne2
      have hj1 := hns j hj
      k_steps
      all_goals
        refine ⟨?_, _, _, _, rfl, F8, N8, off2, .inr ⟨_, .tail _ (.tail _ (.tail _ (.tail _ (.tail _ (.head _))))), rfl, _, rfl⟩, rfl⟩
        simp only [Bool.true_eq, Bool.false_eq, Bool.and_eq_true, Bool.and_eq_false_iff, decide_eq_true_eq, decide_eq_false_iff_not]
        first | exact ⟨by assumption, by assumption⟩ | exact .inl (by omega) | exact .inr (by assumption)
    case fin2 =>
      rintro ys2 news2 rfl hI2
      have hsz2 : ys2.toArray.size = cnt ns k := by rw [List.size_toArray, hI2.length]; rfl
      have hc40 : cnt ns k ≤ 40 := Nat.le_trans (List.length_filter_le _ _) hlen
      k_steps
      all_goals
        refine ⟨?_, _, _, rfl, by k_asm, drop1 (by assumption)⟩
        first | rfl | (simp only [openP, Bool.true_eq, Bool.false_eq, decide_eq_true_eq, decide_eq_false_iff_not]; assumption)
  case fin =>
    intro D ys h9 tk9 F9 N9 hlt hI
    k_steps
    (rename News h₀ L _ _ => kN9)
    refine hret _ _ _ _ (by k_asm) (Kept.then (by assumption) (Fr.keep F9)) (Young.of (by assumption) (dropB N9)) (dropB kN9) ⟨_, _, rfl, rfl, ?_, ?_⟩
    · rwa [show b + 1 - 1 = b by omega] at hI
    · exact Nat.ne_of_lt (hlt _ (.tail _ (.head _)))
end
section
def divs (d : Int) : List Int := (ks1 d.toNat).filter (fun k => decide (d % k = 0))
local macro_rules | `(tactic| walk_at "eval ListComp") => `(tactic| (k_here; refine Stop.out ?_))
local macro_rules | `(tactic| walk_at "CompSrcT") => `(tactic| (k_here; refine Stop.out ?_))
local macro_rules | `(tactic| walk_at "call ref") => `(tactic| (k_here; (with_reducible show wpAny _ _ (call (Value.ref 56) _) _ _ _); refine Stop.out ?_))
theorem turners_call (w : World) (d : Int) (u : Tok) (hd1 : 1 ≤ d) (hd2 : d ≤ 40) (tl : List (Addr × Obj)) (ht : Tabs tl) :
    Call w 50 500 79 [.int d u] tl (fun v T' => ∃ D ys tl', v = .ref D ∧ T' = (D, LCg.lst ys) :: tl' ∧ IntsAre ys (divs d) ∧ Tabs tl' ∧ ∀ p ∈ tl', @Ne Nat p.1 D) := by
  unfold Call
  k_fill
  intro loose mean mg mb dp un gd cn cs a ccd cl outer A₀ base h₀ L m s Q E B F X N T hk c1 c2 hd' hu hret
  refine wpAny_call ?_
  k_with_none
  k_dflt walk_at "mine enterC"
  rename_i g₁ L₁ h₁ tk₁ FG₁ F₁ B₁ X₁ T₁ K₁ l₁ o₁ d₁ N₁
  have hl₁ : ∀ p ∈ tl, @Ne Nat p.1 (L₁ + 1) := fun p hp => Nat.ne_of_lt (Nat.lt_succ_of_lt (l₁ p hp))
  k_steps
  unfold Stop
  refine LCt.ListComp_T (F₀ := by k_asm) (by with_unfolding_all rfl) (by decide) (by rfl) (by decide) (by rfl) ?_
  k_steps
  unfold Stop
  refine LCt.CompSrcT.range (by rfl) (by k_asm) (by k_asm) (by assumption) (small_one (by omega) (by omega) (by omega) (by omega)) (rangeSize_nat _ _) (by rw [PySem.sizeLine_eq]; omega) ?_
  intro g9
  refine filt_range (fun k => decide (d % k = 0)) (fun nw => ∃ tl, Tabs tl ∧ nw = (L₁ + 1, o₁) :: tl ∧ ∀ p ∈ tl, @Ne Nat p.1 (L₁ + 1)) (fun _ => by rfl) (fun _ => by rfl) (by decide) ?turn ?fin ⟨tl, ht, rfl, hl₁⟩
  case turn =>
    rintro k t I oI C oC D m₂ ys news h8 tk8 E8 hk1 hk2 ⟨tl₂, ht₂, rfl, hne₂⟩ hC2 hx2 F8 N8 off2 ne2
    k_steps
    unfold Stop
    refine use_call (U := tl₂) (rest := [(I, oI), (C, oC), (D, LCg.lst ys), (L₁ + 1, o₁)]) (divm_call w d k _ _ hd1 hd2 hk1 (by omega) tl₂ ht₂) (by k_asm) F8 (by k_asm) N8 (by k_asm) rfl c1 c2 (fun p hp => .tail _ (.tail _ (.tail _ (.tail _ hp)))) ?_ ?_ ?_ ?_ ?_
    · intro p hp
      simp only [List.mem_cons, List.not_mem_nil, or_false] at hp ⊢
      exact hp.imp_right (Or.imp_right (Or.imp_right Or.inl))
    · have o9 := fun p hp => LCg.Off3.mem off2 p (.tail _ hp)
      exact List.forall_mem_cons.mpr ⟨fun p hp => Ne.symm (o9 p hp).1, List.forall_mem_cons.mpr ⟨fun p hp => Ne.symm (o9 p hp).2.1, List.forall_mem_cons.mpr ⟨fun p hp => Ne.symm (o9 p hp).2.2, List.forall_mem_cons.mpr ⟨fun p hp => Ne.symm (hne₂ p hp), List.forall_mem_nil _⟩⟩⟩⟩
    · ktr_room
    · ktr_units
    rintro v T' h3 tk3 F3 N3 off3 ⟨q, t1, t2, tl₃, rfl, rfl, htl₃, hq₃⟩
    replace N3 : News _ _ h3 ((q, tup2 (d / k) (d % k) t1 t2) :: (tl₃ ++ [(I, oI), (C, oC), (D, LCg.lst ys), (L₁ + 1, o₁)])) := N3
    clear N8
    k_steps
    refine ⟨rfl, h3, _, (L₁ + 1, o₁) :: tl₃, rfl, F3, news_sub N3 of4, LCg.Off3.of (List.forall_mem_cons.mpr ⟨off2.1, fun p hp => ⟨?_, ?_, ?_⟩⟩), trivial, ⟨tl₃, htl₃, rfl, ?_⟩⟩
    · exact Ne.symm (off3 _ (.head _) p (.tail _ hp))
    · exact Ne.symm (off3 _ (.tail _ (.head _)) p (.tail _ hp))
    · exact Ne.symm (off3 _ (.tail _ (.tail _ (.head _))) p (.tail _ hp))
    · exact fun p hp => Ne.symm (off3 _ (.tail _ (.tail _ (.tail _ (.head _)))) p (.tail _ hp))
  case fin =>
    rintro ys news ⟨tl₂, ht₂, rfl, hne₂⟩ hI
    k_steps
    (rename News h₀ L _ _ => kN9)
    refine hret _ _ _ _ (by k_asm) (Kept.then (by assumption) (Fr.keep (by assumption))) (Young.of (by assumption) (dropB (by assumption))) (dropB kN9) ⟨_, _, _, rfl, rfl, ?_, ht₂, off1_mem (And.right (by assumption))⟩
    rwa [show d + 1 - 1 = d by omega] at hI
end
section
def bisG (ns : List Int) (x : Int) : Nat → Int → Int → Int
  | 0, lo, _ => lo
  | f + 1, lo, hi => if lo < hi then (if ns.getD ((lo + hi).fdiv 2).toNat 0 < x then bisG ns x f ((lo + hi).fdiv 2 + 1) hi else bisG ns x f lo ((lo + hi).fdiv 2)) else lo
def bis (ns : List Int) (x : Int) : Int := bisG ns x ns.length 0 ns.length
def BisJ (ns : List Int) (x lo hi : Int) : Prop := ∃ f, (hi - lo).toNat ≤ f ∧ bisG ns x f lo hi = bis ns x
theorem bisJ_start {ns : List Int} {x : Int} : BisJ ns x 0 ns.length := ⟨ns.length, by omega, rfl⟩
theorem bisG_end {ns : List Int} {x lo hi : Int} (h : hi ≤ lo) : ∀ f, bisG ns x f lo hi = lo
  | 0 => rfl
  | f + 1 => by rw [bisG, if_neg (by omega)]
theorem bisJ_end {ns : List Int} {x lo hi : Int} (j : BisJ ns x lo hi) (h : hi ≤ lo) : lo = bis ns x := by
  obtain ⟨f, _, e⟩ := j
  rw [← e, bisG_end h]
theorem mid_in {lo hi : Int} (h : lo < hi) : lo ≤ (lo + hi).fdiv 2 ∧ (lo + hi).fdiv 2 < hi := by
  rw [Int.fdiv_eq_ediv_of_nonneg _ (by decide)]
  omega
theorem bisJ_step {ns : List Int} {x lo hi : Int} (h : lo < hi) (j : BisJ ns x lo hi) :
    (ns.getD ((lo + hi).fdiv 2).toNat 0 < x → BisJ ns x ((lo + hi).fdiv 2 + 1) hi) ∧ (¬ ns.getD ((lo + hi).fdiv 2).toNat 0 < x → BisJ ns x lo ((lo + hi).fdiv 2)) := by
  obtain ⟨f, hf, e⟩ := j
  have hm := mid_in h
  cases f with
  | zero => omega
  | succ f =>
    rw [bisG, if_pos h] at e
    constructor
    · intro h1
      rw [if_pos h1] at e
      exact ⟨f, by omega, e⟩
    · intro h1
      rw [if_neg h1] at e
      exact ⟨f, by omega, e⟩
theorem bis_up {ns : List Int} {x lo hi : Int} (j : BisJ ns x lo hi) (h1 : ns.getD ((lo + hi).fdiv 2).toNat 0 < x) (h : lo < hi) (h0 : 0 ≤ lo) (h2 : hi ≤ (ns.length : Int)) :
    (0 ≤ (lo + hi).fdiv 2 + 1 ∧ (lo + hi).fdiv 2 + 1 ≤ hi ∧ hi ≤ (ns.length : Int)) ∧ BisJ ns x ((lo + hi).fdiv 2 + 1) hi := by
  have := mid_in h
  exact ⟨⟨by omega, by omega, h2⟩, (bisJ_step h j).1 h1⟩
theorem bis_down {ns : List Int} {x lo hi : Int} (j : BisJ ns x lo hi) (h1 : ¬ ns.getD ((lo + hi).fdiv 2).toNat 0 < x) (h : lo < hi) (h0 : 0 ≤ lo) (h2 : hi ≤ (ns.length : Int)) :
    (0 ≤ lo ∧ lo ≤ (lo + hi).fdiv 2 ∧ (lo + hi).fdiv 2 ≤ (ns.length : Int)) ∧ BisJ ns x lo ((lo + hi).fdiv 2) := by
  have := mid_in h
  exact ⟨⟨by omega, by omega, by omega⟩, (bisJ_step h j).2 h1⟩
theorem meas_up {lo hi : Int} (h : lo < hi) : (hi - ((lo + hi).fdiv 2 + 1)).toNat < (hi - lo).toNat := by
  have := mid_in h
  omega
theorem meas_down {lo hi : Int} (h : lo < hi) : ((lo + hi).fdiv 2 - lo).toNat < (hi - lo).toNat := by
  have := mid_in h
  omega
theorem bisect_call (w : World) (Sq : Addr) (c : Nat) (vs : List Value) (ns : List Int) (x : Int) (u : Tok) (hi : IntsAre vs ns) (hlen : ns.length ≤ 40) :
    Call w 5 60 74 [.ref Sq, .int x u] [(Sq, listOf vs.toArray c)] (fun v T' => T' = [(Sq, listOf vs.toArray c)] ∧ ∃ t, v = .int (bis ns x) t) := by
  unfold Call
  k_fill
  intro loose mean mg mb dp un gd cn cs a ccd cl outer A₀ base h₀ L m s Q E B F X N T hk c1 c2 hd' hu hret
  have hvl := hi.length
  refine wpAny_call ?_
  k_with_none
  k_with "exec While Compare cons nil" => k_while (fun _ lo hi => (0 ≤ lo ∧ lo ≤ hi ∧ hi ≤ (ns.length : Int)) ∧ BisJ ns x lo hi) (fun _ lo hi => (hi - lo).toNat) "lo" "hi"
  k_with "state" => exact ⟨⟨by decide, by omega, by omega⟩, bisJ_start⟩
  k_with "state" => exact bis_up (by assumption) (by assumption) (by omega) (by omega) (by omega)
  k_with "state" => exact bis_down (by assumption) (by omega) (by omega) (by omega) (by omega)
  k_with "measure" => exact meas_up (by assumption)
  k_with "measure" => exact meas_down (by assumption)
  k_dflt walk_at "mine enter"
  k_steps
  (rename News h₀ L _ _ => kN9)
  exact hret _ _ _ _ (by k_asm) (Kept.then (by assumption) (Fr.keep (by assumption))) (Young.of (by assumption) (by assumption)) kN9 ⟨rfl, _, congrArg (fun z => Value.int z _) (bisJ_end (by assumption) (by omega))⟩
theorem bisect4_call (w : World) (Sq : Addr) (c : Nat) (vs : List Value) (ns : List Int) (x : Int) (u u0 : Tok) (hi : IntsAre vs ns) (hlen : ns.length ≤ 40) :
    Call w 5 60 74 [.ref Sq, .int x u, .int 0 u0, .none] [(Sq, listOf vs.toArray c)] (fun v T' => T' = [(Sq, listOf vs.toArray c)] ∧ ∃ t, v = .int (bis ns x) t) := by
  unfold Call
  k_fill
  intro loose mean mg mb dp un gd cn cs a ccd cl outer A₀ base h₀ L m s Q E B F X N T hk c1 c2 hd' hu hret
  have hvl := hi.length
  refine wpAny_call ?_
  k_with_none
  k_with "exec While Compare cons nil" => k_while (fun _ lo hi => (0 ≤ lo ∧ lo ≤ hi ∧ hi ≤ (ns.length : Int)) ∧ BisJ ns x lo hi) (fun _ lo hi => (hi - lo).toNat) "lo" "hi"
  k_with "state" => exact ⟨⟨by decide, by omega, by omega⟩, bisJ_start⟩
  k_with "state" => exact bis_up (by assumption) (by assumption) (by omega) (by omega) (by omega)
  k_with "state" => exact bis_down (by assumption) (by omega) (by omega) (by omega) (by omega)
  k_with "measure" => exact meas_up (by assumption)
  k_with "measure" => exact meas_down (by assumption)
  k_dflt walk_at "mine enter"
  k_steps
  (rename News h₀ L _ _ => kN9)
  exact hret _ _ _ _ (by k_asm) (Kept.then (by assumption) (Fr.keep (by assumption))) (Young.of (by assumption) (by assumption)) kN9 ⟨rfl, _, congrArg (fun z => Value.int z _) (bisJ_end (by assumption) (by omega))⟩

theorem bisG_in {ns : List Int} {x : Int} : ∀ (f : Nat) (lo hi : Int), lo ≤ hi → lo ≤ bisG ns x f lo hi ∧ bisG ns x f lo hi ≤ hi
  | 0, lo, hi, h => ⟨Int.le_refl _, h⟩
  | f + 1, lo, hi, h => by
    rw [bisG]
    split
    · rename_i h1
      have hm := mid_in h1
      split
      · have := bisG_in (ns := ns) (x := x) f ((lo + hi).fdiv 2 + 1) hi (by omega)
        omega
      · have := bisG_in (ns := ns) (x := x) f lo ((lo + hi).fdiv 2) (by omega)
        omega
    · omega
theorem bis_in (ns : List Int) (x : Int) : 0 ≤ bis ns x ∧ bis ns x ≤ (ns.length : Int) := bisG_in _ _ _ (by omega)
def ins (ns : List Int) (x : Int) : List Int := ns.take (bis ns x).toNat ++ x :: ns.drop (bis ns x).toNat
section
variable {prog : Program} {w : World} {A : Around} {E : Value → Shared → Prop} {s : Shared} {h₀ : Heap} {L D : Addr} {m : Str → Option Value} {rest : List (Addr × Obj)} {vs : List Value} {ns : List Int} {n : Nat} {k x : Int} {t u : Tok} {Q : Value → Shared → Prop}
theorem insert_as (F : Fr h₀ L s.heap m) (N : News h₀ L s.heap ((D, listOf vs.toArray n) :: rest)) (off : ∀ p ∈ rest, p.1 ≠ D) (hi : IntsAre vs ns) (h0 : 0 ≤ k) (h1 : k ≤ (ns.length : Int)) (hz : ns.length ≤ 1000)
    (h : ∀ h' vs', Fr h₀ L h' m → News h₀ L h' ((D, listOf (List.toArray vs') (n + 1)) :: rest) → IntsAre vs' (ns.take k.toNat ++ x :: ns.drop k.toNat) → Q .none { s with heap := h' }) :
    wpAny (model prog w) A (call (.builtin "list.insert") [.ref D, .int k t, .int x u]) Q E s := by
  have hl := hi.length
  refine kl_insert (l := vs.take k.toNat ++ .int x u :: vs.drop k.toNat) F N ?_ ?_ (Upd.head off) ?_ fun h' F' N' => h h' _ F' N' (IntsAre.append (IntsAre.take hi _) (.cons x u (IntsAre.drop hi _)))
  · simp [Builtin.List.listFitsIndex]; omega
  · show kl_ins vs k (.int x u) = _
    unfold kl_ins
    rw [if_neg (by omega), show min k.toNat vs.length = k.toNat by omega]
  · rw [PySem.sizeLine_eq]; show vs.length ≤ _; omega
end
local macro_rules | `(tactic| walk_at "call ref") => `(tactic| (k_here; (with_reducible show wpAny _ _ (call (Value.ref 74) _) _ _ _); refine Stop.out ?_))
local macro_rules | `(tactic| walk_at "call builtin:list.insert") => `(tactic| (k_here; refine Stop.out ?_))
theorem insort_call (w : World) (Sq : Addr) (c : Nat) (vs : List Value) (ns : List Int) (x : Int) (u : Tok) (hi : IntsAre vs ns) (hlen : ns.length ≤ 40) :
    Call w 10 100 65 [.ref Sq, .int x u] [(Sq, listOf vs.toArray c)] (fun v T' => v = .none ∧ ∃ vs', T' = [(Sq, listOf (List.toArray vs') (c + 1))] ∧ IntsAre vs' (ins ns x)) := by
  unfold Call
  k_fill
  intro loose mean mg mb dp un gd cn cs a ccd cl outer A₀ base h₀ L m s Q E B F X N T hk c1 c2 hd' hu hret
  refine wpAny_call ?_
  k_with_none
  k_dflt walk_at "mine enter"
  k_steps
  unfold Stop
  (rename News _ _ _ _ => N9)
  refine use_call (U := [(Sq, listOf vs.toArray c)]) (rest := []) (bisect4_call w Sq c vs ns x u _ hi hlen) (by k_asm) (by k_asm) (by k_asm) N9 (by k_asm) rfl c1 c2 (fun _ h => h) (fun _ h => nomatch h) (fun _ h => nomatch h) ?_ ?_ ?_
  · ktr_room
  · ktr_units
  rintro v T' h3 tk3 F3 N3 off3 ⟨rfl, t3, rfl⟩
  rw [List.append_nil] at N3
  clear N9
  k_steps
  unfold Stop
  (rename News _ _ _ _ => N8)
  refine insert_as (by k_asm) N8 (fun _ h => nomatch h) hi (bis_in ns x).1 (bis_in ns x).2 (by omega) ?_
  intro h4 vs4 F4 N4 hI4
  clear N8
  k_steps
  (rename News h₀ L _ _ => kN9)
  exact hret _ _ _ _ (by k_asm) (Kept.then (by assumption) (Fr.keep F4)) (Young.of (by assumption) N4) kN9 ⟨rfl, _, rfl, hI4⟩
end
section
section
variable {prog : Program} {w : World} {A : Around} {h₀ : Heap} {env : Env} {m : Str → Option Value} {x pl : Str} {body : List Stmt} {s : Shared}
/-- what a turn of such a loop comes to -/
def ForTurn (h₀ : Heap) (L : Addr) (m : Str → Option Value) (pl : Str) (led : List (Addr × Obj)) (s₁ : Shared) (f : Flow) (s' : Shared) : Prop :=
  f = .next ∧ ∃ h' tk' pv', s' = { s₁ with heap := h', toks := tk' } ∧ Fr h₀ L h' (fun y => if y = pl then pv' else m y) ∧ News h₀ L h' led
/-- what the list of such a loop is to give -/
def ForSrc (prog : Program) (w : World) (A : Around) (h₀ : Heap) (L : Addr) (env : Env) (x pl : Str) (body : List Stmt) (Q : Flow → Shared → Prop) (xv : Value) (s₁ : Shared) : Prop :=
  ∃ (l c : Addr) (ol oc₀ : Obj) (cv : Option Value) (n₀ : Nat) (vs : List Value) (ns : List Int) (rest : List (Addr × Obj)) (m : Str → Option Value),
    env.locals = L ∧ xv = .ref l ∧ A.handled = none ∧ Fr h₀ L s₁.heap m ∧ News h₀ L s₁.heap ((c, oc₀) :: (l, ol) :: rest) ∧ ol = listOf vs.toArray n₀ ∧ oc₀.data = .cell cv ∧ IntsAre vs ns ∧ @Ne Nat l c ∧ (∀ q ∈ rest, q.1 ≠ c) ∧
    env.scope.kind = .function ∧ env.kindOf x = some .cell ∧ env.cells.lookup x = some c ∧
    (∀ (k : Int) (t : Tok) (I : Addr) (oI oc : Obj) (pv : Option Value) h tk (E' : Value → Shared → Prop), k ∈ ns → oc.data = .cell (some (.int k t)) → Fr h₀ L h (fun y => if y = pl then pv else m y) →
      News h₀ L h ((I, oI) :: (c, oc) :: (l, ol) :: rest) → (∀ q ∈ (c, oc) :: (l, ol) :: rest, @Ne Nat q.1 I) →
      wpAny (model prog w) A (execs body env) (ForTurn h₀ L m pl ((I, oI) :: (c, oc) :: (l, ol) :: rest) s₁) E' { s₁ with heap := h, toks := tk }) ∧
    (∀ (oc : Obj) (cv : Option Value) (pv : Option Value) h tk, oc.data = .cell cv → Fr h₀ L h (fun y => if y = pl then pv else m y) → News h₀ L h ((c, oc) :: (l, ol) :: rest) → Q .next { s₁ with heap := h, toks := tk })
theorem For_cell {E : Value → Shared → Prop} {Q : Flow → Shared → Prop} {iter : Expr} {px pos : Pos} {L₀ : Addr} {m₀ : Str → Option Value} (pl : Str) (uF₀ : Fr h₀ L₀ s.heap m₀)
    (h : wpAny (model prog w) A (eval iter env) (ForSrc prog w A h₀ L₀ env x pl body Q) E s)
    (hs : ∀ x, foldedSetIterable iter env x = pure x := by intro _; rfl) : wpAny (model prog w) A (exec (.For (.Name x px) iter body [] pos) env) Q E s := by
  refine wpAny_For (wpAny_mono h (fun xv s₁ h₁ => ?_) fun _ _ e => e) hs
  obtain ⟨l, c, ol, oc₀, cv, n₀, vs, ns, rest, m, rfl, rfl, hh, F, N, rfl, hcd, hi, hlc, hc, hk, hx, hcell, turn, fin⟩ := h₁
  have hl : s₁.heap.IsList l vs.toArray := News.isList N (.tail _ (.head _))
  have lt : ∀ q ∈ (c, oc₀) :: (l, listOf vs.toArray n₀) :: rest, q.1 < s₁.heap.objs.size := fun q hq => Heap.lt_size (N q hq).1
  have hlI : @Ne Nat l s₁.heap.objs.size := Nat.ne_of_lt (lt _ (.tail _ (.head _)))
  have hcI : @Ne Nat c s₁.heap.objs.size := Nat.ne_of_lt (lt _ (.head _))
  have hLI : @LT.lt Nat _ env.locals s₁.heap.objs.size := F.ns.lt
  have hI0 : s₁.heap.objs.size ≠ env.locals ∧ h₀.get? s₁.heap.objs.size = none := ⟨Nat.ne_of_gt hLI, Heap.get?_none_of_le (Nat.le_trans F.above (Nat.le_of_lt hLI))⟩
  have hc0 : c ≠ env.locals ∧ h₀.get? c = none := (N _ (.head _)).2
  have W := Walks.list (prog := prog) (w := w) (A := A) hh s₁.heap.objs.size l hlI vs.toArray
  refine wpAny_pyIter_list hl ?_
  have offI : ∀ (oc : Obj) (q : Addr × Obj), q ∈ (c, oc) :: (l, listOf vs.toArray n₀) :: rest → @Ne Nat q.1 s₁.heap.objs.size := fun oc q hq => by
    rcases List.mem_cons.mp hq with rfl | hq
    · exact hcI
    · exact Nat.ne_of_lt (lt q (.tail _ hq))
  have same : ∀ {h : Heap}, Fr h₀ env.locals h m → Fr h₀ env.locals h (fun y => if y = pl then m pl else m y) := fun {h} F => by
    have e : (fun y => if y = pl then m pl else m y) = m := by
      funext y
      by_cases hy : y = pl
      · subst hy; rw [if_pos rfl]
      · rw [if_neg hy]
    rw [e]; exact F
  generalize hZ : s₁.heap.objs.size = I at *
  refine codeAny_forLoop
    (fun k s' => ∃ h' tk i oI oc cv pv, s' = { s₁ with heap := h', toks := tk } ∧ i ≤ vs.length ∧ k = vs.length + 1 - i ∧ h'.IsListIter I l i ∧ Fr h₀ env.locals h' (fun y => if y = pl then pv else m y) ∧ oc.data = .cell cv ∧
      News h₀ env.locals h' ((I, oI) :: (c, oc) :: (l, listOf vs.toArray n₀) :: rest)) ?_ (vs.length + 1) ?_
  · rintro k s' ⟨h', tk, i, oI, oc, cv, pv, rfl, hile, rfl, hit, F', hcd', N'⟩
    have hl' : h'.IsList l vs.toArray := News.isList N' (.tail _ (.tail _ (.head _)))
    by_cases hlt : i < vs.length
    · refine W.item i _ _ _ (by simpa using hlt) ⟨hit, hl'⟩ fun v h₂ tk₂ hPv hst₂ hk₂ => ?_
      obtain ⟨k, t, rfl, hv'⟩ := IntsAre.at hi i v (by simpa using hPv)
      have hkZ : ∀ b o, b ≠ I → h'.get? b = some o → h₂.get? b = some o := fun b o hb e => hk₂ b o (by simpa using hb) e
      have F₂ := fr_at F' hI0.1 hI0.2 hkZ
      obtain ⟨oI₂, hoI₂, hcI₂, hdI₂⟩ := id hst₂.1
      have N₂ := news_at (pre := []) hI0 (offI oc) (drop1 N') hkZ hoI₂
      refine wpAny_assign_Name (wpAny_storeName_cell (c := c) hk hx hcell ⟨oc, (N₂ (c, oc) (.tail _ (.head _))).1, hcd'⟩ fun h₃ hc₃ hs₃ => ?_)
      obtain ⟨oc', hoc', hcd₃⟩ := hc₃
      have F₃ := F₂.change hs₃ hc0.1 hc0.2
      have N₃ := news_at (h' := h₃) (o' := oc') (pre := [(I, oI₂)]) (post := (l, listOf vs.toArray n₀) :: rest) hc0
        (List.forall_mem_cons.mpr ⟨Ne.symm hcI, List.forall_mem_cons.mpr ⟨hlc, hc⟩⟩)
        (fun q hq => N₂ q (by simp only [List.cons_append, List.nil_append, List.mem_cons] at hq ⊢; exact hq.imp_right Or.inr)) (fun b o hb e => (hs₃.2 b hb).trans e) hoc'
      simp only [List.cons_append, List.nil_append] at N₃
      refine wpAny_mono (turn k t I oI₂ oc' pv h₃ tk₂ _ (List.mem_of_getElem? hv') hcd₃ F₃ N₃ (offI oc')) (fun f s₄ hq => ?_) fun _ _ e => e
      obtain ⟨rfl, h₄, tk₄, pv₄, rfl, F₄, N₄⟩ := hq
      exact ⟨vs.length + 1 - (i + 1), by omega, h₄, tk₄, i + 1, oI₂, oc', _, pv₄, rfl, hlt, rfl, ⟨oI₂, (N₄ _ (.head _)).1, hcI₂, hdI₂⟩, F₄, hcd₃, N₄⟩
    · have hin : i = vs.toArray.size := by rw [List.size_toArray]; omega
      subst hin
      refine W.done _ _ _ ⟨hit, hl'⟩ fun h₂ tk₂ hk₂ => wpAny_execs_nil ?_
      have hkZ : ∀ b o, b ≠ I → h'.get? b = some o → h₂.get? b = some o := fun b o hb e => hk₂ b o (by simpa using hb) e
      exact fin oc cv pv h₂ tk₂ hcd' (fr_at F' hI0.1 hI0.2 hkZ) fun q hq => ⟨hkZ _ _ (offI oc q hq) (N' q (.tail _ hq)).1, (N' q (.tail _ hq)).2⟩
  · have F1 := F.push { cls := .type "list_iterator", data := .fields #[.ref l, .int 0 0] }
    have N1 := News.push F N { cls := .type "list_iterator", data := .fields #[.ref l, .int 0 0] }
    rw [hZ] at N1
    refine ⟨_, _, 0, _, oc₀, cv, m pl, rfl, Nat.zero_le _, rfl, ⟨_, (N1 _ (.head _)).1, rfl, rfl⟩, same F1, hcd, N1⟩
end
theorem ia_to {vs : List Value} {a b : List Int} (h : IntsAre vs a) (e : a = b) : IntsAre vs b := e ▸ h
theorem news_pick {h₀ h : Heap} {L : Addr} {l : List (Addr × Obj)} {a : Addr × Obj} (i : Nat) (hi : l[i]? = some a) (N : News h₀ L h l) : News h₀ L h (a :: l.eraseIdx i) := fun p hp => by
  rcases List.mem_cons.mp hp with rfl | hp
  · exact N _ (List.mem_of_getElem? hi)
  · exact N _ (List.mem_of_mem_eraseIdx hp)
theorem fr_over {h₀ h : Heap} {L : Addr} {m : Str → Option Value} {x : Str} {a b : Option Value} (F : Fr h₀ L h (fun y => if y = x then a else if y = x then b else m y)) : Fr h₀ L h (fun y => if y = x then a else m y) := by
  have e : (fun y => if y = x then a else m y) = fun y => if y = x then a else if y = x then b else m y := by
    funext y
    by_cases hy : y = x
    · rw [if_pos hy, if_pos hy]
    · rw [if_neg hy, if_neg hy, if_neg hy]
  rw [e]; exact F
section
variable {prog : Program} {w : World} {A : Around} {E : Value → Shared → Prop} {s : Shared} {h₀ : Heap} {L D : Addr} {news : List (Addr × Obj)}
theorem in_led {vs : List Value} {ns : List Int} {k : Int} {t : Tok} {Q : Value → Shared → Prop} (N : News h₀ L s.heap news) (hm : (D, LCg.lst vs) ∈ news) (hi : IntsAre vs ns)
    (h : Q (.bool (ns.any (· == k))) s) : wpAny (model prog w) A (compareOp .In (.int k t) (.ref D)) Q E s :=
  in_list_ints (News.isList N hm) hi h
theorem notin_led {vs : List Value} {ns : List Int} {k : Int} {t : Tok} {Q : Value → Shared → Prop} (N : News h₀ L s.heap news) (hm : (D, LCg.lst vs) ∈ news) (hi : IntsAre vs ns)
    (h : Q (.bool (!(ns.any (· == k)))) s) : wpAny (model prog w) A (compareOp .NotIn (.int k t) (.ref D)) Q E s :=
  notin_list_ints (News.isList N hm) hi h
end
theorem in5 {α : Type} {a b c d e : α} {r : List α} : ∀ p ∈ a :: b :: c :: d :: e :: r, p ∈ [e] ++ (a :: b :: c :: d :: r) := fun p hp => by
  simp only [List.cons_append, List.nil_append, List.mem_cons] at hp ⊢
  rcases hp with h | h | h | h | h | h
  · exact .inr (.inl h)
  · exact .inr (.inr (.inl h))
  · exact .inr (.inr (.inr (.inl h)))
  · exact .inr (.inr (.inr (.inr (.inl h))))
  · exact .inl h
  · exact .inr (.inr (.inr (.inr (.inr h))))
theorem not_both {x : Bool} (h : x = true) : ¬ x = false := by rw [h]; exact fun e => Bool.noConfusion e
theorem news_erase {h₀ h : Heap} {L : Addr} {l : List (Addr × Obj)} (i : Nat) (N : News h₀ L h l) : News h₀ L h (l.eraseIdx i) := fun p hp => N _ (List.mem_of_mem_eraseIdx hp)
theorem news_rot {h₀ h : Heap} {L : Addr} {a : Addr × Obj} {tl rest : List (Addr × Obj)} (N : News h₀ L h ((a :: tl) ++ rest)) : News h₀ L h (a :: (rest ++ tl)) := fun p hp => N p (by
  simp only [List.cons_append, List.mem_cons, List.mem_append] at hp ⊢
  rcases hp with h | h | h
  · exact .inl h
  · exact .inr (.inr h)
  · exact .inr (.inl h))
theorem tabs0 : Tabs [(37, tabObj #[]), (30, tabObj #[])] :=
  Tabs.mk .empty .empty (List.forall_mem_cons.mpr ⟨List.forall_mem_cons.mpr ⟨by decide, List.forall_mem_nil _⟩, List.forall_mem_nil _⟩)
section
variable {prog : Program} {w : World} {A : Around} {E : Value → Shared → Prop} {s : Shared} {h₀ : Heap} {L c : Addr} {m : Str → Option Value} {env : Env} {rest : List (Addr × Obj)}
theorem storeC {o : Obj} {cv : Option Value} {x : Str} {v : Value} {Q : Unit → Shared → Prop} (F : Fr h₀ L s.heap m) (N : News h₀ L s.heap ((c, o) :: rest)) (hd : o.data = .cell cv) (off : ∀ p ∈ rest, @Ne Nat p.1 c)
    (hk : env.scope.kind = .function) (hx : env.kindOf x = some .cell) (hc : env.cells.lookup x = some c)
    (h : ∀ h' o', Fr h₀ L h' m → News h₀ L h' ((c, o') :: rest) → o'.data = .cell (some v) → Q () { s with heap := h' }) : wpAny (model prog w) A (storeName env x v) Q E s := by
  have hc0 : c ≠ L ∧ h₀.get? c = none := (N _ (.head _)).2
  refine wpAny_storeName_cell (c := c) hk hx hc ⟨o, (N _ (.head _)).1, hd⟩ fun h₃ hc₃ hs₃ => ?_
  obtain ⟨oc', hoc', hcd₃⟩ := hc₃
  exact h h₃ oc' (F.change hs₃ hc0.1 hc0.2) (news_at (pre := []) hc0 off (drop1 N) (fun b o hb e => (hs₃.2 b hb).trans e) hoc') hcd₃
end
theorem off_app {c : Addr} {l tl : List (Addr × Obj)} (h1 : ∀ p ∈ l, @Ne Nat p.1 c) (h2 : ∀ p ∈ tl, @Ne Nat c p.1) : ∀ p ∈ l ++ tl, @Ne Nat p.1 c := fun p hp => by
  rcases List.mem_append.mp hp with h | h
  · exact h1 p h
  · exact Ne.symm (h2 p h)
theorem use_callT {w : World} {dep uns : Nat} {f : Addr} {vs : List Value} {tl fx : List (Addr × Obj)} {Post : Value → List (Addr × Obj) → Prop} {loose : List Str} {mean : ExcName → Option Value} {mg mb : Str → Option Value} {dp un : Nat} {gd : Option (List Code)} {cn : Str} {cs : Scope} {a : Addr} {ccd : Value} {cl : List (Str × Addr)} {outer : List Env} {A₀ : Around} {base h₀ : Heap} {L : Addr} {m : Str → Option Value} {s : Shared} {Q E : Value → Shared → Prop}
    (C : Call w dep uns f vs tl Post) (B : Below A₀ base outer h₀) (F : Fr h₀ L s.heap m) (X : (hd.heap_39 w.params).In h₀) (N : News h₀ L s.heap (fx ++ tl)) (T : Top topProg loose mean mg mb h₀) (hk : cs.kind = .function) (c1 : CodeHd base 41 37) (c2 : CodeHd base 34 30)
    (off : ∀ q ∈ fx, ∀ p ∈ tl, @Ne Nat q.1 p.1) (hd : dp + dep < recursionLimit) (hu : un + uns < cLine)
    (ret : ∀ v T' h' tk', Fr h₀ L h' m → News h₀ L h' (T' ++ fx) → (∀ q ∈ fx, ∀ p ∈ T', @Ne Nat q.1 p.1) → Post v T' → Q v { s with heap := h', toks := tk' }) :
    wpAny (model PySem.Challenge.rw_gl0008_01.row.prog w) (ktrTop dp un gd cn cs L a ccd cl outer) (call (.ref f) vs) Q E s :=
  use_call (U := tl) (rest := fx) C B F X N T hk c1 c2 (fun _ hp => List.mem_append_right _ hp) (fun _ hp => List.mem_append_left _ hp) off hd hu ret
def LedT (fx nw : List (Addr × Obj)) : Prop := ∃ tl, Tabs tl ∧ nw = fx ++ tl ∧ ∀ q ∈ fx, ∀ p ∈ tl, @Ne Nat q.1 p.1
theorem off3_new {I C D : Addr} {fx tl tl' : List (Addr × Obj)} (h : LCg.Off3 I C D (fx ++ tl)) (h1 : ∀ p ∈ tl', @Ne Nat I p.1) (h2 : ∀ p ∈ tl', @Ne Nat C p.1) (h3 : ∀ p ∈ tl', @Ne Nat D p.1) : LCg.Off3 I C D (fx ++ tl') :=
  LCg.Off3.of fun p hp => by
    rcases List.mem_append.mp hp with hp | hp
    · exact LCg.Off3.mem h p (List.mem_append_left _ hp)
    · exact ⟨Ne.symm (h1 p hp), Ne.symm (h2 p hp), Ne.symm (h3 p hp)⟩
theorem led_mk {h₀ h : Heap} {L : Addr} {fx tl : List (Addr × Obj)} (uN : News h₀ L h (fx ++ tl)) (ht : Tabs tl) (off : ∀ q ∈ fx, ∀ p ∈ tl, @Ne Nat q.1 p.1) : LedT fx (fx ++ tl) := ⟨tl, ht, rfl, off⟩
theorem bne_of {n : Int} {x : Bool} (h : x = decide (n = 1)) : ((n == 1) != x) = false := by rw [h]; exact bne_self_eq_false _
def LedS (fx tl : List (Addr × Obj)) : Prop := Tabs tl ∧ ∀ q ∈ fx, ∀ p ∈ tl, @Ne Nat q.1 p.1
theorem ledS_mk {h₀ h : Heap} {L : Addr} {fx tl : List (Addr × Obj)} (uN : News h₀ L h (fx ++ tl)) (ht : Tabs tl) (off : ∀ q ∈ fx, ∀ p ∈ tl, @Ne Nat q.1 p.1) : LedS fx tl := ⟨ht, off⟩
theorem off_split {fx t1 t2 : List (Addr × Obj)} (h : ∀ q ∈ fx, ∀ p ∈ t1 ++ t2, @Ne Nat q.1 p.1) (hne : ∀ p ∈ t1, ∀ q ∈ t2, @Ne Nat p.1 q.1) : ∀ q ∈ fx ++ t1, ∀ p ∈ t2, @Ne Nat q.1 p.1 := fun q hq p hp => by
  rcases List.mem_append.mp hq with hq | hq
  · exact h q hq p (List.mem_append_right _ hp)
  · exact hne q hq p hp
theorem tabs_split {tl : List (Addr × Obj)} (h : Tabs tl) : ∃ t1 t2, tl = t1 ++ t2 ∧ Tab 37 47 4 q41 t1 ∧ Tab 30 32 4 q34 t2 ∧ ∀ p ∈ t1, ∀ q ∈ t2, @Ne Nat p.1 q.1 := by
  cases h with
  | mk h1 h2 hne => exact ⟨_, _, rfl, h1, h2, hne⟩
theorem ledS_sub {fx fx' tl : List (Addr × Obj)} (h : LedS fx tl) (hs : ∀ q ∈ fx', q ∈ fx) : LedS fx' tl := ⟨h.1, fun q hq => h.2 q (hs q hq)⟩
theorem led_open {h₀ h : Heap} {L : Addr} {fx tl : List (Addr × Obj)} (N : News h₀ L h (fx ++ tl)) (hS : LedS fx tl) : ∃ tl', Tabs tl' ∧ News h₀ L h (fx ++ tl') ∧ ∀ q ∈ fx, ∀ p ∈ tl', @Ne Nat q.1 p.1 := ⟨tl, hS.1, N, hS.2⟩
theorem off_one {D : Addr} {o : Obj} {rest : List (Addr × Obj)} (h : ∀ q ∈ rest, @Ne Nat q.1 D) : ∀ q ∈ rest, ∀ p ∈ [(D, o)], @Ne Nat q.1 p.1 := fun q hq p hp => by
  rw [List.mem_singleton.mp hp]
  exact h q hq
end
section
section
variable {prog : Program} {w : World} {A : Around} {h₀ : Heap} {L : Addr} {m : Str → Option Value} {env : Env} {elt : Expr} {x : Str} {scope : Scope} {cl : List (Str × Addr)} {s : Shared} {Fin : List Value → List (Addr × Obj) → Prop} {news : List (Addr × Obj)}
def MapTurn (h₀ : Heap) (L : Addr) (m : Str → Option Value) (led : List (Addr × Obj)) (s₁ : Shared) (fk : Int) (y : Value) (s₂ : Shared) : Prop :=
  ∃ t' h' tk', y = .int fk t' ∧ s₂ = { s₁ with heap := h', toks := tk' } ∧ Fr h₀ L h' m ∧ News h₀ L h' led
theorem map_range {n : Nat} (f : Nat → Int)
    (turn : ∀ (k : Nat) t I oI C oC D m₂ ys h tk (E' : Value → Shared → Prop), k < n → LCg.NsObj oC m₂ → m₂ x = some (.int (0 + (k : Int)) t) → Fr h₀ L h m → News h₀ L h ((I, oI) :: (C, oC) :: (D, LCg.lst ys) :: news) → LCg.Off3 I C D news → ((@Ne Nat I C) ∧ (@Ne Nat I D) ∧ (@Ne Nat C D)) →
      wpAny (model prog w) A (eval elt (compEnvC scope cl C env)) (MapTurn h₀ L m ((I, oI) :: (C, oC) :: (D, LCg.lst ys) :: news) s (f k)) E' { s with heap := h, toks := tk })
    (fin : ∀ ys, IntsAre ys ((List.range n).map f) → Fin ys news) : LCg.CompRest prog w A h₀ L m env elt x scope cl s (fun _ => True) (fun i v => ∃ t, v = .int (0 + (i : Int)) t) Fin n 0 [] news := by
  have key : ∀ (j i : Nat) (ys : List Value), i + j = n → IntsAre ys ((List.range i).map f) → LCg.CompRest prog w A h₀ L m env elt x scope cl s (fun _ => True) (fun i v => ∃ t, v = .int (0 + (i : Int)) t) Fin j i ys news := by
    intro j
    induction j with
    | zero =>
      intro i ys hi hy
      have e : i = n := by omega
      subst e
      exact LCg.CompRest.zero (fin ys hy)
    | succ j ih =>
      intro i ys hi hy
      refine LCg.CompRest.succ ?_
      intro v I oI C oC D m₂ h tk E' hv hC hx F N off ne
      obtain ⟨t, rfl⟩ := hv
      refine wpAny_mono (turn i t I oI C oC D m₂ ys h tk E' (by omega) hC hx F N off ne) (fun y s₂ hq => ?_) fun _ _ e => e
      obtain ⟨t', h', tk', rfl, rfl, F', N'⟩ := hq
      refine ⟨h', tk', news, rfl, F', N', off, trivial, ih (i + 1) _ (by omega) ?_⟩
      rw [List.range_succ, List.map_append]
      exact IntsAre.append hy (.cons _ _ .nil)
  exact key n 0 [] (by omega) .nil
end
end
section
def sqs : List Int := [1, 4, 9, 16, 25, 36]
theorem upto (P : Int → Prop) [DecidablePred P] {n : Nat} (h : ∀ j : Fin (n + 1), P (j.val : Int)) {k : Int} (h0 : 0 ≤ k) (h1 : k ≤ n) : P k := by
  have := h ⟨k.toNat, by omega⟩
  rwa [show ((k.toNat : Nat) : Int) = k by omega] at this
theorem sq_bis {k : Int} (h1 : 1 ≤ k) (h2 : k ≤ 40) : 0 ≤ bis [1, 4, 9, 16, 25, 36] k ∧ bis [1, 4, 9, 16, 25, 36] k ≤ 6 :=
  upto (n := 40) (fun k => 0 ≤ bis [1, 4, 9, 16, 25, 36] k ∧ bis [1, 4, 9, 16, 25, 36] k ≤ 6) (by decide +kernel) (by omega) h2
theorem in_every {k b : Int} (h : k ∈ rangeKs 1 (b + 1 - 1).toNat) (hb : 0 ≤ b) : 1 ≤ k ∧ k ≤ b := by
  have := mem_rangeKs h
  omega
theorem open_tab : ((List.range 41).all fun b => (List.range 41).all fun k => (decide (b < 10) || (decide (k < 1) || (decide (b < k) || (openP (rangeKs 1 b) (k : Int) == (decide (bis [1, 4, 9, 16, 25, 36] (k : Int) < 6) && (([1, 4, 9, 16, 25, 36].getD (bis [1, 4, 9, 16, 25, 36] (k : Int)).toNat 0) == (k : Int))))))))  = true := by decide +kernel
theorem all_range {P : Nat → Bool} {n k : Nat} (h : (List.range n).all P = true) (hk : k < n) : P k = true := List.all_eq_true.mp h k (List.mem_range.mpr hk)
theorem ks_mem {b k : Int} (hb : 0 ≤ b) : k ∈ ks1 b.toNat ↔ 1 ≤ k ∧ k ≤ b := by
  simp only [ks1, List.mem_map, List.mem_range]
  constructor
  · rintro ⟨i, hi, rfl⟩
    omega
  · rintro ⟨h1, h2⟩
    exact ⟨(k - 1).toNat, by omega, by omega⟩
theorem any_eq {l : List Int} {k : Int} {p : Bool} (h : k ∈ l ↔ p = true) : l.any (fun x => x == k) = p := by
  cases hp : p with
  | true => rw [hp] at h; exact List.any_eq_true.mpr ⟨k, h.mpr rfl, beq_self_eq_true k⟩
  | false =>
    rw [hp] at h
    refine Bool.eq_false_iff.mpr fun ha => ?_
    obtain ⟨x, hx, e⟩ := List.any_eq_true.mp ha
    rw [eq_of_beq e] at hx
    exact Bool.false_ne_true (h.mp hx)
theorem open_any {b : Int} {ns : List Int} {k : Int} (h1 : 1 ≤ k) (h2 : k ≤ b) : (openL b ns).any (fun x => x == k) = openP ns k :=
  any_eq (by rw [openL, List.mem_filter, ks_mem (by omega)]; exact ⟨fun h => h.2, fun h => ⟨⟨h1, h2⟩, h⟩⟩)
theorem open_key {b k : Int} (hb1 : 10 ≤ b) (hb2 : b ≤ 40) (h1 : 1 ≤ k) (h2 : k ≤ b) :
    openP (rangeKs 1 (b + 1 - 1).toNat) k = (decide (bis [1, 4, 9, 16, 25, 36] k < 6) && (([1, 4, 9, 16, 25, 36].getD (bis [1, 4, 9, 16, 25, 36] k).toNat 0) == k)) := by
  have h := all_range (all_range open_tab (show b.toNat < 41 by omega)) (show k.toNat < 41 by omega)
  rw [show ((k.toNat : Nat) : Int) = k by omega, decide_eq_false (show ¬ b.toNat < 10 by omega), decide_eq_false (show ¬ k.toNat < 1 by omega), decide_eq_false (show ¬ b.toNat < k.toNat by omega)] at h
  simp only [Bool.false_or, beq_iff_eq] at h
  rw [show b + 1 - 1 = b by omega]
  exact h
theorem len_tab : ((List.range 41).all fun b => decide (b < 10) || ((openL (b : Int) (rangeKs 1 b)).length == ([1, 4, 9, 16, 25, 36].filter (fun k : Int => decide (k ≤ (b : Int)))).length)) = true := by decide +kernel
theorem len_key {b : Int} (hb1 : 10 ≤ b) (hb2 : b ≤ 40) : (openL b (rangeKs 1 (b + 1 - 1).toNat)).length = ([1, 4, 9, 16, 25, 36].filter (fun k : Int => decide (k ≤ b))).length := by
  have h := all_range len_tab (show b.toNat < 41 by omega)
  rw [show ((b.toNat : Nat) : Int) = b by omega, decide_eq_false (show ¬ b.toNat < 10 by omega)] at h
  simp only [Bool.false_or, beq_iff_eq] at h
  rw [show b + 1 - 1 = b by omega]
  exact h
theorem openL_len {b : Int} (hb : b ≤ 40) (ns : List Int) : (openL b ns).length ≤ 40 := Nat.le_trans (List.length_filter_le _ _) (by simp only [ks1, List.length_map, List.length_range]; omega)
theorem divs_len {d : Int} (hb : d ≤ 40) : (divs d).length ≤ 40 := Nat.le_trans (List.length_filter_le _ _) (by simp only [ks1, List.length_map, List.length_range]; omega)
theorem tau_key {d : Int} (h1 : 1 ≤ d) (h2 : d ≤ 40) : ((divs d).length : Int) = tau d := by
  have h := upto (n := 40) (fun d => d = 0 ∨ ((divs d).length : Int) = tau d) (by decide +kernel) (by omega) h2
  rcases h with h | h
  · omega
  · exact h
theorem par_tab : ((List.range 41).all fun b => (List.range 41).all fun k => (decide (b < 10) || (decide (k < 1) || (decide (b < k) || (openP (rangeKs 1 b) (k : Int) == decide (((divs (k : Int)).length : Int).fmod 2 = 1)))))) = true := by decide +kernel
theorem par_key {b k : Int} (hb1 : 10 ≤ b) (hb2 : b ≤ 40) (h1 : 1 ≤ k) (h2 : k ≤ b) :
    (openL b (rangeKs 1 (b + 1 - 1).toNat)).any (fun x => x == k) = decide (((divs k).length : Int).fmod 2 = 1) := by
  rw [open_any h1 h2]
  have h := all_range (all_range par_tab (show b.toNat < 41 by omega)) (show k.toNat < 41 by omega)
  rw [show ((k.toNat : Nat) : Int) = k by omega, decide_eq_false (show ¬ b.toNat < 10 by omega), decide_eq_false (show ¬ k.toNat < 1 by omega), decide_eq_false (show ¬ b.toNat < k.toNat by omega)] at h
  simp only [Bool.false_or, beq_iff_eq] at h
  rw [show b + 1 - 1 = b by omega]
  exact h
theorem mem_divs {d k : Int} (hd : 0 ≤ d) : k ∈ divs d ↔ (1 ≤ k ∧ k ≤ d) ∧ d % k = 0 := by
  rw [divs, List.mem_filter, ks_mem hd, decide_eq_true_eq]
theorem pair_key {d k : Int} (hd : 1 ≤ d) (hk : k ∈ divs d) : (1 ≤ k ∧ k ≤ d) ∧ (divs d).any (fun x => x == d / k) = true ∧ k * (d / k) = d := by
  obtain ⟨⟨h1, h2⟩, h3⟩ := (mem_divs (by omega)).mp hk
  have e : k * (d / k) = d := by have := Int.mul_ediv_add_emod d k; omega
  have e' : d / k * k = d := by rw [Int.mul_comm]; exact e
  have hq : 1 ≤ d / k := by
    rcases Int.lt_or_le (d / k) 1 with h | h
    · have : k * (d / k) ≤ 0 := Int.mul_nonpos_of_nonneg_of_nonpos (by omega) (by omega)
      omega
    · exact h
  refine ⟨⟨h1, h2⟩, List.any_eq_true.mpr ⟨d / k, (mem_divs (by omega)).mpr ⟨⟨hq, ?_⟩, ?_⟩, beq_self_eq_true _⟩, e⟩
  · have : 1 * (d / k) ≤ k * (d / k) := Int.mul_le_mul_of_nonneg_right h1 (by omega)
    omega
  · exact Int.emod_eq_zero_of_dvd ⟨k, e'.symm⟩
theorem filter_none (l : List Int) : l.filter (fun _ => false) = [] := List.filter_eq_nil_iff.mpr fun _ _ h => Bool.false_ne_true h
def nbits (d : Int) : Nat := ((↑(Builtin.Int.intBits d) + 1 - 1 : Int).fdiv 1).toNat
theorem dig_key {d : Int} (h1 : 1 ≤ d) (h2 : d ≤ 40) : (↑(Builtin.Int.intBits d) + 1 - 1 : Int).fdiv 1 = (nbits d : Int) ∧ 1 ≤ nbits d ∧ nbits d ≤ 6 ∧ wrOk 1 (nbits d) (nbits d) d = true := by
  have h := upto (n := 40) (fun d => d = 0 ∨ ((↑(Builtin.Int.intBits d) + 1 - 1 : Int).fdiv 1 = (nbits d : Int) ∧ 1 ≤ nbits d ∧ nbits d ≤ 6 ∧ wrOk 1 (nbits d) (nbits d) d = true)) (by decide +kernel) (by omega) h2
  rcases h with h | h
  · omega
  · exact h
theorem pow_key {d : Int} (h1 : 1 ≤ d) (h2 : d ≤ 40) : (((wr 1 (nbits d) (nbits d) d).sum == 1) != decide (divs d = List.map (fun k : Nat => (2 : Int) ^ k) (List.range ((nbits d : Int) - 0).toNat))) = false := by
  have h := upto (n := 40) (fun d => d = 0 ∨ (((wr 1 (nbits d) (nbits d) d).sum == 1) != decide (divs d = List.map (fun k : Nat => (2 : Int) ^ k) (List.range ((nbits d : Int) - 0).toNat))) = false) (by decide +kernel) (by omega) h2
  rcases h with h | h
  · omega
  · exact h
theorem one_tab : ((List.range 41).all fun b => (List.range 41).all fun e => (decide (e < 1) || (decide (b < e) || ((rangeKs 1 b).filter (fun j => decide (j = (e : Int))) == [(e : Int)])))) = true := by decide +kernel
theorem one_key {b e : Int} (hb : b ≤ 40) (h1 : 1 ≤ e) (h2 : e ≤ b) : (rangeKs 1 (b + 1 - 1).toNat).filter (fun j => decide (j = e)) = [e] := by
  have h := all_range (all_range one_tab (show b.toNat < 41 by omega)) (show e.toNat < 41 by omega)
  rw [show ((e.toNat : Nat) : Int) = e by omega, decide_eq_false (show ¬ e.toNat < 1 by omega), decide_eq_false (show ¬ b.toNat < e.toNat by omega)] at h
  simp only [Bool.false_or, beq_iff_eq] at h
  rw [show b + 1 - 1 = b by omega]
  exact h
theorem part_len (q : Int → Bool) (e : Int) : ∀ l : List Int, (l.filter q).length = ((l.filter (fun j => decide (j ≠ e))).filter q).length + ((l.filter (fun j => decide (j = e))).filter q).length
  | [] => rfl
  | a :: l => by
    have ih := part_len q e l
    by_cases ha : a = e <;> cases hq : q a <;> simp [ha, hq, List.filter_cons] at ih ⊢ <;> simp_all <;> omega
theorem flip_key {b k e : Int} (hb : b ≤ 40) (h1 : 1 ≤ k) (h2 : k ≤ b) (e1 : 1 ≤ e) (e2 : e ≤ b) :
    (((openL b (rangeKs 1 (b + 1 - 1).toNat)).any (fun x => x == k) != (openL b ((rangeKs 1 (b + 1 - 1).toNat).filter (fun j => decide (j ≠ e)))).any (fun x => x == k)) != (k.fmod e == 0)) = false := by
  rw [open_any h1 h2, open_any h1 h2]
  have hp := part_len (fun j => decide (j ≤ k) && decide (k.fmod j = 0)) e (rangeKs 1 (b + 1 - 1).toNat)
  rw [one_key hb e1 e2] at hp
  change cnt _ k = cnt _ k + _ at hp
  unfold openP
  rw [hp]
  generalize cnt ((rangeKs 1 (b + 1 - 1).toNat).filter (fun j => decide (j ≠ e))) k = c
  by_cases hz : k.fmod e = 0
  · have hle : e ≤ k := by
      rcases Int.lt_or_le k e with h | h
      · rw [Int.fmod_eq_emod_of_nonneg _ (by omega), Int.emod_eq_of_lt (by omega) h] at hz
        omega
      · exact h
    have e9 : ([e].filter (fun j => decide (j ≤ k) && decide (k.fmod j = 0))).length = 1 := by simp [hz, hle]
    rw [e9, Int.fmod_eq_emod_of_nonneg _ (by decide), Int.fmod_eq_emod_of_nonneg _ (by decide)]
    have hk0 : (k.fmod e == 0) = true := by rw [hz]; rfl
    rw [hk0]
    by_cases hc : ((c : Nat) : Int) % 2 = 1
    · rw [decide_eq_true hc, decide_eq_false (show ¬ ((c + 1 : Nat) : Int) % 2 = 1 by omega)]; rfl
    · rw [decide_eq_false hc, decide_eq_true (show ((c + 1 : Nat) : Int) % 2 = 1 by omega)]; rfl
  · have e9 : ([e].filter (fun j => decide (j ≤ k) && decide (k.fmod j = 0))).length = 0 := by simp [hz]
    have hk0 : (k.fmod e == 0) = false := beq_eq_false_iff_ne.mpr hz
    rw [e9, hk0, Nat.add_zero]
    cases decide (((c : Nat) : Int).fmod 2 = 1) <;> rfl
end
section
/-- what the law's frame comes to -/
def LawEnd (h₀ : Heap) (L : Addr) (s : Shared) (fl : Flow) (s' : Shared) : Prop := fl = .ret (.bool true) ∧ ∃ h' tk m' tl, s' = { s with heap := h', toks := tk } ∧ Fr h₀ L h' m' ∧ News h₀ L h' tl ∧ Tabs tl
theorem law_mono {M : Model} {A : Around} {t : Sem Flow} {Q : Flow → Shared → Prop} {E : Value → Shared → Prop} {s : Shared} {h₀ : Heap} {L : Addr} {m : Str → Option Value} (uF₀ : Fr h₀ L s.heap m)
    (main : wpAny M A t (LawEnd h₀ L s) (fun _ _ => False) s) (post : ∀ h' tk' m' tl, Fr h₀ L h' m' → News h₀ L h' tl → Tabs tl → Q (.ret (.bool true)) { s with heap := h', toks := tk' }) : wpAny M A t Q E s :=
  wpAny_mono main (fun fl s' hq => by
    obtain ⟨rfl, h9, tk9, m9, tl9, rfl, F9, N9, ht9⟩ := hq
    exact post h9 tk9 m9 tl9 F9 N9 ht9) fun _ _ e => e.elim
local macro_rules | `(tactic| walk_at "call ref") => `(tactic| (k_here; (first | (with_reducible show wpAny _ _ (call (Value.ref 65) _) _ _ _) | (with_reducible show wpAny _ _ (call (Value.ref 74) _) _ _ _) | (with_reducible show wpAny _ _ (call (Value.ref 84) _) _ _ _) | (with_reducible show wpAny _ _ (call (Value.ref 79) _) _ _ _) | (with_reducible show wpAny _ _ (call (Value.ref 91) _) _ _ _) | (with_reducible show wpAny _ _ (call (Value.ref 56) _) _ _ _) | (with_reducible show wpAny _ _ (call (Value.ref 35) _) _ _ _)); refine Stop.out ?_))
local macro_rules | `(tactic| walk_at "eval ListComp") => `(tactic| (k_here; refine Stop.out ?_))
local macro_rules | `(tactic| walk_at "CompSrcT") => `(tactic| (k_here; refine Stop.out ?_))
local macro_rules | `(tactic| walk_at "exec For") => `(tactic| (k_here; (with_reducible show wpAny _ _ (exec (Stmt.For (Expr.Name _ _) (Expr.Name _ _) _ [] _) _) _ _ _); refine Stop.out ?_))
local macro_rules | `(tactic| walk_at "ForSrc") => `(tactic| (k_here; refine Stop.out ?_))
local macro_rules | `(tactic| walk_at "mine off") => `(tactic| ((repeat (refine List.forall_mem_cons.mpr ⟨List.forall_mem_cons.mpr ⟨neN (by omega), List.forall_mem_nil _⟩, ?_⟩)); exact List.forall_mem_nil _))
local macro_rules | `(tactic| walk_at "mine off1") => `(tactic| ((repeat (refine List.forall_mem_cons.mpr ⟨neN (by omega), ?_⟩)); exact List.forall_mem_nil _))
local macro_rules | `(tactic| walk_at "compareOp In int ref") => `(tactic| (k_here; k_dflt (refine' in_led ?N ?m ?i ?_; (case N => k_asm); (case m => k_mem); (case i => assumption))))
local macro_rules | `(tactic| walk_at "compareOp NotIn int ref") => `(tactic| (k_here; k_dflt (refine' notin_led ?N ?m ?i ?_; (case N => k_asm); (case m => k_mem); (case i => assumption))))
local macro_rules | `(tactic| walk_at "mine off2") => `(tactic| ((repeat (refine List.forall_mem_cons.mpr ⟨List.forall_mem_cons.mpr ⟨neN (by omega), List.forall_mem_cons.mpr ⟨neN (by omega), List.forall_mem_nil _⟩⟩, ?_⟩)); exact List.forall_mem_nil _))
local macro_rules | `(tactic| walk_at "CompSrc") => `(tactic| (k_here; refine Stop.out ?_))
theorem law_all : PySem.Challenge.rw_gl0008_01.Holds := hd (by
  k_go0
  (rename Fr _ _ _ _ => F0)
  refine law_mono F0 ?main ?post
  case post =>
    intro h9 tk9 m9 tl9 F9 N9 ht9
    cases ht9 with
    | mk ta tb hne =>
    cases ta <;> cases tb <;> simp only [List.cons_append, List.nil_append] at N9 <;> clear F0 <;> dsimp only
    all_goals k_steps
  case main =>
    k_with_none
    (try k_fold)
    k_steps
    unfold Stop
    (rename News _ _ _ _ => N9)
    replace N9 := News.up2 N9
    refine use_call (U := [_]) (insort_call _ _ _ _ _ _ _ .nil (by decide)) (by k_asm) (by k_asm) (by k_asm) N9 (by k_asm) rfl (by assumption) (by assumption) (List.forall_mem_cons.mpr ⟨.head _, List.forall_mem_nil _⟩) (fun _ h => .tail _ h) ?_ ?_ ?_ ?_
    · walk_at "mine off"
    · ktr_room
    · ktr_units
    rintro v T' h3 tk3 F3 N3 off3 ⟨rfl, vs9, rfl, hi9⟩
    clear N9
    k_steps
    unfold Stop
    (rename News _ _ _ _ => N9)
    replace N9 := News.sw N9
    refine use_call (U := [_]) (insort_call _ _ _ _ _ _ _ hi9 (by decide)) (by k_asm) (by k_asm) (by k_asm) N9 (by k_asm) rfl (by assumption) (by assumption) (List.forall_mem_cons.mpr ⟨.head _, List.forall_mem_nil _⟩) (fun _ h => .tail _ h) ?_ ?_ ?_ ?_
    · walk_at "mine off"
    · ktr_room
    · ktr_units
    rintro v T' h3 tk3 F3 N3 off3 ⟨rfl, vs9, rfl, hi9⟩
    clear N9
    k_steps
    unfold Stop
    (rename News _ _ _ _ => N9)
    replace N9 := News.sw N9
    refine use_call (U := [_]) (insort_call _ _ _ _ _ _ _ hi9 (by decide)) (by k_asm) (by k_asm) (by k_asm) N9 (by k_asm) rfl (by assumption) (by assumption) (List.forall_mem_cons.mpr ⟨.head _, List.forall_mem_nil _⟩) (fun _ h => .tail _ h) ?_ ?_ ?_ ?_
    · walk_at "mine off"
    · ktr_room
    · ktr_units
    rintro v T' h3 tk3 F3 N3 off3 ⟨rfl, vs9, rfl, hi9⟩
    clear N9
    k_steps
    unfold Stop
    (rename News _ _ _ _ => N9)
    replace N9 := News.sw N9
    refine use_call (U := [_]) (insort_call _ _ _ _ _ _ _ hi9 (by decide)) (by k_asm) (by k_asm) (by k_asm) N9 (by k_asm) rfl (by assumption) (by assumption) (List.forall_mem_cons.mpr ⟨.head _, List.forall_mem_nil _⟩) (fun _ h => .tail _ h) ?_ ?_ ?_ ?_
    · walk_at "mine off"
    · ktr_room
    · ktr_units
    rintro v T' h3 tk3 F3 N3 off3 ⟨rfl, vs9, rfl, hi9⟩
    clear N9
    k_steps
    unfold Stop
    (rename News _ _ _ _ => N9)
    replace N9 := News.sw N9
    refine use_call (U := [_]) (insort_call _ _ _ _ _ _ _ hi9 (by decide)) (by k_asm) (by k_asm) (by k_asm) N9 (by k_asm) rfl (by assumption) (by assumption) (List.forall_mem_cons.mpr ⟨.head _, List.forall_mem_nil _⟩) (fun _ h => .tail _ h) ?_ ?_ ?_ ?_
    · walk_at "mine off"
    · ktr_room
    · ktr_units
    rintro v T' h3 tk3 F3 N3 off3 ⟨rfl, vs9, rfl, hi9⟩
    clear N9
    k_steps
    unfold Stop
    (rename News _ _ _ _ => N9)
    replace N9 := News.sw N9
    refine use_call (U := [_]) (insort_call _ _ _ _ _ _ _ hi9 (by decide)) (by k_asm) (by k_asm) (by k_asm) N9 (by k_asm) rfl (by assumption) (by assumption) (List.forall_mem_cons.mpr ⟨.head _, List.forall_mem_nil _⟩) (fun _ h => .tail _ h) ?_ ?_ ?_ ?_
    · walk_at "mine off"
    · ktr_room
    · ktr_units
    rintro v T' h3 tk3 F3 N3 off3 ⟨rfl, vs9, rfl, hi9⟩
    clear N9
    k_steps
    unfold Stop
    (rename News _ _ _ _ => N9)
    (rename News _ _ _ _ => N9)
    (rename List Int => xs)
    have hb1 : 10 ≤ 10 + xs.sum.fmod 31 := by
      have := Int.fmod_nonneg_of_pos xs.sum (by decide : (0 : Int) < 31)
      omega
    have hb2 : 10 + xs.sum.fmod 31 ≤ 40 := by
      have := Int.fmod_lt_of_pos xs.sum (by decide : (0 : Int) < 31)
      omega
    (rename IntsAre _ (ins _ _) => hi9)
    replace hi9 := ia_to (b := [1, 4, 9, 16, 25, 36]) hi9 (by decide +kernel)
    (rename IntsAre _ (rangeKs _ _) => hev)
    have hns : ∀ k ∈ rangeKs 1 (10 + xs.sum.fmod 31 + 1 - 1).toNat, 1 ≤ k := fun k hk => (mem_rangeKs hk).1
    have hlen : (rangeKs 1 (10 + xs.sum.fmod 31 + 1 - 1).toNat).length ≤ 40 := by rw [rangeKs_length]; omega
    refine use_call (U := [_]) (open_call _ _ _ _ _ _ _ hev (by omega) hb2 hns hlen) (by k_asm) (by k_asm) (by k_asm) N9 (by k_asm) rfl (by assumption) (by assumption) (List.forall_mem_cons.mpr ⟨.head _, List.forall_mem_nil _⟩) (fun _ h => .tail _ h) ?_ ?_ ?_ ?_
    · walk_at "mine off"
    · ktr_room
    · ktr_units
    rintro v T' h3 tk3 F3 N3 off3 ⟨D5, ys5, rfl, rfl, hI5, hne5⟩
    simp only [List.forall_mem_cons, List.not_mem_nil, false_implies, implies_true, and_true] at off3
    try simp only [List.cons_append, List.nil_append] at N3
    clear N9
    k_steps
    unfold Stop
    (rename News _ _ _ _ => N9)
    (rename News _ _ _ _ => N9)
    (rename IntsAre _ (openL _ _) => hI5)
    (rename IntsAre _ [1, 4, 9, 16, 25, 36] => hi9)
    (rename IntsAre _ (rangeKs _ _) => hev)
    (rename List Int => xs)
    (rename 10 ≤ 10 + _ => hb1)
    (rename 10 + _ ≤ 40 => hb2)
    refine For_cell (Str.ofString "place") (by k_asm) ?_
    k_steps
    unfold Stop
    have N8 := news_pick 7 rfl (news_pick 1 rfl N9)
    simp only [List.eraseIdx_cons_zero, List.eraseIdx_cons_succ] at N8
    refine ⟨_, _, _, _, none, _, _, _, _, _, rfl, rfl, rfl, by k_asm, N8, rfl, by assumption, hev, neN (by omega), ?_, rfl, by rfl, by rfl, ?turn3, ?fin3⟩
    · walk_at "mine off1"
    case turn3 =>
      intro k t I oI oc pv h tk E' hk hoc F8 N7 hIoff
      clear N8 N9
      have N9 := news_pick 4 rfl N7
      simp only [List.eraseIdx_cons_zero, List.eraseIdx_cons_succ] at N9
      clear N7
      simp only [List.forall_mem_cons, List.not_mem_nil, false_implies, implies_true, and_true] at hIoff
      dsimp only
      k_steps
      unfold Stop
      have hk12 := in_every hk (by omega)
      have hbs := sq_bis hk12.1 (by omega)
      refine use_call (U := [_]) (bisect_call _ _ _ _ _ _ _ hi9 (by decide)) (by k_asm) (by k_asm) (by k_asm) N9 (by k_asm) rfl (by assumption) (by assumption) (List.forall_mem_cons.mpr ⟨.head _, List.forall_mem_nil _⟩) (fun _ h => .tail _ h) ?_ ?_ ?_ ?_
      · walk_at "mine off"
      · ktr_room
      · ktr_units
      rintro v T' h3 tk3 F3 N3 off3 ⟨rfl, t3, rfl⟩
      clear N9
      have hkey := (open_any (b := 10 + xs.sum.fmod 31) (ns := rangeKs 1 (10 + xs.sum.fmod 31 + 1 - 1).toNat) hk12.1 hk12.2).trans (open_key hb1 hb2 hk12.1 hk12.2)
      have hA : bis [1, 4, 9, 16, 25, 36] k < ((1 + 1 + 1 + 1 + 1 + 1 : Nat) : Int) → (((openL (10 + xs.sum.fmod 31) (rangeKs 1 (10 + xs.sum.fmod 31 + 1 - 1).toNat)).any fun x => x == k) != ([1, 4, 9, 16, 25, 36].getD (bis [1, 4, 9, 16, 25, 36] k).toNat 0 == k)) = false := fun a => by
        rw [hkey, decide_eq_true (show bis [1, 4, 9, 16, 25, 36] k < 6 by omega), Bool.true_and, bne_self_eq_false]
      have hB : ¬ bis [1, 4, 9, 16, 25, 36] k < ((1 + 1 + 1 + 1 + 1 + 1 : Nat) : Int) → (((openL (10 + xs.sum.fmod 31) (rangeKs 1 (10 + xs.sum.fmod 31 + 1 - 1).toNat)).any fun x => x == k) != decide (bis [1, 4, 9, 16, 25, 36] k < ((1 + 1 + 1 + 1 + 1 + 1 : Nat) : Int))) = false := fun a => by
        rw [hkey, decide_eq_false (show ¬ bis [1, 4, 9, 16, 25, 36] k < 6 by omega), Bool.false_and, decide_eq_false a, bne_self_eq_false]
      clear hkey
      have hsz9 := List.size_toArray.trans hi9.length
      k_steps
      · exact absurd (hA (by assumption)) (not_both (by assumption))
      · exact ⟨rfl, _, _, _, rfl, fr_over (by assumption), news_sub (by assumption) in5⟩
      · exact absurd (hB (by assumption)) (not_both (by assumption))
      · exact ⟨rfl, _, _, _, rfl, fr_over (by assumption), news_sub (by assumption) in5⟩
    intro oc cv pv h tk hoc F8 N7
    clear N8 N9
    dsimp only
    have N9 := N7
    clear N7
    (rename News _ _ _ _ => N9)
    (rename Fr _ _ _ _ => F9)
    (rename IntsAre _ (openL _ _) => hI5)
    (rename IntsAre _ [1, 4, 9, 16, 25, 36] => hi9)
    (rename IntsAre _ (rangeKs _ _) => hev)
    (rename List Int => xs)
    (rename 10 ≤ 10 + _ => hb1)
    (rename 10 + _ ≤ 40 => hb2)
    have hszL := List.size_toArray.trans hI5.length
    have hszL40 := openL_len hb2 (rangeKs 1 (10 + xs.sum.fmod 31 + 1 - 1).toNat)
    k_steps
    unfold Stop
    refine LCt.ListComp_T (F₀ := F9) (by with_unfolding_all rfl) (by decide) (by rfl) (by decide) (by rfl) ?_
    k_steps
    unfold Stop
    refine LCt.CompSrcT.ledger (by rfl) F9 N9 (.tail _ (.tail _ (.tail _ (.head _)))) (by rw [PySem.sizeLine_eq, List.size_toArray, hi9.length]; decide) ?_
    intro g9
    refine filt_list hi9 (fun k => decide (k ≤ 10 + xs.sum.fmod 31)) (Eq _) (fun _ => by rfl) (fun _ => by rfl) (by decide) ?turn4 ?fin4 rfl
    case turn4 =>
      rintro j tj I2 oI2 C2 oC2 D2 m₂ ys2 news2 h8 tk8 E8 hj rfl hC2 hx2 F8 N8 off2 ne2
      k_steps
      refine ⟨?_, _, _, _, rfl, F8, N8, off2, .inr ⟨_, .tail _ (.tail _ (.tail _ (.head _))), rfl, _, rfl⟩, rfl⟩
      rfl
    rintro ys2 news2 rfl hI2
    have hsz2 := List.size_toArray.trans (hI2.length.trans (len_key hb1 hb2).symm)
    k_steps
    · (rename @Ne Int _ _ => hne)
      exact absurd rfl hne
    unfold Stop
    (try clear N9)
    (try clear F9)
    clear hsz2 hszL hszL40
    (rename News _ _ _ _ => N8)
    (rename _ = Data.cell (some (Value.int (1 + _) _)) => dcell)
    have hd1 : 1 ≤ 1 + ((xs ++ [0]).getD (Int.toNat 0) 0).fmod (10 + xs.sum.fmod 31) := by
      have := Int.fmod_nonneg_of_pos ((xs ++ [0]).getD (Int.toNat 0) 0) (show 0 < 10 + xs.sum.fmod 31 by omega)
      omega
    have hd2 : 1 + ((xs ++ [0]).getD (Int.toNat 0) 0).fmod (10 + xs.sum.fmod 31) ≤ 10 + xs.sum.fmod 31 := by
      have := Int.fmod_lt_of_pos ((xs ++ [0]).getD (Int.toNat 0) 0) (show 0 < 10 + xs.sum.fmod 31 by omega)
      omega
    dsimp only at dcell
    generalize 1 + ((xs ++ [0]).getD (Int.toNat 0) 0).fmod (10 + xs.sum.fmod 31) = d at dcell hd1 hd2 ⊢
    have N9 := news_pick 9 rfl (news_pick 9 rfl (news_erase 3 (news_erase 3 (drop1 (drop1 (drop1 N8))))))
    clear N8
    simp only [List.eraseIdx_cons_zero, List.eraseIdx_cons_succ] at N9
    (rename News _ _ _ _ => N9)
    (rename IntsAre _ (openL _ _) => hI5)
    (rename IntsAre _ (rangeKs _ _) => hev)
    (rename List Int => xs)
    (rename 10 ≤ 10 + _ => hb1)
    (rename 10 + _ ≤ 40 => hb2)
    (rename _ = Data.cell (some (Value.int _ _)) => dcell)
    (rename 1 ≤ _ => hd1)
    (rename Int => d)
    (rename _ ≤ 10 + _ => hd2)
    refine use_call (U := [_, _]) (turners_call _ _ _ hd1 (by omega) _ tabs0) (by k_asm) (by k_asm) (by k_asm) N9 (by k_asm) rfl (by assumption) (by assumption) (List.forall_mem_cons.mpr ⟨.head _, List.forall_mem_cons.mpr ⟨.tail _ (.head _), List.forall_mem_nil _⟩⟩) (fun _ h => .tail _ (.tail _ h)) ?_ ?_ ?_ ?_
    · walk_at "mine off2"
    · ktr_room
    · ktr_units
    rintro v T' h3 tk3 F3 N3 off3 ⟨DT, ysT, tlT, rfl, rfl, hIT, htT, hoT⟩
    simp only [List.forall_mem_cons, List.not_mem_nil, false_implies, implies_true, and_true] at off3
    obtain ⟨⟨o1, gDoor⟩, ⟨o2, gEvery⟩, ⟨o3, gL5⟩, ⟨o4, gOther⟩, ⟨o5, gOut⟩, ⟨o6, gTurn⟩, ⟨o7, gLeft⟩, o8, gBound⟩ := off3
    clear N9
    have N9 := news_rot N3
    clear N3
    simp only [List.cons_append, List.nil_append] at N9
    k_steps
    have N8 := news_pick 6 rfl N9
    clear N9
    simp only [List.eraseIdx_cons_zero, List.eraseIdx_cons_succ] at N8
    refine storeC (by k_asm) N8 (by assumption) ?_ rfl (by rfl) (by rfl) ?_
    · (repeat (refine List.forall_mem_cons.mpr ⟨neN (by omega), ?_⟩)); exact fun p hp => Ne.symm (gTurn p hp)
    clear N8
    intro h3 oT F3 N9 hoTurn
    have hszT := List.size_toArray.trans hIT.length
    have hszT40 := divs_len (show d ≤ 40 by omega)
    k_steps
    unfold Stop
    refine use_call (U := []) (told_call _ d _ hd1 (by omega)) (by k_asm) (by k_asm) (by k_asm) N9 (by k_asm) rfl (by assumption) (by assumption) (List.forall_mem_nil _) (fun _ h => h) ?_ ?_ ?_ ?_
    · exact fun _ _ _ h => nomatch h
    · ktr_room
    · ktr_units
    rintro v T' h3 tk3 F3 N3 off3 ⟨rfl, t3, rfl⟩
    clear N9
    simp only [List.nil_append] at N3
    k_steps
    · exact absurd (tau_key hd1 (by omega)) (by assumption)
    · exact absurd (bne_of (par_key hb1 hb2 hd1 hd2)) (not_both (by assumption))
    unfold Stop
    clear hszT
    (rename News _ _ _ _ => N9)
    have hJ0 := led_mk (fx := [_, _, _, _, _, _, _, _, _]) N9 htT (List.forall_mem_cons.mpr ⟨gTurn, List.forall_mem_cons.mpr ⟨fun p hp => Ne.symm (hoT p hp), List.forall_mem_cons.mpr ⟨gDoor, List.forall_mem_cons.mpr ⟨gEvery, List.forall_mem_cons.mpr ⟨gL5, List.forall_mem_cons.mpr ⟨gOther, List.forall_mem_cons.mpr ⟨gOut, List.forall_mem_cons.mpr ⟨gLeft, List.forall_mem_cons.mpr ⟨gBound, List.forall_mem_nil _⟩⟩⟩⟩⟩⟩⟩⟩⟩)
    clear gTurn gDoor gEvery gL5 gOther gOut gLeft gBound hoT htT
    (rename News _ _ _ _ => N9)
    (rename Fr _ _ _ _ => F9)
    (rename IntsAre _ (openL _ _) => hI5)
    (rename IntsAre _ (rangeKs _ _) => hev)
    (rename IntsAre _ (divs _) => hIT)
    (rename List Int => xs)
    (rename 10 ≤ 10 + _ => hb1)
    (rename 10 + _ ≤ 40 => hb2)
    (rename 1 ≤ _ => hd1)
    (rename _ ≤ 10 + _ => hd2)
    (rename LedT _ _ => hJ0)
    (rename (divs _).length ≤ 40 => hszT40)
    (rename Int => d)
    refine LCt.ListComp_T (F₀ := F9) (by with_unfolding_all rfl) (by decide) (by rfl) (by decide) (by rfl) ?_
    k_steps
    unfold Stop
    refine LCt.CompSrcT.ledger (by rfl) F9 N9 (.tail _ (.head _)) (by rw [PySem.sizeLine_eq, List.size_toArray, hIT.length]; omega) ?_
    intro g9
    refine filt_list hIT (fun _ => false) (LedT _) (fun _ => by rfl) (fun _ => by rfl) (by decide) ?turn6 ?fin6 hJ0
    case turn6 =>
      rintro k tk I oI C oC D m₂ ys news h8 tk8 E8 hk ⟨tl₂, ht₂, rfl, hoff₂⟩ hC2 hx2 F8 N8 off2 ne2
      obtain ⟨hk12, hpk, hmk⟩ := pair_key hd1 hk
      simp only [List.cons_append, List.nil_append] at N8
      k_steps
      unfold Stop
      have o9 := fun p hp => LCg.Off3.mem off2 p (List.mem_append_right _ hp)
      refine use_callT (fx := [_, _, _, _, _, _, _, _, _, _, _, _]) (tl := tl₂) (divm_call _ d k _ _ hd1 (by omega) hk12.1 (by omega) tl₂ ht₂) (by k_asm) F8 (by k_asm) N8 (by k_asm) rfl (by assumption) (by assumption) (List.forall_mem_cons.mpr ⟨fun p hp => Ne.symm (o9 p hp).1, List.forall_mem_cons.mpr ⟨fun p hp => Ne.symm (o9 p hp).2.1, List.forall_mem_cons.mpr ⟨fun p hp => Ne.symm (o9 p hp).2.2, hoff₂⟩⟩⟩) ?_ ?_ ?_
      · ktr_room
      · ktr_units
      clear o9 hoff₂
      rintro v T' h3 tk3 F3 N3 off3 ⟨q, t1, t2, tl₃, rfl, rfl, htl₃, hq₃⟩
      clear N8
      replace off3 := fun a ha p (hp : p ∈ tl₃) => off3 a ha p (.tail _ hp)
      have N9 := news_rot N3
      clear N3
      simp only [List.cons_append, List.nil_append] at N9
      k_steps
      unfold Stop
      have N8 := drop1 N9
      clear N9
      refine use_callT (fx := [_, _, _, _, _, _, _, _, _, _, _, _]) (tl := tl₃) (divm_call _ d k _ _ hd1 (by omega) hk12.1 (by omega) tl₃ htl₃) (by k_asm) F3 (by k_asm) N8 (by k_asm) rfl (by assumption) (by assumption) off3 ?_ ?_ ?_
      · ktr_room
      · ktr_units
      clear off3 hq₃
      rintro v T' h4 tk4 F4 N4 off4 ⟨q₂, t3, t4, tl₄, rfl, rfl, htl₄, hq₄⟩
      clear N8
      replace off4 := fun a ha p (hp : p ∈ tl₄) => off4 a ha p (.tail _ hp)
      have N9 := news_rot N4
      clear N4
      simp only [List.cons_append, List.nil_append] at N9
      k_steps
      · exact absurd hmk (by assumption)
      refine ⟨rfl, h4, _, _ ++ tl₄, rfl, F4, ?nn, off3_new off2 (off4 _ (.head _)) (off4 _ (.tail _ (.head _))) (off4 _ (.tail _ (.tail _ (.head _)))), .inr ⟨_, .tail _ (.head _), rfl, _, rfl⟩, ⟨tl₄, htl₄, rfl, fun a ha => off4 a (.tail _ (.tail _ (.tail _ ha)))⟩⟩
      exact drop1 N9
    rintro ys2 news2 ⟨tl₂, ht₂, rfl, hoff₂⟩ hI2
    clear N9 hJ0
    rw [filter_none] at hI2
    cases hI2
    simp only [List.cons_append, List.nil_append]
    k_steps
    unfold Stop
    (rename News _ _ _ _ => N8)
    have N9 := drop1 (drop1 N8)
    clear N8
    have hS := ledS_mk (fx := [_, _, _, _, _, _, _, _, _]) N9 ht₂ hoff₂
    clear ht₂ hoff₂
    (rename News _ _ _ _ => N9)
    (rename IntsAre _ (openL _ _) => hI5)
    (rename IntsAre _ (rangeKs _ _) => hev)
    (rename IntsAre _ (divs _) => hIT)
    (rename List Int => xs)
    (rename 10 ≤ 10 + _ => hb1)
    (rename 10 + _ ≤ 40 => hb2)
    (rename 1 ≤ _ => hd1)
    (rename _ ≤ 10 + _ => hd2)
    (rename LedS _ _ => hS)
    (rename (divs _).length ≤ 40 => hszT40)
    (rename Int => d)
    obtain ⟨ht, hoff⟩ := hS
    obtain ⟨tA, tB, rfl, h1, h2, hne⟩ := tabs_split ht
    clear ht
    (rename News _ _ _ _ => N9)
    obtain ⟨hd3, hd4, hd5, hd6⟩ := dig_key hd1 (by omega)
    refine use_callT (fx := [_, _, _, _, _, _, _, _, _] ++ tA) (tl := tB) (digs_call _ d 1 _ _ hd1 (by omega) (by decide) (by decide) (nbits d) hd3 hd4 hd5 hd6 _ h2) (by k_asm) (by k_asm) (by k_asm) N9 (by k_asm) rfl (by assumption) (by assumption) (off_split hoff hne) ?_ ?_ ?_
    · ktr_room
    · ktr_units
    rintro v T' h3 tk3 F3 N3 off3 ⟨DG, vsG, cG, tB', rfl, rfl, hIG, hG, hoG⟩
    have hoffA := fun q hq p hp => hoff q hq p (List.mem_append_left tB hp)
    clear N9 hoff hne
    have N9 := news_rot N3
    clear N3
    simp only [List.cons_append, List.nil_append] at N9
    k_steps
    unfold Stop
    refine LCg.ListComp_U (F₀ := by k_asm) (by rfl) (by decide) (by rfl) (by decide) (by rfl) ?_
    k_steps
    unfold Stop
    (rename News _ _ _ _ => N8)
    have N9 := drop1 N8
    clear N8
    refine use_callT (fx := [_, _, _, _, _, _, _, _, _] ++ tA) (tl := tB') (digs_call _ d 1 _ _ hd1 (by omega) (by decide) (by decide) (nbits d) hd3 hd4 hd5 hd6 _ hG) (by k_asm) (by k_asm) (by k_asm) N9 (by k_asm) rfl (by assumption) (by assumption) (fun a ha p hp => off3 a ha p (.tail _ hp)) ?_ ?_ ?_
    · ktr_room
    · ktr_units
    clear off3 hoG hG h2
    rintro v T' h3 tk3 F3 N3 off3 ⟨DG, vsG, cG, tB2, rfl, rfl, hIG, hG, hoG⟩
    clear N9
    have N9 := news_rot N3
    clear N3
    simp only [List.cons_append, List.nil_append] at N9
    have hszG := List.size_toArray.trans (hIG.length.trans (wr_len 1 _ _ _ hd6))
    k_steps
    unfold Stop
    refine LCg.CompSrc.range (by rfl) (by k_asm) (by k_asm) (by assumption) (small_one (by omega) (by omega) (by omega) (by omega)) (rangeSize_nat _ _) (by rw [PySem.sizeLine_eq]; omega) ?_
    intro g9
    refine map_range (fun k => 2 ^ k) ?turn7 ?fin
    case turn7 =>
      intro k t I oI C oC D m₂ ys h tk E' hk hC2 hx2 F8 N8 off2 ne2
      k_steps
      exact ⟨_, _, _, congrArg (fun j : Nat => Value.int (2 ^ j) _) (show (0 + (k : Int)).toNat = k by omega), rfl, F8, N8⟩
    intro ys3 hI3
    k_steps
    · exact absurd (pow_key hd1 (by omega)) (not_both (by assumption))
    (rename News _ _ _ _ => N8)
    (try clear N9)
    have N9 := drop1 (drop1 N8)
    clear N8
    have hS := ledS_mk (fx := [_, _, _, _, _, _, _, _, _]) N9 (Tabs.mk h1 hG fun p hp q hq => off3 p (List.mem_append_right _ hp) q (.tail _ hq)) (fun q hq p hp => (List.mem_append.mp hp).elim (hoffA q hq p) (fun hp => off3 q (List.mem_append_left _ hq) p (.tail _ hp)))
    clear off3 hoffA h1 hG hoG
    (rename News _ _ _ _ => N9)
    (rename IntsAre _ (openL _ _) => hI5)
    (rename IntsAre _ (rangeKs _ _) => hev)
    (rename List Int => xs)
    (rename 10 ≤ 10 + _ => hb1)
    (rename 10 + _ ≤ 40 => hb2)
    (rename LedS _ _ => hS)
    (rename (@Ne Nat _ _ ∧ _) ∧ _ => hq2)
    obtain ⟨_, _, ⟨nOther, _⟩, ⟨nOut, _⟩, _⟩ := hq2
    obtain ⟨tl, htT, N8, hoff⟩ := led_open (fx := [_, _, _, _, _, _]) (drop1 (drop1 (drop1 N9))) (ledS_sub hS (fun q hq => .tail _ (.tail _ (.tail _ hq))))
    clear N9 hS
    simp only [List.cons_append, List.nil_append] at N8
    have N9 := news_pick 3 rfl N8
    clear N8
    simp only [List.eraseIdx_cons_zero, List.eraseIdx_cons_succ] at N9
    dsimp only
    refine storeC (by k_asm) N9 (by assumption) ?_ rfl (by rfl) (by rfl) ?_
    · exact List.forall_mem_cons.mpr ⟨neN (by omega), List.forall_mem_cons.mpr ⟨Ne.symm nOut, List.forall_mem_cons.mpr ⟨neN (by omega), List.forall_mem_cons.mpr ⟨neN (by omega), List.forall_mem_cons.mpr ⟨neN (by omega), fun p hp => Ne.symm (hoff _ (.tail _ (.tail _ (.tail _ (.head _)))) p hp)⟩⟩⟩⟩⟩
    clear N9
    intro h3 oO F3 N9 hoOut
    have he1 : 1 ≤ 1 + xs.sum.fmod (10 + xs.sum.fmod 31) := by
      have := Int.fmod_nonneg_of_pos xs.sum (show 0 < 10 + xs.sum.fmod 31 by omega)
      omega
    have he2 : 1 + xs.sum.fmod (10 + xs.sum.fmod 31) ≤ 10 + xs.sum.fmod 31 := by
      have := Int.fmod_lt_of_pos xs.sum (show 0 < 10 + xs.sum.fmod 31 by omega)
      omega
    generalize 1 + xs.sum.fmod (10 + xs.sum.fmod 31) = e at hoOut he1 he2
    k_steps
    unfold Stop
    refine LCt.ListComp_T (F₀ := by k_asm) (by with_unfolding_all rfl) (by decide) (by rfl) (by decide) (by rfl) ?_
    k_steps
    unfold Stop
    refine LCt.CompSrcT.ledger (by rfl) (by k_asm) N9 (.tail _ (.head _)) (by rw [PySem.sizeLine_eq, List.size_toArray, hev.length, rangeKs_length]; omega) ?_
    intro g9
    refine filt_list hev (fun j => decide (j ≠ e)) (Eq _) (fun _ => by rfl) (fun _ => by rfl) (by decide) ?turn8 ?fin8 rfl
    case turn8 =>
      rintro j tj I2 oI2 C2 oC2 D2 m₂ ys2 news2 h8 tk8 E8 hj rfl hC2 hx2 F8 N8 off2 ne2
      k_steps
      refine ⟨?_, _, _, _, rfl, F8, N8, off2, .inr ⟨_, .tail _ (.head _), rfl, _, rfl⟩, rfl⟩
      exact decide_not.symm
    rintro ysF newsF rfl hIF
    k_steps
    unfold Stop
    (try clear N9)
    (rename News _ _ _ _ => N9)
    (rename (@Ne Nat _ _ ∧ _) => ho1)
    have hnF : ∀ k ∈ (rangeKs 1 (10 + xs.sum.fmod 31 + 1 - 1).toNat).filter (fun j => decide (j ≠ e)), 1 ≤ k := fun k hk => (mem_rangeKs (List.mem_filter.mp hk).1).1
    have hlF : ((rangeKs 1 (10 + xs.sum.fmod 31 + 1 - 1).toNat).filter (fun j => decide (j ≠ e))).length ≤ 40 := Nat.le_trans (List.length_filter_le _ _) (by rw [rangeKs_length]; omega)
    refine use_call (U := [_]) (open_call _ _ _ _ _ _ _ hIF (by omega) hb2 hnF hlF) (by k_asm) (by k_asm) (by k_asm) N9 (by k_asm) rfl (by assumption) (by assumption) (List.forall_mem_cons.mpr ⟨.head _, List.forall_mem_nil _⟩) (fun _ h => .tail _ h) ?_ ?_ ?_ ?_
    · exact off_one (List.forall_mem_cons.mpr ⟨ho1.1, List.forall_mem_cons.mpr ⟨ho1.2.1, List.forall_mem_cons.mpr ⟨ho1.2.2.1, List.forall_mem_cons.mpr ⟨ho1.2.2.2.1, List.forall_mem_cons.mpr ⟨ho1.2.2.2.2.1, List.forall_mem_cons.mpr ⟨ho1.2.2.2.2.2.1, off1_mem ho1.2.2.2.2.2.2⟩⟩⟩⟩⟩⟩)
    · ktr_room
    · ktr_units
    rintro v T' h3 tk3 F3 N3 off3 ⟨D6, ys6, rfl, rfl, hI6, hne6⟩
    clear N9 ho1
    simp only [List.cons_append, List.nil_append] at N3
    have N9 := news_pick 4 rfl (news_erase 1 N3)
    clear N3
    simp only [List.eraseIdx_cons_zero, List.eraseIdx_cons_succ] at N9
    refine storeC (by k_asm) N9 (by assumption) ?_ rfl (by rfl) (by rfl) ?_
    · exact List.forall_mem_cons.mpr ⟨Ne.symm (off3 _ (.tail _ (.tail _ (.tail _ (.head _)))) _ (.head _)), List.forall_mem_cons.mpr ⟨neN (by omega), List.forall_mem_cons.mpr ⟨neN (by omega), List.forall_mem_cons.mpr ⟨Ne.symm nOther, List.forall_mem_cons.mpr ⟨neN (by omega), List.forall_mem_cons.mpr ⟨neN (by omega), fun p hp => Ne.symm (hoff _ (.tail _ (.tail _ (.head _))) p hp)⟩⟩⟩⟩⟩⟩
    clear N9 off3
    intro h3 oH F3 N9 hoH
    k_steps
    unfold Stop
    refine LCt.ListComp_T (F₀ := by k_asm) (by with_unfolding_all rfl) (by decide) (by rfl) (by decide) (by rfl) ?_
    k_steps
    unfold Stop
    refine LCt.CompSrcT.ledger (by rfl) (by k_asm) N9 (.tail _ (.tail _ (.tail _ (.head _)))) (by rw [PySem.sizeLine_eq, List.size_toArray, hev.length, rangeKs_length]; omega) ?_
    intro g9
    refine filt_list hev (fun _ => false) (Eq _) (fun _ => by rfl) (fun _ => by rfl) (by decide) ?turnn ?finn rfl
    case turnn =>
      rintro j tj I2 oI2 C2 oC2 D2 m₂ ys2 news2 h8 tk8 E8 hj rfl hC2 hx2 F8 N8 off2 ne2
      have hj12 := in_every hj (by omega)
      have hflip := flip_key hb2 hj12.1 hj12.2 he1 he2
      k_steps
      exact ⟨hflip, _, _, _, rfl, F8, N8, off2, .inr ⟨_, .tail _ (.tail _ (.tail _ (.head _))), rfl, _, rfl⟩, rfl⟩
    rintro ysE newsE rfl hIE
    rw [filter_none] at hIE
    cases hIE
    k_steps
    (rename News _ _ _ _ => N9)
    exact ⟨rfl, _, _, _, tl, rfl, by assumption, fun p hp => N9 p (.tail _ (.tail _ (.tail _ (.tail _ (.tail _ (.tail _ (.tail _ (.tail _ (.tail _ hp))))))))), htT⟩)
end
end Mine

theorem PySem.Challenge.cw_gl0008_01_holds : PySem.Challenge.rw_gl0008_01.Holds := by
  exact Mine.law_all
