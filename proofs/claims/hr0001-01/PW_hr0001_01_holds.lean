import PyProof.Rows.All
import Wide.All
import OpenK.AllK
import Wide.FinOn
import PySem.Challenge.RW_hr0001_01
set_option Elab.async false
set_option maxRecDepth 100000
set_option maxHeartbeats 0
set_option rowWalk.seconds 0
set_option linter.all false
set_option compiler.extract_closed false
namespace Mine
open PySem PySem.W PySem.Spec PySem.Calls PyProof.Rows
open_top hd for PySem.Challenge.rw_hr0001_01
theorem walk_off : True := by
  w_top off
  trivial

section
abbrev Led := List (Addr × Obj)
abbrev tupOf (its : Array Value) (n : Nat) : Obj := { cls := .type "tuple", data := .seq its n }
abbrev aroundOf (dp un : Nat) (gd : Option (List Code)) (env : Env) (outer : List Env) : Around := { handled := none, depth := dp, frames := some (env :: outer), guards := gd, units := un }
def Ct (w : World) (f : Addr) (vs : List Value) (min : Led) (dep : Nat) (mod : Addr → Prop) (Rt : Value → Led → Prop) : Prop :=
  ∀ (p : Program) (loose : List Str) (mean : ExcName → Option Value) (mg mb : Str → Option Value)
    (dp un : Nat) (gd : Option (List Code)) (env : Env) (outer : List Env) (A₀ : Around) (base h₀ : Heap) (L : Addr) (m : Str → Option Value) (s : Shared) (Q E : Value → Shared → Prop),
    Below A₀ base outer h₀ → Fr h₀ L s.heap m → (hd.heap_39 w.params).In h₀ → News h₀ L s.heap min → Top p loose mean mg mb h₀ → CodeHd base 55 51 → CodeHd base 48 44 → env.frame = some L → env.scope.kind = .function →
    dp + dep < 1000 → un + 8 * dep < 9000 →
    (∀ (r : Value) (ext : Led) (h' : Heap) (tk' : Nat), Fr h₀ L h' m → News h₀ L h' ext → (∀ b o, s.heap.get? b = some o → ¬ mod b → h'.get? b = some o) → (∀ p ∈ ext, mod p.1 ∨ s.heap.objs.size ≤ p.1) → Rt r ext →
      Q r { s with heap := h', toks := tk' }) →
    wpAny (model PySem.Challenge.rw_hr0001_01.row.prog w) (aroundOf dp un gd env outer) (call (.ref f) vs) Q E s

section
variable {prog : Program} {w : World} {A A₀ : Around} {s : Shared} {K : Frag} {L : Addr} {h₀ base : Heap} {m mg mb : Str → Option Value} {news : List (Addr × Obj)} {p : Program} {loose : List Str} {mean : ExcName → Option Value}
def Gk (s : Shared) (news : Led) (g : Heap) : Prop := (∀ b o, b ∉ news.map (·.1) → s.heap.get? b = some o → g.get? b = some o) ∧ g.objs.size = s.heap.objs.size
theorem code_defF {env : Env} {outer : List Env} {R : Result → Shared → Prop} {name qual : Str} {params : Arguments} {body : List Stmt} {scope : Scope} {dV kV doc pm cdv ct oc : Value} {an od : Option Addr} {osl : Array (Option Value)} {f : Addr} {args : Args} {binds : List (Str × Value)}
    (hA : A.frames = some (env :: outer)) (hf : env.frame = some L) (hke : env.scope.kind = .function) (B : Below A₀ base outer h₀) (F : Fr h₀ L s.heap m) (X₀ : K.In h₀) (N : News h₀ L s.heap news) (T : Top p loose mean mg mb h₀) (ho : K.lookup f = some ⟨oc, od, .func (fnOf name qual params body scope dV kV doc pm an cdv ct), osl⟩) (hcd : codeIn K cdv qual = true) (hroom : A.depth < recursionLimit) (hbind : BindsTo s (fnOf name qual params body scope dV kV doc pm an cdv ct) args binds) (hcell : ∀ x ∈ scope.names, x.2 ≠ .cell) (hloc : ∀ y ∈ binds, scope.names.lookup y.1 = some .local) (hco : scope.isCoroutine = false) (hgen : scope.isGenerator = false) (hk : scope.kind = .function)
    (h : ∀ tk g L' h₁, Gk s news g → L' = s.heap.objs.size → Fr h₀ L g m → Fr g L' h₁ (fun y => binds.reverse.lookup y) → News g L' h₁ news → Below A base (env :: outer) g → K.In g → Top p loose mean mg mb g → (∀ p ∈ news, p.1 < L') → f < L' →
      wpAny (model prog w) (A.deeper (envOf qual scope L' f cdv)) (execs body (envOf qual scope L' f cdv))
        (fun fl s' => LeaveK h₀ L m g R (match fl with | .ret v => v | _ => .none) s')
        (fun e s' => wpAny (model prog w) (A.deeper (envOf qual scope L' f cdv)) (leaving (envOf qual scope L' f cdv) e) (fun _ s'' => R (.error e) s'') (fun e' s'' => R (.error e') s'') s')
        { s with heap := h₁, toks := tk }) : codeAny (model prog w) A (.call (.ref f) args) R s := by
  obtain ⟨FG, BG, st, lv⟩ := groundX (R := R) B F N hA hf hke
  have ho' := (X₀.keeps F.keep) _ _ ho
  refine codeAny_call_def (fd := fnX name qual params body scope [] dV kV doc pm an cdv ct) (body := body) (binds := binds) hroom ho' rfl (T.nolimit.keeps F.keep) (codeRec_of (X₀.keeps F.keep) hcd) rfl hbind hcell hloc (fun h₁ hns hk₁ => ?_) hco hgen hk
  exact wpAny_mono (h _ _ s.heap.objs.size h₁ ⟨fun b o hb e => hideAll_get _ e hb, hideAll_size _ _⟩ rfl FG ⟨hns, fun b o e => hk₁ b o (of_hideAll _ e), Nat.le_of_eq (hideAll_size _ _)⟩
    (fun p hp => ⟨hk₁ _ _ (N p hp).1, Nat.ne_of_lt (Heap.lt_size (N p hp).1), hideAll_none _ (List.mem_map_of_mem hp)⟩) BG (X₀.keeps st) (T.keeps st) (fun p hp => Heap.lt_size (N p hp).1) (Heap.lt_size ho')) (fun fl s' hl => lv _ _ hl) fun _ _ y => y

theorem code_defCF {env : Env} {outer : List Env} {R : Result → Shared → Prop} {name qual : Str} {params : Arguments} {body : List Stmt} {scope : Scope} {dV kV doc pm cdv ct oc : Value} {an od : Option Addr} {osl : Array (Option Value)} {f : Addr} {args : Args} {binds : List (Str × Value)}
    (hA : A.frames = some (env :: outer)) (hf : env.frame = some L) (hke : env.scope.kind = .function) (B : Below A₀ base outer h₀) (F : Fr h₀ L s.heap m) (X₀ : K.In h₀) (N : News h₀ L s.heap news) (T : Top p loose mean mg mb h₀) (ho : K.lookup f = some ⟨oc, od, .func (fnOf name qual params body scope dV kV doc pm an cdv ct), osl⟩) (hcd : codeIn K cdv qual = true) (hroom : A.depth < recursionLimit) (hbind : BindsTo s (fnOf name qual params body scope dV kV doc pm an cdv ct) args binds) (hkind : (binds.all fun y => scope.names.lookup y.1 == some .local || scope.names.lookup y.1 == some .cell) = true) (hnd : ((cellsFrom 0 scope.names []).map (·.1)).Nodup) (hco : scope.isCoroutine = false) (hgen : scope.isGenerator = false) (hk : scope.kind = .function)
    (h : ∀ g L' h₁ tk cells, Gk s news g → L' = s.heap.objs.size → Fr h₀ L g m → Fr g L' h₁ (bindL (envOfC qual scope L' f cdv).kindOf binds fun _ => none) → News g L' h₁ (cells ++ news) →
      CellsAre (bindC (envOfC qual scope L' f cdv).kindOf binds fun _ => none) (cellsFrom (L' + 1) scope.names []) cells → Below A base (env :: outer) g → K.In g → Top p loose mean mg mb g → (∀ p ∈ news, p.1 < L') → f < L' →
      wpAny (model prog w) (A.deeper (envOfC qual scope L' f cdv)) (execs body (envOfC qual scope L' f cdv))
        (fun fl s' => LeaveK h₀ L m g R (match fl with | .ret v => v | _ => .none) s')
        (fun e s' => wpAny (model prog w) (A.deeper (envOfC qual scope L' f cdv)) (leaving (envOfC qual scope L' f cdv) e) (fun _ s'' => R (.error e) s'') (fun e' s'' => R (.error e') s'') s')
        { s with heap := h₁, toks := tk }) : codeAny (model prog w) A (.call (.ref f) args) R s := by
  obtain ⟨FG, BG, st, lv⟩ := groundX (R := R) B F N hA hf hke
  have ho' := (X₀.keeps F.keep) _ _ ho
  refine codeAny_call_function (fd := fnX name qual params body scope [] dV kV doc pm an cdv ct) hroom ho' rfl hco hgen rfl (codeRec_of (X₀.keeps F.keep) hcd) (hbind _ _ _ _ ?_)
  refine wpAny_newFunctionEnv_cells hk (kindsX hkind _) fun env' he s' x => ?_
  subst he
  refine ⟨(T.nolimit.keeps F.keep).keeps x.toInCall.keep, codeAny_func ?_⟩
  obtain ⟨h₁, tk, rfl, _⟩ := x.done
  have hk₁ := x.toInCall.keep
  obtain ⟨cells, NC, Y⟩ := Cl.news (h₀ := s.heap) (Nat.le_refl _) fun n c hm => ⟨x.cell n c (lookup_of_mem_nodup (cellsFrom_names scope.names 0 (s.heap.objs.size + 1) [] [] rfl ▸ hnd) hm), x.above n c hm⟩
  refine wpAny_mono (h _ s.heap.objs.size h₁ tk cells ⟨fun b o hb e => hideAll_get _ e hb, hideAll_size _ _⟩ rfl FG ⟨x.toInCall.ns, fun b o e => hk₁ b o (of_hideAll _ e), Nat.le_of_eq (hideAll_size _ _)⟩ (fun p hp => ?_) Y BG (X₀.keeps st) (T.keeps st) (fun p hp => Heap.lt_size (N p hp).1) (Heap.lt_size ho')) (fun fl s' hl => lv _ _ hl) fun _ _ y => y
  rcases List.mem_append.mp hp with hp | hp
  · refine ⟨(NC p hp).1, (NC p hp).2.1, ?_⟩
    cases q : (hideAll s.heap (news.map (·.1))).get? p.1 with
    | none => rfl
    | some o => have := of_hideAll _ q; rw [(NC p hp).2.2] at this; cases this
  · exact ⟨hk₁ _ _ (N p hp).1, Nat.ne_of_lt (Heap.lt_size (N p hp).1), hideAll_none _ (List.mem_map_of_mem hp)⟩

theorem my_end {g h' : Heap} {L' : Addr} {m' : Str → Option Value} {led ext : Led} {mod : Addr → Prop} {tk : Nat} {v : Value} {R : Result → Shared → Prop} {Rt : Value → Led → Prop}
    (hg : Gk s news g) (N₀ : News h₀ L s.heap news) (hL : L' = s.heap.objs.size)
    (hret : ∀ (r : Value) (ext : Led) (h' : Heap) (tk' : Nat), Fr h₀ L h' m → News h₀ L h' ext → (∀ b o, s.heap.get? b = some o → ¬ mod b → h'.get? b = some o) → (∀ p ∈ ext, mod p.1 ∨ s.heap.objs.size ≤ p.1) → Rt r ext →
      R (.ok (.ret r)) { s with heap := h', toks := tk' })
    (F' : Fr g L' h' m') (N' : News g L' h' led) (hsub : ∀ p ∈ news, p ∈ led ∨ mod p.1) (hext : ∀ p ∈ ext, p ∈ led) (hnew : ∀ p ∈ ext, mod p.1 ∨ @LE.le Nat _ L' p.1) (hR : Rt v ext) :
    LeaveK h₀ L m g R v { s with heap := h', toks := tk } := by
  refine ⟨L', m', led, F', N', fun FF NN => hret v ext h' tk FF (fun p hp => NN p (hext p hp)) (fun b o e hb => ?_) (hL ▸ hnew) hR⟩
  by_cases hm : b ∈ news.map (·.1)
  · obtain ⟨q, hq, rfl⟩ := List.mem_map.mp hm
    have := (N₀ q hq).1
    rw [e] at this; cases this
    exact ((hsub q hq).elim (fun x => (N' q x).1) fun x => absurd x hb)
  · exact F'.keep _ _ (hg.1 b o hm e)

theorem my_ret {g h' : Heap} {L' : Addr} {m' : Str → Option Value} {led ext : Led} {mod : Addr → Prop} {tk : Nat} {v : Value} {Q : Value → Shared → Prop} {Rt : Value → Led → Prop}
    (hg : Gk s news g) (N₀ : News h₀ L s.heap news) (hL : L' = s.heap.objs.size)
    (hret : ∀ (r : Value) (ext : Led) (h' : Heap) (tk' : Nat), Fr h₀ L h' m → News h₀ L h' ext → (∀ b o, s.heap.get? b = some o → ¬ mod b → h'.get? b = some o) → (∀ p ∈ ext, mod p.1 ∨ s.heap.objs.size ≤ p.1) → Rt r ext →
      Q r { s with heap := h', toks := tk' })
    (F' : Fr g L' h' m') (kF : Fr h₀ L h' m) (kN : News h₀ L h' led) (hR : Rt v ext) (hsub : ∀ p ∈ news, p ∈ led ∨ mod p.1) (hext : ∀ p ∈ ext, p ∈ led) (hnew : ∀ p ∈ ext, mod p.1 ∨ @LE.le Nat _ L' p.1) :
    Q v { s with heap := h', toks := tk } := by
  refine hret v ext h' tk kF (fun p hp => kN p (hext p hp)) (fun b o e hb => ?_) (hL ▸ hnew) hR
  by_cases hm : b ∈ news.map (·.1)
  · obtain ⟨q, hq, rfl⟩ := List.mem_map.mp hm
    have := (N₀ q hq).1
    rw [e] at this; cases this
    exact ((hsub q hq).elim (fun x => (kN q x).1) fun x => absurd x hb)
  · exact F'.keep _ _ (hg.1 b o hm e)
theorem news_call {h h' : Heap} {ext led : Led} {mod : Addr → Prop} (N : News h₀ L h led) (E : News h₀ L h' ext) (hk : ∀ b o, h.get? b = some o → ¬ mod b → h'.get? b = some o) (hm : ∀ p ∈ led, ¬ mod p.1) : News h₀ L h' (ext ++ led) := fun p hp => by
  rcases List.mem_append.mp hp with hp | hp
  · exact E p hp
  · exact ⟨hk _ _ (N p hp).1 (hm p hp), (N p hp).2⟩
theorem allLt_call {h : Heap} {led : Led} {D : Addr} (N : News h₀ L h led) (hD : h.objs.size ≤ D) : AllLt D led := allLt_of fun p hp => Nat.lt_of_lt_of_le (Heap.lt_size (N p hp).1) hD
end
theorem Ct.use {w : World} {f : Addr} {vs : List Value} {min : Led} {dep : Nat} {Rt : Value → Led → Prop} (C : Ct w f vs min dep (fun _ => False) Rt)
    {p : Program} {loose : List Str} {mean : ExcName → Option Value} {mg mb : Str → Option Value}
    {dp un : Nat} {gd : Option (List Code)} {env : Env} {outer : List Env} {A₀ : Around} {base h₀ : Heap} {L : Addr} {m : Str → Option Value} {s : Shared} {Q E : Value → Shared → Prop} {led : Led}
    (B : Below A₀ base outer h₀) (F : Fr h₀ L s.heap m) (X : (hd.heap_39 w.params).In h₀) (N : News h₀ L s.heap led) (T : Top p loose mean mg mb h₀) (c1 : CodeHd base 55 51) (c2 : CodeHd base 48 44) (hf : env.frame = some L) (hk : env.scope.kind = .function)
    (hdp : dp + dep < 1000) (hun : un + 8 * dep < 9000) (hsub : ∀ p ∈ min, p ∈ led)
    (k : ∀ (r : Value) (ext : Led) (h' : Heap) (tk' : Nat), Fr h₀ L h' m → News h₀ L h' (ext ++ led) → (∀ p ∈ ext, AllLt p.1 led) → Rt r ext → Q r { s with heap := h', toks := tk' }) :
    wpAny (model PySem.Challenge.rw_hr0001_01.row.prog w) (aroundOf dp un gd env outer) (call (.ref f) vs) Q E s :=
  C p loose mean mg mb dp un gd env outer A₀ base h₀ L m s Q E B F X (fun p hp => N p (hsub p hp)) T c1 c2 hf hk hdp hun fun r ext h' tk' F' N' hkp hnew hR =>
    k r ext h' tk' F' (news_call N N' hkp fun _ _ => id) (fun p hp => allLt_call N ((hnew p hp).elim False.elim id)) hR

theorem ne_allLt {d : Addr} {tb : Led} (h : AllLt d tb) : ∀ p ∈ tb, p.1 ≠ d := by
  induction tb with
  | nil => exact fun _ h => nomatch h
  | cons q r ih =>
    intro p hp
    rcases List.mem_cons.mp hp with rfl | hp
    · exact Nat.ne_of_lt h.1
    · exact ih h.2 p hp
def Back {α : Type} (q : α → Shared → Prop) (f : α) (s : Shared) : Prop := q f s
theorem Back.to {α : Type} {P q : α → Shared → Prop} {f : α} {s : Shared} (h : ∀ f s, P f s → q f s) (p : P f s) : Back q f s := h f s p
theorem hold_body {α : Type} {M : Model} {A : Around} {x : Sem α} {Q : α → Shared → Prop} {E : Value → Shared → Prop} {s : Shared} (h : ∀ q : α → Shared → Prop, (∀ f s, Q f s → q f s) → wpAny M A x (Back q) (fun _ _ => False) s) : wpAny M A x Q E s :=
  wpAny_mono (h Q fun _ _ p => p) (fun _ _ p => p) fun _ _ p => p.elim
end
local macro_rules | `(tactic| walk_at "Back") => `(tactic| (with_reducible (refine Back.to (by assumption) ?_); (try dsimp only)))
local macro_rules | `(tactic| walk_at "my last") => `(tactic| first
  | assumption
  | exact And.right (by assumption)
  | exact And.right (And.right (by assumption))
  | exact And.right (And.right (And.right (by assumption)))
  | exact And.right (And.right (And.right (And.right (by assumption))))
  | exact And.right (And.right (And.right (And.right (And.right (by assumption)))))
  | exact And.right (And.right (And.right (And.right (And.right (And.right (by assumption))))))
  | exact And.right (And.right (And.right (And.right (And.right (And.right (And.right (by assumption)))))))
  | exact And.right (And.right (And.right (And.right (And.right (And.right (And.right (And.right (by assumption))))))))
  | exact And.right (And.right (And.right (And.right (And.right (And.right (And.right (And.right (And.right (by assumption)))))))))
  | exact And.right (And.right (And.right (And.right (And.right (And.right (And.right (And.right (And.right (And.right (by assumption)))))))))))
local macro_rules | `(tactic| walk_at "my lt") => `(tactic| first | with_reducible assumption | exact And.left (by with_reducible assumption) | exact And.right (by with_reducible assumption) | exact And.left (And.right (by with_reducible assumption)) | exact And.right (And.right (by with_reducible assumption)) | exact And.left (And.right (And.right (by with_reducible assumption))) | exact And.right (And.right (And.right (by with_reducible assumption))) | exact And.left (And.right (And.right (And.right (by with_reducible assumption)))) | exact And.right (And.right (And.right (And.right (by with_reducible assumption)))) | exact And.left (And.right (And.right (And.right (And.right (by with_reducible assumption))))) | exact And.right (And.right (And.right (And.right (And.right (by with_reducible assumption))))) | exact And.left (And.right (And.right (And.right (And.right (And.right (by with_reducible assumption)))))) | exact And.right (And.right (And.right (And.right (And.right (And.right (by with_reducible assumption)))))) | exact And.left (And.right (And.right (And.right (And.right (And.right (And.right (by with_reducible assumption))))))) | exact And.right (And.right (And.right (And.right (And.right (And.right (And.right (by with_reducible assumption))))))) | exact And.left (And.right (And.right (And.right (And.right (And.right (And.right (And.right (by with_reducible assumption)))))))) | exact And.right (And.right (And.right (And.right (And.right (And.right (And.right (And.right (by with_reducible assumption)))))))) | exact And.left (And.right (And.right (And.right (And.right (And.right (And.right (And.right (And.right (by with_reducible assumption))))))))) | exact And.right (And.right (And.right (And.right (And.right (And.right (And.right (And.right (And.right (by with_reducible assumption))))))))) | exact And.left (And.right (And.right (And.right (And.right (And.right (And.right (And.right (And.right (And.right (by with_reducible assumption)))))))))) | exact And.right (And.right (And.right (And.right (And.right (And.right (And.right (And.right (And.right (And.right (by with_reducible assumption)))))))))) | exact And.left (And.right (And.right (And.right (And.right (And.right (And.right (And.right (And.right (And.right (And.right (by with_reducible assumption))))))))))) | exact And.right (And.right (And.right (And.right (And.right (And.right (And.right (And.right (And.right (And.right (And.right (by with_reducible assumption))))))))))))
local macro_rules | `(tactic| omega) => `(tactic| ((with_reducible first | show @LT.lt Int _ _ _ | show @LE.le Int _ _ _ | show @LT.lt Nat _ _ _ | show @LE.le Nat _ _ _ | show And _ _); (repeat (with_reducible rename (@Eq Nat _ _) => hE9; clear hE9)); omega +splitDisjunctions))
local macro_rules | `(tactic| omega) => `(tactic| ((with_reducible first | show @LT.lt Int _ _ _ | show @LE.le Int _ _ _ | show @LT.lt Nat _ _ _ | show @LE.le Nat _ _ _ | show And _ _ | show @Eq Int _ _ | show @Eq Nat _ _); lia))
local macro_rules | `(tactic| omega) => `(tactic| first | ((with_reducible show @Ne Nat _ _); first | exact Nat.ne_of_gt (by walk_at "my lt") | exact Nat.ne_of_lt (by walk_at "my lt")) | ((with_reducible show @LT.lt Nat _ _ _); walk_at "my lt"))
local macro_rules | `(tactic| walk_at "my sub") => `(tactic| ((repeat (refine List.forall_mem_cons.mpr ⟨by k_mem, ?_⟩)); first | exact List.forall_mem_nil _ | exact fun _ h => h))
local macro_rules | `(tactic| walk_at "my subm") => `(tactic| ((repeat (refine List.forall_mem_cons.mpr ⟨Or.inl (by k_mem), ?_⟩)); exact List.forall_mem_nil _))
local macro_rules | `(tactic| walk_at "my new") => `(tactic| ((repeat (refine List.forall_mem_cons.mpr ⟨Or.inr (by (try dsimp only); omega), ?_⟩)); exact List.forall_mem_nil _))
local macro_rules | `(tactic| walk_at "my units") => `(tactic| ((try simp only [units_in1, units_deeper, Around.mark_units, units_caller, cLine_is]); (try dsimp only [aroundOf]); omega))
local macro_rules | `(tactic| walk_at "my room") => `(tactic| ((try simp only [depth_under_make, depth_under_kw, depth_in1, depth_deeper, depth_caller, recursionLimit]); (try dsimp only [aroundOf]); omega))
local macro_rules | `(tactic| ke_room) => `(tactic| walk_at "my units")
local macro_rules | `(tactic| k_units) => `(tactic| walk_at "my units")
local macro_rules | `(tactic| k_room) => `(tactic| walk_at "my room")
local macro_rules | `(tactic| walk_at "my ax") => `(tactic| first | assumption | exact rfl)
local macro_rules | `(tactic| walk_at "my enter") => `(tactic| k_dflt ((first
  | (refine code_defF (by exact rfl) (by walk_at "my ax") (by walk_at "my ax") (by k_asm) (by k_asm) (by k_asm) (by k_asm) (by k_asm) (by k_is) (by k_is) (by k_room) (by exact BindsTo.of_eq rfl) (by decide) (by exact locs rfl) (by exact rfl) (by exact rfl) (by exact rfl) ?_; k_whole; intro tk0' g' L' h' Gk' hL' FG' F' N' B' X' T' l1 l2; (try k_lt l1); (try k_lt2 l2))
  | (refine code_defCF (by exact rfl) (by walk_at "my ax") (by walk_at "my ax") (by k_asm) (by k_asm) (by k_asm) (by k_asm) (by k_asm) (by k_is) (by k_is) (by k_room) (by exact BindsTo.of_eq rfl) (by exact rfl) (by decide +kernel) (by exact rfl) (by exact rfl) (by exact rfl) ?_; k_whole; intro g' L' h' tk' cells' Gk' hL' FG' F' N' Y' B' X' T' l1 l2; (try k_lt l1); (try k_lt2 l2); k_cells Y'; (try simp only [List.cons_append, List.nil_append] at N'))); (try dsimp only); (try k_fold)))

section

end
local macro_rules | `(tactic| k_all) => `(tactic| with_reducible exact ne_allLt (by walk_at "my last"))
local macro_rules | `(tactic| k_all) => `(tactic| with_reducible walk_at "my last")

section
open PyProof.Rows.LCg
section
variable {prog : Program} {w : World} {A : Around} {E : Value → Shared → Prop} {s : Shared} {h₀ : Heap} {L : Addr} {m : Str → Option Value} {env : Env}

def ElEnd (r : Int) (s₁ : Shared) (v : Value) (s' : Shared) : Prop := ∃ t h' tk, v = .int r t ∧ s' = { s₁ with heap := h', toks := tk } ∧ ∀ b o, s₁.heap.get? b = some o → h'.get? b = some o
theorem ElEnd.intro {r r' : Int} {s₁ : Shared} {t : Tok} {h' : Heap} {tk : Nat} (e : r' = r) (hk : ∀ b o, s₁.heap.get? b = some o → h'.get? b = some o) : ElEnd r s₁ (.int r' t) { s₁ with heap := h', toks := tk } := ⟨t, h', tk, by rw [e], rfl, hk⟩
theorem ElEnd.same {r r' : Int} {s₁ : Shared} {t : Tok} {tk : Nat} (e : r' = r) : ElEnd r s₁ (.int r' t) { s₁ with toks := tk } := ⟨t, s₁.heap, tk, by rw [e], rfl, fun _ _ x => x⟩

def FinM (h₀ : Heap) (L : Addr) (m : Str → Option Value) (s : Shared) (Q : Value → Shared → Prop) (ns : List Int) (news : Led) : Prop :=
  ∀ D h tk ys, Fr h₀ L h m → News h₀ L h ((D, listOf ys.toArray ys.length) :: news) → AllLt D news → IntsAre ys ns → Q (.ref D) { s with heap := h, toks := tk }

theorem mapRange_succ (g : Nat → Int) (i : Nat) : (List.range (i + 1)).map g = (List.range i).map g ++ [g i] := by
  rw [List.range_succ, List.map_append]; rfl

theorem comp_block {elt iter target : Expr} {scope : Scope} {cl : List (Str × Addr)} {pos : Pos} {s₁ s₂ : Shared} {I : Addr} {fp wr : List Addr} {n : Nat} {P Md : Nat → Value → Heap → Prop} {St : Nat → Heap → Prop} {B : Nat → (Str → Option Value) → Prop} {news : Led} {g : Nat → Int} {Q : Value → Shared → Prop}
    (W : KTurns prog w A target I fp wr n P Md St) (hsz : n ≤ sizeLine) (hself : ∀ i (s : Shared) (Q : Value → Shared → Prop) (E : Value → Shared → Prop), St i s.heap → Q (.ref I) s → wpAny (model prog w) A (pyIter (.ref I)) Q E s)
    (hwr : ∀ b ∈ wr, s₁.heap.objs.size ≤ b)
    (hcell : ∀ y ∈ scope.names, y.2 ≠ .cell) (hkind : scope.kind = .function) (hst : St 0 s₂.heap) (hfp : ∀ b ∈ fp, b < s₂.heap.objs.size)
    (h12 : s₂ = { s₁ with heap := s₂.heap, toks := s₂.toks }) (hk12 : ∀ b o, s₁.heap.get? b = some o → s₂.heap.get? b = some o) (hsz12 : s₁.heap.objs.size ≤ s₂.heap.objs.size)
    (F : Fr h₀ L s₁.heap m) (N : News h₀ L s₁.heap news)
    (hasg : ∀ i v C m' (s : Shared) (Q : Unit → Shared → Prop) (E : Value → Shared → Prop), P i v s.heap → s.heap.Ns C m' →
      (∀ h' tk m'', h'.Ns C m'' → B i m'' → (∀ b o, b ≠ C → s.heap.get? b = some o → h'.get? b = some o) → Q () { s with heap := h', toks := tk }) → wpAny (model prog w) A (assign target (compEnvC scope cl C env) v) Q E s)
    (helt : ∀ i C oC m₂ h tk (E' : Value → Shared → Prop), i < n → B i m₂ → NsObj oC m₂ → Fr h₀ L h m → News h₀ L h ((C, oC) :: news) →
      wpAny (model prog w) A (eval elt (compEnvC scope cl C env)) (ElEnd (g i) { s₁ with heap := h, toks := tk }) E' { s₁ with heap := h, toks := tk })
    (fin : FinM h₀ L m s₁ Q ((List.range n).map g) news) :
    wpAny (model prog w) A (newList []) (fun acc s₃ => wpAny (model prog w) A (newFunctionEnv scope env.globals cl [] env.qual none .none (some env)) (fun cenv s₄ =>
      codeAny (model prog w) A (.compStart (.ListComp elt [⟨target, iter, [], 0⟩] scope pos) 0 (.ref I) acc { cenv with scope := relabel scope env }) (compPost (model prog w) A E none Q acc cenv.locals) s₄) E s₃) E s₂ := by
  refine wpAny_newObj_type (wpAny_newFunctionEnv hcell (by intro y hy; simp at hy) (fun h₁ hns₁ hsb₁ => ?_) hkind)
  dsimp only at hns₁ hsb₁ ⊢
  generalize hH2 : s₂.heap.push { cls := .type "list", dict := none, data := .seq ([] : List Value).toArray } = H2 at hns₁ hsb₁ ⊢
  have hC : H2.objs.size = s₂.heap.objs.size + 1 := by rw [← hH2, Heap.size_push]
  have hDC : s₂.heap.objs.size ≠ H2.objs.size := by rw [hC]; exact Nat.ne_of_lt (Nat.lt_succ_self _)
  have below : ∀ b, b < s₂.heap.objs.size → b ≠ H2.objs.size ∧ b ≠ s₂.heap.objs.size := fun b hb => ⟨by rw [hC]; exact Nat.ne_of_lt (Nat.lt_succ_of_lt hb), Nat.ne_of_lt hb⟩
  have hDf : s₂.heap.objs.size ∉ fp := fun hm => Nat.lt_irrefl _ (hfp _ hm)
  have hCf : H2.objs.size ∉ fp := fun hm => by have := hfp _ hm; rw [hC] at this; exact Nat.lt_irrefl _ (Nat.lt_of_succ_lt this)
  have old : ∀ b o, s₂.heap.get? b = some o → h₁.get? b = some o := fun b o e => hsb₁.extBut b o (below b (Heap.lt_size e)).1 (Heap.get?_push_of_some _ (hH2 ▸ Heap.get?_push_of_some _ e))
  have hacc : h₁.get? s₂.heap.objs.size = some (lst []) := hsb₁.extBut _ _ hDC (Heap.get?_push_of_some _ (hH2 ▸ Heap.get?_push_size _ rfl))
  have hst₁ : St 0 h₁ := W.frame _ _ _ hst fun b _ o e => old b o e
  have hLlt : L < s₁.heap.objs.size := F.ns.lt
  have fresh₀ : ∀ a, s₁.heap.objs.size ≤ a → h₀.get? a = none := fun a ha => by
    cases e : h₀.get? a with
    | none => rfl
    | some o' => exact absurd (Heap.lt_size (F.keep a o' e)) (Nat.not_lt.mpr ha)
  -- what a heap of the loop keeps of the heap at the start
  let Kp : Heap → Prop := fun h => ∀ b o, s₁.heap.get? b = some o → h.get? b = some o
  have frK : ∀ {h : Heap}, Kp h → Fr h₀ L h m := fun k => F.keeps k
  have nwK : ∀ {h : Heap}, Kp h → News h₀ L h news := fun k => N.grown k
  have ltO : ∀ {b : Addr} {o : Obj}, s₁.heap.get? b = some o → b < s₂.heap.objs.size := fun e => Nat.lt_of_lt_of_le (Heap.lt_size e) hsz12
  have loop : ∀ s₃ : Shared, s₃ = { s₂ with heap := h₁, toks := s₂.toks + ([] : List (Str × Value)).length } →
      codeAny (model prog w) A (.compLoop (.ListComp elt [⟨target, iter, [], 0⟩] scope pos) 0 (.ref I) (.ref s₂.heap.objs.size) (compEnvC scope cl H2.objs.size env))
        (compPost (model prog w) A E none Q (.ref s₂.heap.objs.size) H2.objs.size) s₃ := by
    rintro s₃ rfl
    refine kcp_loop
      (fun k s' => ∃ h' tk i ys m', s' = { s₁ with heap := h', toks := tk } ∧ i ≤ n ∧ k = n + 1 - i ∧ IntsAre ys ((List.range i).map g) ∧ St i h' ∧ Kp h' ∧ h'.Ns H2.objs.size m' ∧ h'.get? s₂.heap.objs.size = some (lst ys)) ?_ (n + 1)
      ⟨h₁, _, 0, [], _, by rw [h12], Nat.zero_le _, rfl, .nil, hst₁, fun b o e => old b o (hk12 b o e), hns₁, hacc⟩
    rintro k s' ⟨h', tk, i, ys, m', rfl, hi, rfl, hy, hst', hK, hn', hD'⟩
    have wrK : ∀ {h h' : Heap}, Kp h → (∀ b o, b ∉ wr → h.get? b = some o → h'.get? b = some o) → Kp h' := fun k hk b o e => hk b o (fun hm => absurd (Heap.lt_size e) (Nat.not_lt.mpr (hwr b hm))) (k b o e)
    have Cw : H2.objs.size ∉ wr := fun hm => hCf (W.sub _ hm)
    have Dw : s₂.heap.objs.size ∉ wr := fun hm => hDf (W.sub _ hm)
    by_cases hlt : i < n
    · refine W.item i _ _ _ hlt hst' fun v h₂ tk₂ hMd hk₂ => ?_
      refine W.go i v _ _ _ hMd fun h₃ hP hst₃ hk₃ => ?_
      have K₃ : Kp h₃ := wrK (wrK hK hk₂) hk₃
      have C₃ : h₃.Ns H2.objs.size m' := hn'.at' fun o e => hk₃ _ o Cw (hk₂ _ o Cw e)
      have D₃ : h₃.get? s₂.heap.objs.size = some (lst ys) := hk₃ _ _ Dw (hk₂ _ _ Dw hD')
      refine hasg i v H2.objs.size m' _ _ _ hP C₃ fun h₄ tk₄ m₄ hn₄ hB hk₄ => ?_
      have K₄ : Kp h₄ := fun b o e => hk₄ b o (below b (ltO e)).1 (K₃ b o e)
      have D₄ : h₄.get? s₂.heap.objs.size = some (lst ys) := hk₄ _ _ hDC D₃
      have hst₄ : St (i + 1) h₄ := W.frame _ _ _ hst₃ fun b hb o e => hk₄ b o (fun q => hCf (by have q' : b = H2.objs.size := q; rw [← q']; exact hb)) e
      obtain ⟨oC, heC, hoC⟩ := ns_obj hn₄
      have hC₀ : H2.objs.size ≠ L := Nat.ne_of_gt (by rw [hC]; exact Nat.lt_succ_of_lt (Nat.lt_of_lt_of_le hLlt hsz12))
      refine wpAny_mono (helt i H2.objs.size oC m₄ h₄ tk₄ _ hlt hB hoC (frK K₄) (fun p hp => ?_)) (fun x s₅ h₅ => ?_) fun _ _ e => e
      · rcases List.mem_cons.mp hp with rfl | hp
        · exact ⟨heC, hC₀, fresh₀ _ (by rw [hC]; exact Nat.le_succ_of_le hsz12)⟩
        · exact nwK K₄ p hp
      · obtain ⟨t, h₅, tk₅, rfl, rfl, hk₅⟩ := h₅
        have hlen : ys.length = i := by have := hy.length; simp at this; omega
        refine append_at (hsz := by show ys.toArray.size ≤ sizeLine; rw [List.size_toArray, hlen]; exact Nat.le_trans hi hsz) (hk₅ _ _ D₄) fun h₆ hs₆ hD₆ => ?_
        refine ⟨n + 1 - (i + 1), by omega, h₆, tk₅, i + 1, ys ++ [.int (g i) t], m₄, rfl, hlt, rfl, ?_, W.frame _ _ _ hst₄ fun b hb o e => hs₆.extBut b o (fun q => hDf (by have q' : b = s₂.heap.objs.size := q; rw [← q']; exact hb)) (hk₅ b o e),
          fun b o e => hs₆.extBut b o (below b (ltO e)).2 (hk₅ _ _ (K₄ b o e)), (hn₄.at' fun o e => hk₅ _ o e).sameBut hs₆ (Ne.symm hDC), hD₆.trans (congrArg some (lst_snoc ys _))⟩
        rw [mapRange_succ]
        exact IntsAre.append hy (.cons (g i) t .nil)
    · obtain rfl : i = n := Nat.le_antisymm hi (Nat.not_lt.mp hlt)
      refine W.done _ _ _ hst' fun h₂ tk₂ hk₂ => ?_
      have K₂ : Kp h₂ := wrK hK hk₂
      have D₂ : h₂.get? s₂.heap.objs.size = some (lst ys) := hk₂ _ _ Dw hD'
      refine ⟨m', hn'.at' fun o e => hk₂ _ o Cw e, fun h'' hs'' => ?_⟩
      have K₃ : Kp h'' := fun b o e => hs''.extBut b o (below b (ltO e)).1 (K₂ b o e)
      refine fin s₂.heap.objs.size h'' tk₂ ys (frK K₃) (fun p hp => ?_) (allLt_call N hsz12) hy
      rcases List.mem_cons.mp hp with rfl | hp
      · exact ⟨hs''.extBut _ _ hDC D₂, Nat.ne_of_gt (Nat.lt_of_lt_of_le hLlt hsz12), fresh₀ _ hsz12⟩
      · exact nwK K₃ p hp
  exact codeAny_compStart_list (loop _ rfl) (hself 0 _ _ _ hst₁ (loop _ rfl))

def SrcM (prog : Program) (w : World) (A : Around) (h₀ : Heap) (L : Addr) (m : Str → Option Value) (env : Env) (elt : Expr) (x : Str) (scope : Scope) (cl : List (Str × Addr)) (Q : Value → Shared → Prop) (xv : Value) (s₁ : Shared) : Prop :=
  ∃ (ks : List Int) (g : Int → Int) (news : Led), A.handled = none ∧ Fr h₀ L s₁.heap m ∧ News h₀ L s₁.heap news ∧ ks.length ≤ sizeLine ∧
    ((∃ ax vs, xv = .ref ax ∧ s₁.heap.IsList ax vs.toArray ∧ IntsAre vs ks) ∨ (∃ r a b t u v n, xv = .ref r ∧ IsRange s₁.heap r a b 1 t u v ∧ Builtin.Range.small a b 1 = true ∧ Builtin.Range.rangeSize a b 1 = ((n : Nat) : Int) ∧ ks = rangeKs a n)) ∧
    (∀ k t C oC m₂ h tk (E' : Value → Shared → Prop), k ∈ ks → NsObj oC m₂ → m₂ x = some (.int k t) → Fr h₀ L h m → News h₀ L h ((C, oC) :: news) →
      wpAny (model prog w) A (eval elt (compEnvC scope cl C env)) (ElEnd (g k) { s₁ with heap := h, toks := tk }) E' { s₁ with heap := h, toks := tk }) ∧
    FinM h₀ L m s₁ Q (ks.map g) news
theorem SrcM.list {elt : Expr} {x : Str} {scope : Scope} {cl : List (Str × Addr)} {Q : Value → Shared → Prop} {ax : Addr} {vs : List Value} {ks : List Int} {g : Int → Int} {news : Led} {s₁ : Shared}
    (hh : A.handled = none) (F : Fr h₀ L s₁.heap m) (N : News h₀ L s₁.heap news) (hl : s₁.heap.IsList ax vs.toArray) (hi : IntsAre vs ks) (hsz : ks.length ≤ sizeLine)
    (helt : ∀ k t C oC m₂ h tk (E' : Value → Shared → Prop), k ∈ ks → NsObj oC m₂ → m₂ x = some (.int k t) → Fr h₀ L h m → News h₀ L h ((C, oC) :: news) →
      wpAny (model prog w) A (eval elt (compEnvC scope cl C env)) (ElEnd (g k) { s₁ with heap := h, toks := tk }) E' { s₁ with heap := h, toks := tk })
    (fin : FinM h₀ L m s₁ Q (ks.map g) news) : SrcM prog w A h₀ L m env elt x scope cl Q (.ref ax) s₁ := ⟨ks, g, news, hh, F, N, hsz, .inl ⟨ax, vs, rfl, hl, hi⟩, helt, fin⟩
theorem SrcM.range {elt : Expr} {x : Str} {scope : Scope} {cl : List (Str × Addr)} {Q : Value → Shared → Prop} {r : Addr} {a b : Int} {t u v : Tok} {n : Nat} {g : Int → Int} {news : Led} {s₁ : Shared}
    (hh : A.handled = none) (F : Fr h₀ L s₁.heap m) (N : News h₀ L s₁.heap news) (hr : IsRange s₁.heap r a b 1 t u v) (hsm : Builtin.Range.small a b 1 = true) (hn : Builtin.Range.rangeSize a b 1 = ((n : Nat) : Int)) (hsz : n ≤ sizeLine)
    (helt : ∀ k t C oC m₂ h tk (E' : Value → Shared → Prop), a ≤ k → k < a + (n : Int) → NsObj oC m₂ → m₂ x = some (.int k t) → Fr h₀ L h m → News h₀ L h ((C, oC) :: news) →
      wpAny (model prog w) A (eval elt (compEnvC scope cl C env)) (ElEnd (g k) { s₁ with heap := h, toks := tk }) E' { s₁ with heap := h, toks := tk })
    (fin : FinM h₀ L m s₁ Q ((rangeKs a n).map g) news) : SrcM prog w A h₀ L m env elt x scope cl Q (.ref r) s₁ :=
  ⟨rangeKs a n, g, news, hh, F, N, by rw [rangeKs_length]; exact hsz, .inr ⟨r, a, b, t, u, v, n, rfl, hr, hsm, hn, rfl⟩, fun k t C oC m₂ h tk E' hk => helt k t C oC m₂ h tk E' (mem_rangeKs hk).1 (mem_rangeKs hk).2, fin⟩

theorem map_at (ks : List Int) (g : Int → Int) : (List.range ks.length).map (fun i => g (ks.getD i 0)) = ks.map g := by
  apply List.ext_getElem
  · simp
  · intro i h1 h2
    have h3 : i < ks.length := by simpa using h1
    simp [List.getD, h3]

theorem ListComp_M {elt iter : Expr} {x : Str} {px : Pos} {scope : Scope} {cl : List (Str × Addr)} {pos : Pos} {Q : Value → Shared → Prop} (_F₀ : Fr h₀ L s.heap m)
    (hclos : closureFor scope env = pure cl) (hcell : ∀ y ∈ scope.names, y.2 ≠ .cell) (hkind : scope.kind = .function)
    (hnames : ∀ y ∈ scope.names, y.2 = .local → scope.names.lookup y.1 = some .local) (hx : scope.names.lookup x = some .local)
    (h : wpAny (model prog w) A (eval iter env) (SrcM prog w A h₀ L m env elt x scope cl Q) E s)
    (hs : ∀ x, foldedSetIterable iter env x = pure x := by intro _; rfl) :
    wpAny (model prog w) A (eval (.ListComp elt [⟨.Name x px, iter, [], 0⟩] scope pos) env) Q E s := by
  rw [eval_ListComp]
  refine wpAny_comprehension_free (use := none) rfl hs hclos hkind hnames (wpAny_mono h (fun xv s₁ h₁ => ?_) fun _ _ e => e)
  obtain ⟨ks, g, news, hh, F, N, hsz, hsrc, helt, fin⟩ := h₁
  have asg : ∀ (k : Int) (t : Tok) C m' (s : Shared) (Q : Unit → Shared → Prop) (E : Value → Shared → Prop), s.heap.Ns C m' →
      (∀ h' tk m'', h'.Ns C m'' → m'' x = some (.int k t) → (∀ b o, b ≠ C → s.heap.get? b = some o → h'.get? b = some o) → Q () { s with heap := h', toks := tk }) →
      wpAny (model prog w) A (assign (.Name x px) (compEnvC scope cl C env) (.int k t)) Q E s := fun k t C m' s Q E hn hq =>
    wpAny_assign_Name (wpAny_storeName_local (lookup_relabel_local hx) hn (fun h₃ hn₃ hs₃ => hq h₃ _ _ hn₃ (by simp) fun b o hb e => hs₃.extBut b o hb e) (by simp [compEnvC, relabel, hkind]))
  rcases hsrc with ⟨ax, vs, rfl, hl, hi⟩ | ⟨r, a, b, t, u, v, n, rfl, hr, hsm, hn, rfl⟩
  · have hlt : ax < s₁.heap.objs.size := by obtain ⟨_, e, _⟩ := hl; exact Heap.lt_size e
    have hvl : vs.length = ks.length := hi.length
    have esz : vs.toArray.size = ks.length := by rw [List.size_toArray, hvl]
    have KW := KTurns.ofWalks (target := .Name x px) (Walks.list (prog := prog) (w := w) hh s₁.heap.objs.size ax (Nat.ne_of_lt hlt) vs.toArray) fun i v s Q E _ q => wpAny_pure q
    rw [esz] at KW
    refine wpAny_pyIter_list hl ?_
    refine comp_block (s₁ := s₁) (g := fun i => g (ks.getD i 0)) (n := ks.length) (B := fun i m₂ => ∃ k t, ks[i]? = some k ∧ m₂ x = some (.int k t))
      KW hsz
      (fun i s Q E st q => (Walks.list (prog := prog) (w := w) hh s₁.heap.objs.size ax (Nat.ne_of_lt hlt) vs.toArray).self i s Q E st q)
      (fun b hb => by rw [List.mem_singleton.mp hb]; exact Nat.le_refl _) hcell hkind ⟨⟨_, Heap.get?_push_size _ rfl, rfl, rfl⟩, hl.push _⟩ (fun b hb => ?_) rfl (fun b o e => Heap.get?_push_of_some _ e) (by show _ ≤ (s₁.heap.push _).objs.size; rw [Heap.size_push]; exact Nat.le_succ _) F N
      (fun i v C m' s Q E hP hns hq => ?_) (fun i C oC m₂ h tk E' hin hB hC F' N' => ?_) (by rw [map_at]; exact fin)
    · show b < (s₁.heap.push _).objs.size
      rw [Heap.size_push]
      rcases List.mem_cons.mp hb with rfl | hb
      · exact Nat.lt_succ_self _
      · rw [List.mem_singleton.mp hb]; exact Nat.lt_succ_of_lt hlt
    · obtain ⟨k, t, rfl, hk⟩ := IntsAre.at hi i v (by simpa using hP)
      exact asg k t C m' s Q E hns fun h' tk m'' hn'' hx'' hk'' => hq h' tk m'' hn'' ⟨k, t, hk, hx''⟩ hk''
    · obtain ⟨k, t, hk, hx'⟩ := hB
      have : ks.getD i 0 = k := by simp [List.getD, hk]
      rw [this]
      exact helt k t C oC m₂ h tk E' (List.mem_of_getElem? hk) hC hx' F' N'
  · refine wpAny_pyIter_range hr hsm ?_
    rw [rangeKs_length] at hsz
    refine comp_block (s₁ := s₁) (g := fun i => g ((rangeKs a n).getD i 0)) (n := n) (B := fun i m₂ => ∃ k t, (rangeKs a n)[i]? = some k ∧ m₂ x = some (.int k t))
      (KTurns.ofWalks ((range_walks hh a n).bound) fun i v s Q E _ q => wpAny_pure q) hsz
      (fun i s Q E st q => (range_walks (prog := prog) (w := w) hh a n).self i s Q E st q)
      (fun b hb => by rw [List.mem_singleton.mp hb]; exact Nat.le_refl _) hcell hkind (by show IsRangeIter _ _ _ _ _; rw [hn]; simpa using Heap.get?_push_size _ rfl) (fun b hb => ?_) rfl (fun b o e => Heap.get?_push_of_some _ e) (by show _ ≤ (s₁.heap.push _).objs.size; rw [Heap.size_push]; exact Nat.le_succ _) F N
      (fun i v C m' s Q E hP hns hq => ?_) (fun i C oC m₂ h tk E' hin hB hC F' N' => ?_) (by have := map_at (rangeKs a n) g; rw [rangeKs_length] at this; rw [this]; exact fin)
    · rw [List.mem_singleton.mp hb]
      show s₁.heap.objs.size < (s₁.heap.push _).objs.size
      rw [Heap.size_push]; exact Nat.lt_succ_self _
    · obtain ⟨hin, t, rfl⟩ := hP
      exact asg _ t C m' s Q E hns fun h' tk m'' hn'' hx'' hk'' => hq h' tk m'' hn'' ⟨_, t, by simp [rangeKs, hin], hx''⟩ hk''
    · obtain ⟨k, t, hk, hx'⟩ := hB
      have : (rangeKs a n).getD i 0 = k := by simp [List.getD, hk]
      rw [this]
      exact helt k t C oC m₂ h tk E' (List.mem_of_getElem? hk) hC hx' F' N'

def SrcE (prog : Program) (w : World) (A : Around) (h₀ : Heap) (L : Addr) (m : Str → Option Value) (env : Env) (elt : Expr) (x x₂ : Str) (scope : Scope) (cl : List (Str × Addr)) (Q : Value → Shared → Prop) (l : Addr) (s₁ : Shared) : Prop :=
  ∃ (ks : List Int) (vs : List Value) (g : Nat → Int → Int) (news : Led), A.handled = none ∧ Fr h₀ L s₁.heap m ∧ News h₀ L s₁.heap news ∧ ks.length ≤ sizeLine ∧ s₁.heap.IsList l vs.toArray ∧ IntsAre vs ks ∧
    (∀ i k t t' C oC m₂ h tk (E' : Value → Shared → Prop), ks[i]? = some k → NsObj oC m₂ → m₂ x = some (.int ((i : Nat) : Int) t') → m₂ x₂ = some (.int k t) → Fr h₀ L h m → News h₀ L h ((C, oC) :: news) →
      wpAny (model prog w) A (eval elt (compEnvC scope cl C env)) (ElEnd (g i k) { s₁ with heap := h, toks := tk }) E' { s₁ with heap := h, toks := tk }) ∧
    FinM h₀ L m s₁ Q ((List.range ks.length).map fun i => g i (ks.getD i 0)) news
theorem SrcE.intro {elt : Expr} {x x₂ : Str} {scope : Scope} {cl : List (Str × Addr)} {Q : Value → Shared → Prop} {l : Addr} {vs : List Value} {ks : List Int} (g : Nat → Int → Int) {news : Led} {s₁ : Shared}
    (hh : A.handled = none) (F : Fr h₀ L s₁.heap m) (N : News h₀ L s₁.heap news) (hl : s₁.heap.IsList l vs.toArray) (hi : IntsAre vs ks) (hsz : ks.length ≤ sizeLine)
    (helt : ∀ i k t t' C oC m₂ h tk (E' : Value → Shared → Prop), ks[i]? = some k → NsObj oC m₂ → m₂ x = some (.int ((i : Nat) : Int) t') → m₂ x₂ = some (.int k t) → Fr h₀ L h m → News h₀ L h ((C, oC) :: news) →
      wpAny (model prog w) A (eval elt (compEnvC scope cl C env)) (ElEnd (g i k) { s₁ with heap := h, toks := tk }) E' { s₁ with heap := h, toks := tk })
    (fin : FinM h₀ L m s₁ Q ((List.range ks.length).map fun i => g i (ks.getD i 0)) news) : SrcE prog w A h₀ L m env elt x x₂ scope cl Q l s₁ := ⟨ks, vs, g, news, hh, F, N, hsz, hl, hi, helt, fin⟩

theorem ListComp_E {elt iter : Expr} {x x₂ : Str} {px px₂ tp : Pos} {tk0 : Nat} {scope : Scope} {cl : List (Str × Addr)} {pos : Pos} {Q : Value → Shared → Prop} (_F₀ : Fr h₀ L s.heap m)
    (hclos : closureFor scope env = pure cl) (hcell : ∀ y ∈ scope.names, y.2 ≠ .cell) (hkind : scope.kind = .function)
    (hnames : ∀ y ∈ scope.names, y.2 = .local → scope.names.lookup y.1 = some .local) (hx : scope.names.lookup x = some .local) (hx₂ : scope.names.lookup x₂ = some .local) (hxx : x ≠ x₂)
    (h : wpAny (model prog w) A (eval iter env) (fun xv s₁ => ∃ l s₀, SrcE prog w A h₀ L m env elt x x₂ scope cl Q l s₀ ∧ ∃ h', s₁ = { s₀ with heap := h' } ∧ xv = .ref (s₀.heap.objs.size + 1) ∧ IsEnum h' (s₀.heap.objs.size + 1) s₀.heap.objs.size 0 .none ∧ h'.IsListIter s₀.heap.objs.size l 0 ∧
      h'.objs.size = s₀.heap.objs.size + 2 ∧ ∀ b o, s₀.heap.get? b = some o → h'.get? b = some o) E s)
    (hs : ∀ x, foldedSetIterable iter env x = pure x := by intro _; rfl) :
    wpAny (model prog w) A (eval (.ListComp elt [⟨.Tuple [.Name x px, .Name x₂ px₂] tk0 tp, iter, [], 0⟩] scope pos) env) Q E s := by
  rw [eval_ListComp]
  refine wpAny_comprehension_free (use := none) rfl hs hclos hkind hnames (wpAny_mono h (fun xv s₁ h₁ => ?_) fun _ _ e => e)
  obtain ⟨l, s₀, ⟨ks, vs, g, news, hh, F, N, hsz, hl, hi, helt, fin⟩, h', rfl, rfl, hE, hI, hsz', hk'⟩ := h₁
  have hlt : l < s₀.heap.objs.size := by obtain ⟨_, e, _⟩ := hl; exact Heap.lt_size e
  have hvl : vs.length = ks.length := hi.length
  have esz : vs.toArray.size = ks.length := by rw [List.size_toArray, hvl]
  refine wpAny_pyIter_enum hE ?_
  have WE := (WalksT.enumerate (prog := prog) (w := w) hh (s₀.heap.objs.size + 1) s₀.heap.objs.size l (Nat.succ_ne_self _) (ktu_ne 1 hlt) (Nat.ne_of_lt hlt) vs.toArray).toU
  have KW := KTurns.ofWalksU (elts := [.Name x px, .Name x₂ px₂]) (k := tk0) (pos := tp) WE
  rw [esz] at KW
  refine comp_block (s₁ := s₀) (g := fun i => g i (ks.getD i 0)) (n := ks.length) (B := fun i m₂ => ∃ k t t', ks[i]? = some k ∧ m₂ x = some (.int ((i : Nat) : Int) t') ∧ m₂ x₂ = some (.int k t))
    KW hsz (fun i s Q E st q => WE.self i s Q E st q)
    (fun b hb => by rcases List.mem_cons.mp hb with rfl | hb; exact Nat.le_succ _; rw [List.mem_singleton.mp hb]; exact Nat.le_refl _) hcell hkind ⟨⟨_, hE⟩, hI, hl.at fun o e => hk' _ o e⟩ (fun b hb => ?_) rfl hk' (by show _ ≤ h'.objs.size; rw [hsz']; exact Nat.le_add_right _ _) F N
    (fun i v C m' s Q E hP hns hq => ?_) (fun i C oC m₂ h tk E' hin hB hC F' N' => ?_) fin
  · show b < h'.objs.size
    rw [hsz']
    simp only [List.mem_cons, List.not_mem_nil, or_false] at hb
    rcases hb with rfl | rfl | rfl
    · exact Nat.lt_succ_self _
    · exact Nat.lt_succ_of_lt (Nat.lt_succ_self _)
    · exact Nat.lt_succ_of_lt (Nat.lt_succ_of_lt hlt)
  · obtain ⟨T, vals, rfl, ⟨t', xv, hxv, rfl⟩, hT⟩ := hP
    obtain ⟨k, t, rfl, hk⟩ := IntsAre.at hi i xv (by simpa using hxv)
    exact kcp_assign (env := compEnvC scope cl C env) hh hT (lookup_relabel_local hx) (lookup_relabel_local hx₂) (by simp [compEnvC, relabel, hkind]) hns fun h'' tk hn'' hk'' => hq h'' tk _ hn'' ⟨k, t, t', hk, by simp [hxx], by simp⟩ hk''
  · obtain ⟨k, t, t', hk, hx1, hx2⟩ := hB
    have : ks.getD i 0 = k := by simp [List.getD, hk]
    rw [this]
    exact helt i k t t' C oC m₂ h tk E' hk hC hx1 hx2 F' N'

theorem srcE_call {elt : Expr} {x x₂ : Str} {scope : Scope} {cl : List (Str × Addr)} {Q : Value → Shared → Prop} {l : Addr} (S : SrcE prog w A h₀ L m env elt x x₂ scope cl Q l s) :
    wpAny (model prog w) A (call (.type "enumerate") [.ref l]) (fun xv s₁ => ∃ l s₀, SrcE prog w A h₀ L m env elt x x₂ scope cl Q l s₀ ∧ ∃ h', s₁ = { s₀ with heap := h' } ∧ xv = .ref (s₀.heap.objs.size + 1) ∧ IsEnum h' (s₀.heap.objs.size + 1) s₀.heap.objs.size 0 .none ∧ h'.IsListIter s₀.heap.objs.size l 0 ∧
      h'.objs.size = s₀.heap.objs.size + 2 ∧ ∀ b o, s₀.heap.get? b = some o → h'.get? b = some o) E s := by
  obtain ⟨ks, vs, g, news, hh, F, N, hsz, hl, r⟩ := id S
  exact call_enumerate_list hl fun h' hE hI hsz hk => ⟨l, s, S, h', rfl, rfl, hE, hI, hsz, hk⟩
end
theorem item_ints {prog : Program} {w : World} {A : Around} {E : Value → Shared → Prop} {s : Shared} {value slice : PySem.Expr} {l : Addr} {vs : List Value} {ns : List Int} {k : Int} {u : Tok} {Q : Value → Shared → Prop}
    (hl : s.heap.IsList l vs.toArray) (hi : IntsAre vs ns) (h0 : 0 ≤ k) (hk : k < (ns.length : Int)) (hhi : k < 9223372036854775808) (h : ∀ t, Q (.int (ns.getD k.toNat 0) t) s)
    (hs : subscripted slice false (.ref l) (.int k u) = operate [.ref l, .int k u] (getItem (.ref l) (.int k u)) := by with_unfolding_all rfl) :
    wpAny (model prog w) A (subscriptTail value slice (.ref l) (.int k u)) Q E s := by
  have hlt : k.toNat < vs.length := by rw [hi.length]; omega
  obtain ⟨n, t, e, hn⟩ := IntsAre.at hi k.toNat vs[k.toNat] (List.getElem?_eq_getElem hlt)
  have hv : ns.getD k.toNat 0 = n := by rw [List.getD_eq_getElem?_getD, hn]; rfl
  refine tail_any hl.typeIs slot_list_getitem.lookup (wpAny_getItem_list (x := .int n t) hl h0 (by omega) (by simp [List.getElem?_eq_getElem hlt, e]) (hv ▸ h t)) hs
end
local macro_rules | `(tactic| walk_at "eval ListComp") => `(tactic| (k_here; (with_reducible show wpAny _ _ (eval (Expr.ListComp _ [⟨Expr.Name _ _, _, [], _⟩] _ _) _) _ _ _); k_dflt (refine ListComp_M (_F₀ := by k_asm) (by with_unfolding_all rfl) (by decide) (by rfl) (by decide) (by rfl) ?_)))
local macro_rules | `(tactic| walk_at "eval ListComp") => `(tactic| (k_here; (with_reducible show wpAny _ _ (eval (Expr.ListComp _ [⟨Expr.Tuple _ _ _, _, [], _⟩] _ _) _) _ _ _); k_dflt (refine ListComp_E (_F₀ := by k_asm) (by with_unfolding_all rfl) (by decide) (by rfl) (by decide) (by rfl) (by rfl) (by decide) ?_)))
local macro_rules | `(tactic| walk_at "call type:enumerate") => `(tactic| (k_here; k_dflt (refine srcE_call ?_)))
local macro_rules | `(tactic| walk_at "call builtin:list.append cons nil") => `(tactic| (k_here; (with_reducible show wpAny _ _ (call (Value.builtin _) [Value.ref _, _]) _ _ _); k_dflt (refine append_K (by k_asm) (by k_asm) (by k_upd) ?_ (by size_fits); k_whole); intro h' F' N'; (try k_sweep)))
local macro_rules | `(tactic| walk_at "my sz") => `(tactic| (rw [PySem.sizeLine_eq]; first | omega | ((try simp only [List.size_toArray, List.length_map, rangeKs_length]); omega)))
local macro_rules | `(tactic| size_fits) => `(tactic| walk_at "my sz")
local macro_rules | `(tactic| walk_at "subscriptTail Name BinOp ref int") => `(tactic| (k_here; k_dflt (refine item_ints (by is_list) (by l_ints) (by omega) (by (try simp only [List.length_cons]); omega) (by omega) ?_); intro t'))
local macro_rules | `(tactic| walk_at "subscriptTail Name Name ref int") => `(tactic| (k_here; k_dflt (refine item_ints (by is_list) (by l_ints) (by omega) (by (try simp only [List.length_cons]); omega) (by omega) ?_); intro t'))
local macro_rules | `(tactic| walk_at "ElEnd") => `(tactic| first | exact ElEnd.intro rfl (fun _ _ e => e) | exact ElEnd.same rfl | exact ElEnd.intro rfl (by assumption) | exact ElEnd.intro (by simp) (fun _ _ e => e))
local macro_rules | `(tactic| walk_at "FinM") => `(tactic| (unfold FinM; intro D' h' tk' ys' F' N' l1' hI'; (try simp only [AllLt, and_true] at l1'); (try dsimp only)))

section
open PyProof.Rows.LCg
def Stop (P : Prop) : Prop := P
theorem Stop.at {P : Prop} (h : Stop P) : P := h
theorem Stop.go {P : Prop} (h : P) : Stop P := h
section
variable {prog : Program} {w : World} {A : Around} {E : Value → Shared → Prop} {s : Shared} {env : Env} {test : PySem.Expr} {body orelse : List Stmt} {Q : Flow → Shared → Prop}
theorem whl_ind {ι : Type} (J : ι → Shared → Prop) (meas : ι → Nat) (i₀ : ι) (hE : PassesOwn (model prog w) A env E) (h0 : J i₀ s)
    (step : ∀ i s', J i s' → (∀ j s'', meas j < meas i → J j s'' → WhlRest prog w A E env test body orelse Q 0 s'') →
      wpAny (model prog w) A (isTrue test env (eval test env)) (fun b s₂ => WhlIf b (wpAny (model prog w) A (execs body env) (WhlPost prog w A E env test body orelse Q 0) E s₂) (wpAny (model prog w) A (execs orelse env) Q E s₂)) E s') :
    WhlRest prog w A E env test body orelse Q 0 s := by
  have all : ∀ n, ∀ i s', meas i < n → J i s' → WhlRest prog w A E env test body orelse Q 0 s' := by
    intro n
    induction n with
    | zero => intro i s' h; exact absurd h (Nat.not_lt_zero _)
    | succ n ih => exact fun i s' hi hJ => whl_turn (k := 0) hE (step i s' hJ fun j s'' hj hJ' => ih j s'' (Nat.lt_of_lt_of_le hj (Nat.le_of_lt_succ hi)) hJ')
  exact all _ i₀ s (Nat.lt_succ_self _) h0
theorem whl_indF {ι : Type} {g h0 : Heap} {tk0 : Nat} {L : Addr} {m : Str → Option Value} {news₀ : Led} (F : Fr g L h0 m) (N : News g L h0 news₀) (J : ι → Led → Prop) (meas : ι → Nat) (i₀ : ι) (hE : PassesOwn (model prog w) A env E) (hJ : J i₀ news₀)
    (step : ∀ i h tk news, Fr g L h m → News g L h news → J i news →
      (∀ j h' tk' news', meas j < meas i → Fr g L h' m → News g L h' news' → J j news' → WhlRest prog w A E env test body orelse Q 0 { s with heap := h', toks := tk' }) →
      wpAny (model prog w) A (isTrue test env (eval test env)) (fun b s₂ => WhlIf b (wpAny (model prog w) A (execs body env) (WhlPost prog w A E env test body orelse Q 0) E s₂) (wpAny (model prog w) A (execs orelse env) Q E s₂)) E { s with heap := h, toks := tk }) :
    WhlRest prog w A E env test body orelse Q 0 { s with heap := h0, toks := tk0 } :=
  whl_ind (fun i s' => ∃ h tk news, s' = { s with heap := h, toks := tk } ∧ Fr g L h m ∧ News g L h news ∧ J i news) meas i₀ hE ⟨h0, tk0, news₀, rfl, F, N, hJ⟩ fun i s' ⟨h, tk, news, e, F', N', hJ'⟩ ih => by
    subst e
    exact step i h tk news F' N' hJ' fun j h' tk' news' hj F'' N'' hJ'' => ih j _ hj ⟨h', tk', news', rfl, F'', N'', hJ''⟩
end
def diffs : List Int → List Int
  | a :: b :: r => (b - a) :: diffs (b :: r)
  | _ => []
theorem diffs_length : ∀ l : List Int, (diffs l).length = l.length - 1
  | [] => rfl
  | [_] => rfl
  | a :: b :: r => by simp [diffs, diffs_length (b :: r)]
def newton (l : List Int) : List Int := match l with
  | [] => []
  | a :: r => a :: newton (diffs (a :: r))
termination_by l.length
decreasing_by simp [diffs_length]
theorem diffs_get : ∀ (l : List Int) (i : Nat), i < l.length - 1 → (diffs l).getD i 0 = l.getD (i + 1) 0 - l.getD i 0
  | [], i, h => by simp at h
  | [_], i, h => by simp at h
  | a :: b :: r, 0, _ => by simp [diffs]
  | a :: b :: r, i + 1, h => by
    have := diffs_get (b :: r) i (by simpa using h)
    simpa [diffs] using this
theorem diffs_eq (l : List Int) (n : Nat) (hn : n = l.length - 1) : (rangeKs 0 n).map (fun k => l.getD (k + 1).toNat 0 - l.getD k.toNat 0) = diffs l := by
  subst hn
  apply List.ext_getElem
  · rw [List.length_map, rangeKs_length, diffs_length]
  · intro i h1 h2
    have h3 : i < l.length - 1 := by rw [diffs_length] at h2; exact h2
    have := diffs_get l i h3
    rw [List.getD_eq_getElem?_getD, List.getElem?_eq_getElem h2, Option.getD_some] at this
    rw [this]
    simp [rangeKs]
end

section
open PyProof.Rows.LCg
def TabMade (c1 c2 : Addr) (h : Heap) : Prop := h.get? 44 = some (tabObj #[rawInt 50, rawInt 4, .ref c1]) ∧ h.CodeRec (.ref c1) "_int2digits.<locals>.inner" ∧ h.get? 51 = some (tabObj #[rawInt 65, rawInt 4, .ref c2]) ∧ h.CodeRec (.ref c2) "_digits2int.<locals>.inner"
theorem TabMade.keeps {c1 c2 : Addr} {h h' : Heap} (x : TabMade c1 c2 h) (k : ∀ b o, h.get? b = some o → h'.get? b = some o) : TabMade c1 c2 h' := ⟨k _ _ x.1, x.2.1.keeps k, k _ _ x.2.2.1, x.2.2.2.keeps k⟩
def NoFields : Led → Prop
  | [] => True
  | p :: r => (∀ vs, p.2.data ≠ .fields vs) ∧ NoFields r
theorem NoFields.at {l : Led} (h : NoFields l) : ∀ p ∈ l, ∀ vs, p.2.data ≠ .fields vs := by
  induction l with
  | nil => intro p hp; cases hp
  | cons q r ih =>
    intro p hp
    have h' : (∀ vs, q.2.data ≠ .fields vs) ∧ NoFields r := h
    cases hp with
    | head => exact h'.1
    | tail _ hp => exact ih h'.2 p hp
theorem TabMade.ground {c1 c2 : Addr} {s : Shared} {news : Led} {g h₀ : Heap} {L : Addr} (x : TabMade c1 c2 s.heap) (hg : Gk s news g) (N : News h₀ L s.heap news) (nf : NoFields news) : TabMade c1 c2 g := by
  have kp : ∀ b o vs, s.heap.get? b = some o → o.data = .fields vs → g.get? b = some o := fun b o vs e hd => hg.1 b o (fun hm => by
    obtain ⟨q, hq, rfl⟩ := List.mem_map.mp hm
    have := (N q hq).1
    rw [e] at this; cases this
    exact nf.at q hq vs hd) e
  have cr : ∀ c q, s.heap.CodeRec (.ref c) q → g.CodeRec (.ref c) q := fun c q ⟨c', o, vs, t, e, ho, hd, hv⟩ => ⟨c', o, vs, t, e, kp _ _ vs ho hd, hd, hv⟩
  exact ⟨kp _ _ _ x.1 rfl, cr _ _ x.2.1, kp _ _ _ x.2.2.1 rfl, cr _ _ x.2.2.2⟩

def CtM (w : World) (c1 c2 : Addr) (f : Addr) (vs : List Value) (min : Led) (dep : Nat) (mod : Addr → Prop) (Rt : Value → Led → Prop) : Prop :=
  ∀ (p : Program) (loose : List Str) (mean : ExcName → Option Value) (mg mb : Str → Option Value)
    (dp un : Nat) (gd : Option (List Code)) (env : Env) (outer : List Env) (A₀ : Around) (base h₀ : Heap) (L : Addr) (m : Str → Option Value) (s : Shared) (Q E : Value → Shared → Prop),
    Below A₀ base outer h₀ → Fr h₀ L s.heap m → (hd.heap_39 w.params).In h₀ → News h₀ L s.heap min → Top p loose mean mg mb h₀ → CodeHd base 55 51 → CodeHd base 48 44 → TabMade c1 c2 s.heap → env.frame = some L → env.scope.kind = .function →
    dp + dep < 1000 → un + 8 * dep < 9000 →
    (∀ (r : Value) (ext : Led) (h' : Heap) (tk' : Nat), Fr h₀ L h' m → News h₀ L h' ext → (∀ b o, s.heap.get? b = some o → ¬ mod b → h'.get? b = some o) → (∀ p ∈ ext, mod p.1 ∨ s.heap.objs.size ≤ p.1) → Rt r ext →
      Q r { s with heap := h', toks := tk' }) →
    wpAny (model PySem.Challenge.rw_hr0001_01.row.prog w) (aroundOf dp un gd env outer) (call (.ref f) vs) Q E s
theorem CtM.use {w : World} {c1 c2 : Addr} {f : Addr} {vs : List Value} {min : Led} {dep : Nat} {Rt : Value → Led → Prop} (C : CtM w c1 c2 f vs min dep (fun _ => False) Rt)
    {p : Program} {loose : List Str} {mean : ExcName → Option Value} {mg mb : Str → Option Value}
    {dp un : Nat} {gd : Option (List Code)} {env : Env} {outer : List Env} {A₀ : Around} {base h₀ : Heap} {L : Addr} {m : Str → Option Value} {s : Shared} {Q E : Value → Shared → Prop} {led : Led}
    (B : Below A₀ base outer h₀) (F : Fr h₀ L s.heap m) (X : (hd.heap_39 w.params).In h₀) (N : News h₀ L s.heap led) (T : Top p loose mean mg mb h₀) (k1 : CodeHd base 55 51) (k2 : CodeHd base 48 44) (TM : TabMade c1 c2 s.heap) (hf : env.frame = some L) (hk : env.scope.kind = .function)
    (hdp : dp + dep < 1000) (hun : un + 8 * dep < 9000) (hsub : ∀ p ∈ min, p ∈ led)
    (k : ∀ (r : Value) (ext : Led) (h' : Heap) (tk' : Nat), Fr h₀ L h' m → News h₀ L h' (ext ++ led) → (∀ p ∈ ext, AllLt p.1 led) → Rt r ext → Q r { s with heap := h', toks := tk' }) :
    wpAny (model PySem.Challenge.rw_hr0001_01.row.prog w) (aroundOf dp un gd env outer) (call (.ref f) vs) Q E s :=
  C p loose mean mg mb dp un gd env outer A₀ base h₀ L m s Q E B F X (fun p hp => N p (hsub p hp)) T k1 k2 TM hf hk hdp hun fun r ext h' tk' F' N' hkp hnew hR =>
    k r ext h' tk' F' (news_call N N' hkp fun _ _ => id) (fun p hp => allLt_call N ((hnew p hp).elim False.elim id)) hR
theorem CtM.useD {w : World} {c1 c2 : Addr} {f : Addr} {vs : List Value} {min : Led} {dep : Nat} {D : Addr} {o : Obj} {Ro : Obj → Prop} (C : CtM w c1 c2 f vs min dep (fun b => b = D) (fun r ext => r = .none ∧ ∃ o', ext = [(D, o')] ∧ Ro o'))
    {p : Program} {loose : List Str} {mean : ExcName → Option Value} {mg mb : Str → Option Value}
    {dp un : Nat} {gd : Option (List Code)} {env : Env} {outer : List Env} {A₀ : Around} {base h₀ : Heap} {L : Addr} {m : Str → Option Value} {s : Shared} {Q E : Value → Shared → Prop} {led : Led} {g : Obj → Led}
    (B : Below A₀ base outer h₀) (F : Fr h₀ L s.heap m) (X : (hd.heap_39 w.params).In h₀) (N : News h₀ L s.heap led) (T : Top p loose mean mg mb h₀) (k1 : CodeHd base 55 51) (k2 : CodeHd base 48 44) (TM : TabMade c1 c2 s.heap) (hf : env.frame = some L) (hk : env.scope.kind = .function)
    (hdp : dp + dep < 1000) (hun : un + 8 * dep < 9000) (hsub : ∀ p ∈ min, p ∈ led) (U : UpdF D o led g)
    (k : ∀ (o' : Obj) (h' : Heap) (tk' : Nat), Fr h₀ L h' m → News h₀ L h' (g o') → Ro o' → Q .none { s with heap := h', toks := tk' }) :
    wpAny (model PySem.Challenge.rw_hr0001_01.row.prog w) (aroundOf dp un gd env outer) (call (.ref f) vs) Q E s :=
  C p loose mean mg mb dp un gd env outer A₀ base h₀ L m s Q E B F X (fun p hp => N p (hsub p hp)) T k1 k2 TM hf hk hdp hun fun r ext h' tk' F' N' hkp hnew hR => by
    obtain ⟨rfl, o', rfl, hR⟩ := hR
    obtain ⟨own, rest, rfl, hg, h1, h2⟩ := U.split
    refine k o' h' tk' F' (hg o' ▸ fun p hp => ?_) hR
    rcases List.mem_append.mp hp with hp | hp
    · have n := N p (List.mem_append_left _ hp)
      exact ⟨hkp _ _ n.1 (h1 p hp), n.2⟩
    · rcases List.mem_cons.mp hp with rfl | hp
      · exact N' _ (.head _)
      · have n := N p (List.mem_append_right _ (.tail _ hp))
        exact ⟨hkp _ _ n.1 (h2 p hp), n.2⟩
section
variable {M : Model} {A : Around} {E : Value → Shared → Prop} {s : Shared} {h₀ : Heap} {L a c P : Addr} {m mg mb : Str → Option Value} {cn : Str} {cs : Scope} {ccd : Value} {cl : List (Str × Addr)} {news : Led}
  {p : Program} {loose : List Str} {mean : ExcName → Option Value} {name qual : Str} {params : Arguments} {body : List Stmt} {scope : Scope} {ps : Array Value} {pos : Pos} {firstLine : Nat} {clos : List (Str × Addr)}
theorem nestHit_G {Q : Value → Shared → Prop} {c' : Addr} (F : Fr h₀ L s.heap m) (N : News h₀ L s.heap news) (T : Top p loose mean mg mb h₀) (C : CodeHd h₀ c P) (hcd : ccd = .ref c) (hP : h₀.get? P = some (tabObj ps)) (ht : TriplesOk ps.toList) (hf : codeAmong pos ps.toList = some (.ref c'))
    (hcl : closureFor scope (envX cn cs L a ccd cl) = pure clos)
    (h : ∀ f ctv doc h' tk, Fr h₀ L h' m → News h₀ L h' ((f, fnMade name qual params body scope clos doc ((mg "__name__").getD .none) c' ctv) :: news) → (∀ q ∈ news, q.1 < f) → Q (.ref f) { s with heap := h', toks := tk }) :
    wpAny M A (makeFunction name qual params (.stmts body) scope (envX cn cs L a ccd cl) [] [] [] pos firstLine) Q E s := by
  have hm := F.keep _ _ hP
  have hgs := T.g.keeps F.keep
  obtain ⟨bm, ob, b1, b2, b3, b4, b5, b6⟩ := T.bmain
  have hbP : bm ≠ P := fun q => by
    rw [q, hP] at b3; cases b3; cases b4
  have hbG : bm ≠ mainGlobals := fun q => by
    obtain ⟨o, es, ep, e, hd, _⟩ := T.g
    rw [q, e] at b3; cases b3; rw [hd] at b6; cases b6
  refine makeFunction_hit (mg := mg) hcl rfl hgs hcd (C.keeps F.keep) hm ht hf ⟨bm, ob, b1, b2, hbG, hbP, F.keep _ _ b3, b4, b5, b6⟩ fun ctv doc h' tk hk hsz => ?_
  have hLs : L < h'.objs.size := Nat.lt_of_lt_of_le F.ns.lt hsz
  have fresh : ∀ b, L < b → h₀.get? b = none := fun b hb => Heap.get?_none_of_le (Nat.le_trans F.above (Nat.le_of_lt hb))
  refine h h'.objs.size ctv doc _ tk ⟨(F.ns.keeps hk).push _, fun b o e => Heap.get?_push_of_some _ (hk b o (F.keep b o e)), F.above⟩ (fun q hq => ?_) (fun q hq => Nat.lt_of_lt_of_le (Heap.lt_size (N q hq).1) hsz)
  rcases List.mem_cons.mp hq with rfl | hq
  · exact ⟨Heap.get?_push_size _ rfl, Nat.ne_of_gt hLs, fresh _ hLs⟩
  · exact ⟨Heap.get?_push_of_some _ (hk _ _ (N q hq).1), (N q hq).2⟩
theorem news_abs {h : Heap} {f : Addr} {o : Obj} {rest : Led} (N : News h₀ L h ((f, o) :: rest)) : ∃ of, of = o ∧ News h₀ L h ((f, of) :: rest) := ⟨o, rfl, N⟩
end
section
variable {prog : Program} {w : World} {A A₀ : Around} {s : Shared} {K : Frag} {L : Addr} {h₀ base : Heap} {m mg mb : Str → Option Value} {news : Led} {p : Program} {loose : List Str} {mean : ExcName → Option Value}
theorem code_nestF {env : Env} {outer : List Env} {R : Result → Shared → Prop} {name qual : Str} {params : Arguments} {body : List Stmt} {scope : Scope} {cl : List (Str × Addr)} {doc pm ctv : Value} {c' : Addr} {f : Addr} {args : Args} {binds : List (Str × Value)}
    (B : Below A₀ base outer h₀) (F : Fr h₀ L s.heap m) (X₀ : K.In h₀) (N : News h₀ L s.heap news) (T : Top p loose mean mg mb h₀) (hA : A.frames = some (env :: outer)) (hf : env.frame = some L) (hke : env.scope.kind = .function)
    (ho : (f, fnMade name qual params body scope cl doc pm c' ctv) ∈ news) (hcd : s.heap.CodeRec (.ref c') qual) (hroom : A.depth < recursionLimit)
    (hbind : BindsTo s (fnX name qual params body scope cl .none .none doc pm none (.ref c') ctv) args binds) (hloc : ∀ y ∈ binds, scope.names.lookup y.1 = some .local)
    (h : ∀ tk g L' h₁, Gk s news g → L' = s.heap.objs.size → Fr h₀ L g m → Fr g L' h₁ (fun y => binds.reverse.lookup y) → News g L' h₁ news → Below A base (env :: outer) g → K.In g → Top p loose mean mg mb g → (∀ p ∈ news, p.1 < L') →
      wpAny (model prog w) (A.deeper (envX qual scope L' f (.ref c') cl)) (execs body (envX qual scope L' f (.ref c') cl))
        (fun fl s' => LeaveK h₀ L m g R (match fl with | .ret v => v | _ => .none) s')
        (fun e s' => wpAny (model prog w) (A.deeper (envX qual scope L' f (.ref c') cl)) (leaving (envX qual scope L' f (.ref c') cl) e) (fun _ s'' => R (.error e) s'') (fun e' s'' => R (.error e') s'') s')
        { s with heap := h₁, toks := tk })
    (hco : scope.isCoroutine = false) (hgen : scope.isGenerator = false) (hk : scope.kind = .function)
    (hcell : ∀ x ∈ scope.names, x.2 ≠ .cell) : codeAny (model prog w) A (.call (.ref f) args) R s := by
  obtain ⟨FG, BG, st, lv⟩ := groundX (R := R) B F N hA hf hke
  refine codeAny_call_def (fd := fnX name qual params body scope cl .none .none doc pm none (.ref c') ctv) (body := body) (binds := binds) hroom (N _ ho).1 rfl (T.nolimit.keeps F.keep) hcd rfl hbind hcell hloc (fun h₁ hns hk₁ => ?_) hco hgen hk
  exact wpAny_mono (h _ _ s.heap.objs.size h₁ ⟨fun b o hb e => hideAll_get _ e hb, hideAll_size _ _⟩ rfl FG ⟨hns, fun b o e => hk₁ b o (of_hideAll _ e), Nat.le_of_eq (hideAll_size _ _)⟩
    (fun p hp => ⟨hk₁ _ _ (N p hp).1, Nat.ne_of_lt (Heap.lt_size (N p hp).1), hideAll_none _ (List.mem_map_of_mem hp)⟩) BG (X₀.keeps st) (T.keeps st) (fun p hp => Heap.lt_size (N p hp).1)) (fun fl s' hl => lv _ _ hl) fun _ _ y => y
end
end

section
open PyProof.Rows.LCg
def valD (n : Nat) : List Int → Int
  | [] => 0
  | d :: r => d + 2 ^ n * valD n r
theorem int_eq {a b : Int} {t : Tok} (h : a = b) : Value.int a t = .int b t := by rw [h]
theorem pow_pos2 (k : Nat) : (0 : Int) < 2 ^ k := Int.pow_pos (by decide)
theorem valD_append (n : Nat) : ∀ a b : List Int, valD n (a ++ b) = valD n a + 2 ^ (n * a.length) * valD n b
  | [], b => by simp [valD]
  | d :: r, b => by
    rw [List.cons_append, valD, valD, valD_append n r b, List.length_cons, Nat.mul_succ, Int.pow_add, Int.mul_add]
    have : (2 : Int) ^ n * (2 ^ (n * r.length) * valD n b) = 2 ^ (n * r.length) * 2 ^ n * valD n b := by
      rw [← Int.mul_assoc, Int.mul_comm (2 ^ n) (2 ^ (n * r.length))]
    rw [this]; omega
theorem valD_nonneg (n : Nat) : ∀ a : List Int, (∀ d ∈ a, 0 ≤ d) → 0 ≤ valD n a
  | [], _ => by simp [valD]
  | d :: r, h => by
    have h1 := h d (.head _)
    have h2 := valD_nonneg n r fun x hx => h x (.tail _ hx)
    have h3 := Int.mul_nonneg (Int.le_of_lt (pow_pos2 n)) h2
    rw [valD]; omega
theorem valD_one (n : Nat) (d : Int) : valD n [d] = d := by simp [valD]
theorem slice_split (ds : List Int) {lo mid hi : Nat} (h1 : lo ≤ mid) (h2 : mid ≤ hi) : (ds.drop lo).take (hi - lo) = (ds.drop lo).take (mid - lo) ++ (ds.drop mid).take (hi - mid) := by
  have e : hi - lo = (mid - lo) + (hi - mid) := by omega
  rw [e, List.take_add, List.drop_drop]
  congr 3
  omega
theorem le_pow_mul {k : Nat} {x : Int} (h : 0 ≤ x) : x ≤ 2 ^ k * x := by
  have h1 : (1 : Int) ≤ 2 ^ k := by have := pow_pos2 k; omega
  have := Int.mul_le_mul_of_nonneg_right h1 h
  omega
theorem valD_slice (n : Nat) (ds : List Int) (h0 : ∀ d ∈ ds, 0 ≤ d) (lo k : Nat) : 0 ≤ valD n ((ds.drop lo).take k) ∧ valD n ((ds.drop lo).take k) ≤ valD n ds := by
  have nn : ∀ l : List Int, (∀ d ∈ l, d ∈ ds) → 0 ≤ valD n l := fun l hl => valD_nonneg n l fun d hd => h0 d (hl d hd)
  have hA := nn (ds.take lo) fun d hd => List.mem_of_mem_take hd
  have hS := nn ((ds.drop lo).take k) fun d hd => List.mem_of_mem_drop (List.mem_of_mem_take hd)
  have hR := nn ((ds.drop lo).drop k) fun d hd => List.mem_of_mem_drop (List.mem_of_mem_drop hd)
  refine ⟨hS, ?_⟩
  have e1 : valD n ds = valD n (ds.take lo) + 2 ^ (n * (ds.take lo).length) * valD n (ds.drop lo) := by
    rw [← valD_append, List.take_append_drop]
  have e2 : valD n (ds.drop lo) = valD n ((ds.drop lo).take k) + 2 ^ (n * ((ds.drop lo).take k).length) * valD n ((ds.drop lo).drop k) := by
    rw [← valD_append, List.take_append_drop]
  have h3 := Int.mul_nonneg (Int.le_of_lt (pow_pos2 (n * ((ds.drop lo).take k).length))) hR
  have h4 : 0 ≤ valD n (ds.drop lo) := by omega
  have h5 := le_pow_mul (k := n * (ds.take lo).length) h4
  omega
theorem fdiv_two (a : Int) : a.fdiv (2 ^ Int.toNat 1) = a / 2 := by
  rw [show (2 : Int) ^ Int.toNat 1 = 2 from rfl, Int.fdiv_eq_ediv_of_nonneg _ (by decide)]
theorem nat_low (x k : Nat) : x &&& (x / 2 ^ k * 2 ^ k) = x / 2 ^ k * 2 ^ k := by
  apply Nat.eq_of_testBit_eq
  intro i
  rw [Nat.testBit_and, ← Nat.shiftLeft_eq, ← Nat.shiftRight_eq_div_pow, Nat.testBit_shiftLeft, Nat.testBit_shiftRight]
  by_cases h : i ≥ k
  · simp [h, show k + (i - k) = i by omega]
  · simp [h]
theorem xor_low (x : Int) (k : Nat) (hx : 0 ≤ x) : Builtin.bitXor x (x.fdiv (2 ^ k) * 2 ^ k) = x.fmod (2 ^ k) := by
  obtain ⟨m, rfl⟩ := Int.eq_ofNat_of_zero_le hx
  have hp : (2 : Int) ^ k = ((2 ^ k : Nat) : Int) := by simp
  have e1 : (m : Int).fdiv (2 ^ k) = ((m / 2 ^ k : Nat) : Int) := by
    rw [hp, Int.fdiv_eq_ediv_of_nonneg _ (Int.natCast_nonneg _)]; rfl
  have e2 : (m : Int).fmod (2 ^ k) = ((m % 2 ^ k : Nat) : Int) := by
    rw [hp, Int.fmod_eq_emod_of_nonneg _ (Int.natCast_nonneg _)]; rfl
  rw [e1, e2, hp, ← Int.natCast_mul, bitXor_and, bitAnd_pp (Int.natCast_nonneg _) (Int.natCast_nonneg _), Int.toNat_natCast, Int.toNat_natCast, nat_low]
  have := Nat.div_add_mod' m (2 ^ k)
  omega
theorem fdm (x : Int) (k : Nat) (hx : 0 ≤ x) : x.fmod (2 ^ k) + 2 ^ k * x.fdiv (2 ^ k) = x ∧ 0 ≤ x.fmod (2 ^ k) ∧ 0 ≤ x.fdiv (2 ^ k) ∧ x.fmod (2 ^ k) ≤ x ∧ x.fdiv (2 ^ k) ≤ x := by
  have hp := pow_pos2 k
  rw [Int.fdiv_eq_ediv_of_nonneg _ (Int.le_of_lt hp), Int.fmod_eq_emod_of_nonneg _ (Int.le_of_lt hp)]
  have h1 := Int.emod_add_mul_ediv x (2 ^ k)
  have h2 := Int.emod_nonneg x (Int.ne_of_gt hp)
  have h3 : 0 ≤ x / 2 ^ k := Int.ediv_nonneg hx (Int.le_of_lt hp)
  have h4 := Int.ediv_le_self (2 ^ k) hx
  have h5 := Int.mul_nonneg (Int.le_of_lt hp) h3
  exact ⟨h1, h2, h3, by omega, h4⟩
theorem ints_replicate (t : Tok) : ∀ k : Nat, IntsAre (List.replicate k (.int 0 t)) (List.replicate k 0)
  | 0 => .nil
  | k + 1 => .cons 0 t (ints_replicate t k)
theorem flat_replicate (v : Value) : ∀ k : Nat, (List.replicate k [v]).flatten = List.replicate k v
  | 0 => rfl
  | k + 1 => by rw [List.replicate_succ, List.flatten_cons, flat_replicate v k]; rfl
theorem IntsAre.setAt {x : Int} {t : Tok} : ∀ {vs : List Value} {ns : List Int} (i : Nat), IntsAre vs ns → IntsAre (vs.set i (.int x t)) (ns.set i x)
  | _, _, _, .nil => .nil
  | _, _, 0, .cons _ _ h => .cons x t h
  | _, _, i + 1, .cons n u h => .cons n u (IntsAre.setAt i h)
theorem set_slice (cur : List Int) (lo : Nat) (x : Int) (h : lo < cur.length) : cur.set lo x = cur.take lo ++ [x] ++ cur.drop (lo + 1) := by
  rw [List.set_eq_take_append_cons_drop, if_pos h, List.append_assoc]; rfl
theorem slice_join (cur new1 : List Int) {lo mid hi : Nat} (h : new1.length = mid - lo) (h1 : lo ≤ mid) (h2 : mid ≤ hi) (h3 : hi ≤ cur.length) :
    (cur.take lo ++ new1 ++ cur.drop mid).take mid = cur.take lo ++ new1 ∧ (cur.take lo ++ new1 ++ cur.drop mid).drop hi = cur.drop hi ∧ (cur.take lo ++ new1 ++ cur.drop mid).length = cur.length := by
  have hl : (cur.take lo ++ new1).length = mid := by rw [List.length_append, List.length_take, h, Nat.min_eq_left (by omega)]; omega
  refine ⟨?_, ?_, ?_⟩
  · rw [List.take_append_of_le_length (by omega), List.take_of_length_le (by omega)]
  · obtain ⟨k, rfl⟩ : ∃ k, hi = mid + k := ⟨hi - mid, by omega⟩
    have e : ((cur.take lo ++ new1) ++ cur.drop mid).drop ((cur.take lo ++ new1).length + k) = (cur.drop mid).drop k := by
      rw [List.drop_append, List.drop_eq_nil_of_le (by omega), List.nil_append]
      congr 1
      omega
    rw [hl] at e
    rw [e, List.drop_drop]
  · rw [List.length_append, hl, List.length_drop]; omega
end

section
open PyProof.Rows.LCg
section
variable {prog : Program} {w : World} {A : Around} {E : Value → Shared → Prop} {s : Shared} {env : Env} {h₀ : Heap} {x : Str} {body : List Stmt} {Q : Flow → Shared → Prop}
theorem unrPost_mono {L I : Addr} {it : Obj} {r r' : (Str → Option Value) → Led → Prop} {s₁ s₂ : Shared} {f : Flow} (hr : ∀ m n, r m n → r' m n) (h : UnrPost h₀ L s₁ I it r Q f s₂) : UnrPost h₀ L s₁ I it r' Q f s₂ := by
  have e : UnrEnd h₀ L s₁ I it r s₂ → UnrEnd h₀ L s₁ I it r' s₂ := fun ⟨h', tk, m', news', e, F', N', ho, q⟩ => ⟨h', tk, m', news', e, F', N', ho, hr _ _ q⟩
  cases f with
  | ret v => exact h
  | brk => exact h
  | next => exact e h
  | cont => exact e h
theorem revRest_ind {I : Addr} {lp : Addr × Obj} (J : List Value → (Str → Option Value) → Led → Prop)
    (step : ∀ v r m news, J (v :: r) m news → ∀ (it : Obj) h tk, it.cls = .type "list_reverseiterator" → Fr h₀ env.locals h (fun y => if y = x then some v else m y) → News h₀ env.locals h ((I, it) :: news) →
      wpAny (model prog w) A (execs body env) (UnrPost h₀ env.locals { s with heap := h, toks := tk } I it (fun m' n' => lp ∈ n' ∧ J r m' n') Q) E { s with heap := h, toks := tk })
    (fin : ∀ m news, J [] m news → ∀ h tk, Fr h₀ env.locals h m → News h₀ env.locals h news → Q .next { s with heap := h, toks := tk }) :
    ∀ l m news, J l m news → RevRest prog w A E h₀ env x body Q s I lp l m news
  | [], m, news, hJ => RevRest.zero fun h tk F N => fin m news hJ h tk F N
  | v :: r, m, news, hJ => RevRest.succ fun it h tk hc F N => wpAny_mono (step v r m news hJ it h tk hc F N) (fun f s₂ p => unrPost_mono (fun m' n' q => ⟨q.1, revRest_ind J step fin r m' n' q.2⟩) p) fun _ _ e => e
end
section
variable {w : World} {c1 c2 : Addr} {f : Addr} {vs : List Value} {min : Led} {dep : Nat} {Rt : Value → Led → Prop}
    {p : Program} {loose : List Str} {mean : ExcName → Option Value} {mg mb : Str → Option Value}
    {dp un : Nat} {gd : Option (List Code)} {env : Env} {outer : List Env} {A₀ : Around} {base h₀ : Heap} {L : Addr} {m : Str → Option Value} {s : Shared} {Q E : Value → Shared → Prop} {led : Led}
theorem CtM.useN (C : CtM w c1 c2 f vs min dep (fun _ => False) Rt)
    (B : Below A₀ base outer h₀) (F : Fr h₀ L s.heap m) (X : (hd.heap_39 w.params).In h₀) (N : News h₀ L s.heap led) (T : Top p loose mean mg mb h₀) (k1 : CodeHd base 55 51) (k2 : CodeHd base 48 44) (TM : TabMade c1 c2 s.heap) (hf : env.frame = some L) (hk : env.scope.kind = .function)
    (hdp : dp + dep < 1000) (hun : un + 8 * dep < 9000) (hsub : ∀ p ∈ min, p ∈ led)
    (k : ∀ (r : Value) (ext : Led) (h' : Heap) (tk' : Nat), Fr h₀ L h' m → News h₀ L h' (ext ++ led) → (∀ p ∈ ext, @LT.lt Nat _ L p.1 ∧ AllLt p.1 led) → Rt r ext → Q r { s with heap := h', toks := tk' }) :
    wpAny (model PySem.Challenge.rw_hr0001_01.row.prog w) (aroundOf dp un gd env outer) (call (.ref f) vs) Q E s :=
  C p loose mean mg mb dp un gd env outer A₀ base h₀ L m s Q E B F X (fun p hp => N p (hsub p hp)) T k1 k2 TM hf hk hdp hun fun r ext h' tk' F' N' hkp hnew hR =>
    k r ext h' tk' F' (news_call N N' hkp fun _ _ => id) (fun p hp => ⟨Nat.lt_of_lt_of_le F.ns.lt ((hnew p hp).elim False.elim id), allLt_call N ((hnew p hp).elim False.elim id)⟩) hR
theorem Ct.useN (C : Ct w f vs min dep (fun _ => False) Rt)
    (B : Below A₀ base outer h₀) (F : Fr h₀ L s.heap m) (X : (hd.heap_39 w.params).In h₀) (N : News h₀ L s.heap led) (T : Top p loose mean mg mb h₀) (k1 : CodeHd base 55 51) (k2 : CodeHd base 48 44) (hf : env.frame = some L) (hk : env.scope.kind = .function)
    (hdp : dp + dep < 1000) (hun : un + 8 * dep < 9000) (hsub : ∀ p ∈ min, p ∈ led)
    (k : ∀ (r : Value) (ext : Led) (h' : Heap) (tk' : Nat), Fr h₀ L h' m → News h₀ L h' (ext ++ led) → (∀ p ∈ ext, @LT.lt Nat _ L p.1 ∧ AllLt p.1 led) → Rt r ext → Q r { s with heap := h', toks := tk' }) :
    wpAny (model PySem.Challenge.rw_hr0001_01.row.prog w) (aroundOf dp un gd env outer) (call (.ref f) vs) Q E s :=
  C p loose mean mg mb dp un gd env outer A₀ base h₀ L m s Q E B F X (fun p hp => N p (hsub p hp)) T k1 k2 hf hk hdp hun fun r ext h' tk' F' N' hkp hnew hR =>
    k r ext h' tk' F' (news_call N N' hkp fun _ _ => id) (fun p hp => ⟨Nat.lt_of_lt_of_le F.ns.lt ((hnew p hp).elim False.elim id), allLt_call N ((hnew p hp).elim False.elim id)⟩) hR
end
theorem two_le (n : Nat) (h : n ≤ 10) : (0 : Int) < 2 ^ n ∧ (2 : Int) ^ n ≤ 1024 := by
  have h1 : (2 : Nat) ^ n ≤ 2 ^ 10 := Nat.pow_le_pow_right (by decide) h
  have h2 : 0 < (2 : Nat) ^ n := Nat.pow_pos (by decide)
  have e : ((2 : Int) ^ n) = ((2 ^ n : Nat) : Int) := by simp
  rw [e]; omega
theorem mul_box {r p A B : Int} (h0 : 0 ≤ r) (h1 : r ≤ A) (p0 : 0 < p) (p1 : p ≤ B) : 0 ≤ r * p ∧ r * p ≤ A * B :=
  ⟨Int.mul_nonneg h0 (by omega), Int.mul_le_mul h1 p1 (by omega) (by omega)⟩
theorem horner_step {n : Nat} {a b d r : Int} {qs rem : List Int} (hb : 0 < b) (h : a = valD n (d :: rem).reverse + 2 ^ (n * (d :: rem).length) * (valD n qs.reverse * b + r)) :
    a = valD n rem.reverse + 2 ^ (n * rem.length) * (valD n (qs ++ [(r * 2 ^ n + d).fdiv b]).reverse * b + (r * 2 ^ n + d).fmod b) := by
  rw [List.reverse_cons, valD_append, List.length_reverse, valD_one, List.length_cons, Nat.mul_succ, Int.pow_add] at h
  rw [List.reverse_append, List.reverse_singleton, List.singleton_append, valD]
  have e := Int.mul_fdiv_add_fmod (r * 2 ^ n + d) b
  generalize (r * 2 ^ n + d).fdiv b = q at *
  generalize (r * 2 ^ n + d).fmod b = r' at *
  rw [h, Int.add_assoc]
  congr 1
  rw [Int.mul_assoc, ← Int.mul_add]
  congr 1
  rw [Int.add_mul, Int.mul_add, Int.mul_assoc, Int.mul_comm q b, Int.mul_comm (2 ^ n) r]
  omega
theorem fdm_unique {a b q r : Int} (hb : 0 < b) (h : a = q * b + r) (h0 : 0 ≤ r) (h1 : r < b) : a.fdiv b = q ∧ a.fmod b = r := by
  have e := Int.mul_fdiv_add_fmod a b
  have f0 := Int.fmod_nonneg_of_pos a hb
  have f1 := Int.fmod_lt_of_pos a hb
  have k : b * (a.fdiv b - q) = r - a.fmod b := by rw [Int.mul_sub, Int.mul_comm b q]; omega
  have z : a.fdiv b - q = 0 := by
    rcases Int.lt_trichotomy (a.fdiv b - q) 0 with h | h | h
    · have := Int.mul_le_mul_of_nonneg_left (show a.fdiv b - q ≤ -1 by omega) (Int.le_of_lt hb)
      omega
    · exact h
    · have := Int.mul_le_mul_of_nonneg_left (show 1 ≤ a.fdiv b - q by omega) (Int.le_of_lt hb)
      omega
  rw [z, Int.mul_zero] at k
  omega
theorem inv_divmod {a b : Int} (hb : 0 < b) : -((-a - 1).fdiv b) - 1 = a.fdiv b ∧ b + (-((-a - 1).fmod b) - 1) = a.fmod b := by
  have e := Int.mul_fdiv_add_fmod (-a - 1) b
  have f0 := Int.fmod_nonneg_of_pos (-a - 1) hb
  have f1 := Int.fmod_lt_of_pos (-a - 1) hb
  have := fdm_unique (a := a) (q := -((-a - 1).fdiv b) - 1) (r := b + (-((-a - 1).fmod b) - 1)) hb (by rw [Int.sub_mul, Int.neg_mul, Int.mul_comm]; omega) (by omega) (by omega)
  exact ⟨this.1.symm, this.2.symm⟩
theorem neg_divmod (a b : Int) : (-a).fdiv (-b) = a.fdiv b ∧ -((-a).fmod (-b)) = a.fmod b := by
  simp [Int.neg_fdiv_neg, Int.neg_fmod_neg]
def TabExt (c1 c2 : Addr) (o1 o2 : Obj) : Led := [(51, tabObj #[rawInt 65, rawInt 4, .ref c2]), (c2, o2), (44, tabObj #[rawInt 50, rawInt 4, .ref c1]), (c1, o1)]
def CodeOf (o : Obj) (q : Str) : Prop := ∃ (v : Array Value) (t : Tok), o.data = .fields v ∧ v[1]? = some (.str q t)
theorem TabMade.of_ext {c1 c2 : Addr} {o1 o2 : Obj} {h₀ h : Heap} {L : Addr} (N : News h₀ L h (TabExt c1 c2 o1 o2)) (x1 : CodeOf o1 "_int2digits.<locals>.inner") (x2 : CodeOf o2 "_digits2int.<locals>.inner") : TabMade c1 c2 h := by
  obtain ⟨v1, t1, d1, e1⟩ := x1
  obtain ⟨v2, t2, d2, e2⟩ := x2
  exact ⟨(N _ (.tail _ (.tail _ (.head _)))).1, ⟨c1, o1, v1, t1, rfl, (N _ (.tail _ (.tail _ (.tail _ (.head _))))).1, d1, e1⟩, (N _ (.head _)).1, ⟨c2, o2, v2, t2, rfl, (N _ (.tail _ (.head _))).1, d2, e2⟩⟩
section
variable {prog : Program} {w : World} {A : Around} {E : Value → Shared → Prop} {s : Shared} {L : Addr} {h₀ : Heap} {m : Str → Option Value} {news : Led}
theorem newDict_L {env : Env} {pos : Pos} {Q : Value → Shared → Prop} (F : Fr h₀ L s.heap m) (N : News h₀ L s.heap news) (hbig : h₀.NoLimit)
    (k : ∀ d h' o, Fr h₀ L h' m → News h₀ L h' ((d, o) :: news) → (∀ p ∈ news, p.1 < d) → @LT.lt Nat _ L d → (d == sysModules) = false → o.IsDictOf (intKind prog w) [] → Q (.ref d) { s with heap := h' }) : wpAny (model prog w) A (eval (.Dict [] [] pos) env) Q E s :=
  Dict_empty_made2 F N (modules_low hbig) fun h' o F' N' lo _ _ c _ _ => k _ h' o F' N' (fun p hp => Heap.lt_size (N p hp).1) F.ns.lt lo c
end
theorem CtM.mono {w : World} {c1 c2 : Addr} {f : Addr} {vs : List Value} {min : Led} {d : Nat} {mod : Addr → Prop} {Rt Rt' : Value → Led → Prop} (C : CtM w c1 c2 f vs min d mod Rt) (h : ∀ r ext, Rt r ext → Rt' r ext) : CtM w c1 c2 f vs min d mod Rt' :=
  fun p loose mean mg mb dp un gd env outer A₀ base h₀ L m s Q E B F X N T k1 k2 TM hf hk hdp hun hret => C p loose mean mg mb dp un gd env outer A₀ base h₀ L m s Q E B F X N T k1 k2 TM hf hk hdp hun fun r ext h' tk' a b c d e => hret r ext h' tk' a b c d (h _ _ e)
end
local macro_rules | `(tactic| walk_at "eval Dict nil nil") => `(tactic| (k_here; k_dflt (refine newDict_L (by k_asm) (by k_asm) (TopRead.nolimit (by k_asm)) ?_; k_whole); intro d' h' o' F' N' l1 lL lo' hi'; (try k_lt l1)))

section
open PyProof.Rows.LCg
section
variable {prog : Program} {w : World} {A : Around} {E : Value → Shared → Prop} {s : Shared} {env : Env} {h₀ : Heap} {target : Expr} {body : List Stmt} {Q : Flow → Shared → Prop}
theorem unrPostW_mono {L : Addr} {its : Led} {r r' : (Str → Option Value) → Led → Prop} {s₁ s₂ : Shared} {f : Flow} (hr : ∀ m n, r m n → r' m n) (h : UnrPostW h₀ L s₁ its r Q f s₂) : UnrPostW h₀ L s₁ its r' Q f s₂ := by
  have e : UnrEndW h₀ L s₁ its r s₂ → UnrEndW h₀ L s₁ its r' s₂ := fun ⟨h', tk, m', news', e, F', N', ho, q⟩ => ⟨h', tk, m', news', e, F', N', ho, hr _ _ q⟩
  cases f with
  | ret v => exact h
  | brk => exact h
  | next => exact e h
  | cont => exact e h
theorem enumRest_ind {I1 I2 : Addr} {c1 c2 : String} {keep : Led} (J : Nat → List Value → (Str → Option Value) → Led → Prop)
    (step : ∀ i v r m news, J i (v :: r) m news → ∀ (T' : Addr) (t' : Tok) h tk, IsTup h T' #[.int (i : Int) t', v] → Fr h₀ env.locals h m → ∀ o1 : Obj, o1.cls = .type c1 → ∀ o2 : Obj, o2.cls = .type c2 → News h₀ env.locals h ((I1, o1) :: (I2, o2) :: news) →
      ∀ q : Flow → Shared → Prop, (∀ f s₂, UnrPostW h₀ env.locals { s with heap := h, toks := tk } [(I1, o1), (I2, o2)] (fun m' n' => SubL keep n' ∧ J (i + 1) r m' n') Q f s₂ → q f s₂) →
      wpAny (model prog w) A (assign target env (.ref T')) (fun _ s₂ => wpAny (model prog w) A (execs body env) (Back q) E s₂) E { s with heap := h, toks := tk })
    (fin : ∀ i m news, J i [] m news → ∀ h tk, Fr h₀ env.locals h m → News h₀ env.locals h news → Q .next { s with heap := h, toks := tk }) :
    ∀ l i m news, J i l m news → ItemsRest prog w A E h₀ env target body Q s [(I1, c1), (I2, c2)] keep (enumItems i l) m news
  | [], i, m, news, hJ => ItemsRest.zero fun h tk F N => fin i m news hJ h tk F N
  | v :: r, i, m, news, hJ => ItemsRest.pair fun T' t' h tk hT F => AllObj.cons fun o1 e1 => AllObj.cons fun o2 e2 => AllObj.nil fun N =>
      wpAny_mono (step i v r m news hJ T' t' h tk hT F o1 e1 o2 e2 N _ fun _ _ x => x) (fun _ s₂ h₂ => wpAny_mono h₂ (fun f s₃ p => unrPostW_mono (fun m' n' q => ⟨q.1, enumRest_ind J step fin r (i + 1) m' n' q.2⟩) p) fun _ _ e => e) fun _ _ e => e
end
def waysOf (many : Int) : Nat → Int
  | 0 => 1
  | 1 => many
  | 2 => (many * (many - 1)).fdiv 2
  | _ => (many * (many - 1) * (many - 2)).fdiv 6
def wsum (n : Int) : Nat → List Int → Int
  | _, [] => 0
  | i, a :: r => a * waysOf n i + wsum n (i + 1) r
def fresh2 : Led := [(51, tabObj #[]), (44, tabObj #[])]
def inner1 : Str := "_int2digits.<locals>.inner"
def inner2 : Str := "_digits2int.<locals>.inner"
theorem CodeOf.ne_tab {o : Obj} {q : Str} {a b : Int} {c : Addr} (x : CodeOf o q) : o ≠ tabObj #[rawInt a, rawInt b, .ref c] := fun e => by
  obtain ⟨v, t, d, hv⟩ := x
  rw [e] at d; cases d; cases hv
theorem Ct.useF {w : World} {f : Addr} {vs : List Value} {dep : Nat} {RtV : Value → Prop} (C : Ct w f vs fresh2 dep (fun b => b = 51 ∨ b = 44) (fun r ext => RtV r ∧ ∃ c1 c2 o1 o2, ext = TabExt c1 c2 o1 o2 ∧ CodeOf o1 inner1 ∧ CodeOf o2 inner2))
    {p : Program} {loose : List Str} {mean : ExcName → Option Value} {mg mb : Str → Option Value}
    {dp un : Nat} {gd : Option (List Code)} {env : Env} {outer : List Env} {A₀ : Around} {base h₀ : Heap} {L : Addr} {m : Str → Option Value} {s : Shared} {Q E : Value → Shared → Prop} {all : Led} (led : Led)
    (B : Below A₀ base outer h₀) (F : Fr h₀ L s.heap m) (X : (hd.heap_39 w.params).In h₀) (N : News h₀ L s.heap all) (T : Top p loose mean mg mb h₀) (k1 : CodeHd base 55 51) (k2 : CodeHd base 48 44) (hf : env.frame = some L) (hk : env.scope.kind = .function)
    (hdp : dp + dep < 1000) (hun : un + 8 * dep < 9000) (hfr : ∀ p ∈ fresh2, p ∈ all) (hsub : ∀ p ∈ led, p ∈ all) (hoff : ∀ p ∈ led, p.1 ≠ 51 ∧ p.1 ≠ 44)
    (k : ∀ (r : Value) (c1 c2 : Addr) (o1 o2 : Obj) (h' : Heap) (tk' : Nat), Fr h₀ L h' m → News h₀ L h' (TabExt c1 c2 o1 o2 ++ led) → (@LT.lt Nat _ L c1 ∧ AllLt c1 led) → (@LT.lt Nat _ L c2 ∧ AllLt c2 led) → CodeOf o1 inner1 → CodeOf o2 inner2 → RtV r → Q r { s with heap := h', toks := tk' }) :
    wpAny (model PySem.Challenge.rw_hr0001_01.row.prog w) (aroundOf dp un gd env outer) (call (.ref f) vs) Q E s :=
  C p loose mean mg mb dp un gd env outer A₀ base h₀ L m s Q E B F X (fun p hp => N p (hfr p hp)) T k1 k2 hf hk hdp hun fun r ext h' tk' F' N' hkp hnew hR => by
    obtain ⟨hr, c1, c2, o1, o2, rfl, x1, x2⟩ := hR
    have nl : News h₀ L s.heap led := fun p hp => N p (hsub p hp)
    have big : ∀ c o, (c, o) ∈ TabExt c1 c2 o1 o2 → (∀ a b c, o ≠ tabObj #[rawInt a, rawInt b, .ref c]) → s.heap.objs.size ≤ c := fun c o hm hne => by
      rcases hnew _ hm with h | h
      · exfalso
        have g := (N' _ hm).1
        rcases h with h | h
        · have g2 := (N' _ (show (51, tabObj #[rawInt 65, rawInt 4, .ref c2]) ∈ TabExt c1 c2 o1 o2 from .head _)).1
          simp only at h g g2
          rw [h, g2] at g
          exact hne _ _ _ (Option.some.inj g).symm
        · have g2 := (N' _ (show (44, tabObj #[rawInt 50, rawInt 4, .ref c1]) ∈ TabExt c1 c2 o1 o2 from .tail _ (.tail _ (.head _)))).1
          simp only at h g g2
          rw [h, g2] at g
          exact hne _ _ _ (Option.some.inj g).symm
      · exact h
    have b1 := big c1 o1 (.tail _ (.tail _ (.tail _ (.head _)))) fun _ _ _ => x1.ne_tab
    have b2 := big c2 o2 (.tail _ (.head _)) fun _ _ _ => x2.ne_tab
    exact k r c1 c2 o1 o2 h' tk' F' (news_call nl N' hkp fun p hp => fun h => h.elim (hoff p hp).1 (hoff p hp).2) ⟨Nat.lt_of_lt_of_le F.ns.lt b1, allLt_call nl b1⟩ ⟨Nat.lt_of_lt_of_le F.ns.lt b2, allLt_call nl b2⟩ x1 x2 hr
section
variable {prog : Program} {w : World} {A : Around} {E : Value → Shared → Prop} {s : Shared} {env : Env} {h₀ : Heap} {x : Str} {body : List Stmt} {Q : Flow → Shared → Prop}
theorem rangeRest_ind {I : Addr} {a : Int} {n : Nat} (J : Nat → (Str → Option Value) → Led → Prop)
    (step : ∀ i m news, i < n → J i m news → ∀ t h tk, Fr h₀ env.locals h (fun y => if y = x then some (.int (a + (i : Int)) t) else m y) →
      News h₀ env.locals h ((I, itR (a + ((i + 1 : Nat) : Int)) ((n : Int) - ((i + 1 : Nat) : Int))) :: news) →
      wpAny (model prog w) A (execs body env) (UnrPost h₀ env.locals { s with heap := h, toks := tk } I (itR (a + ((i + 1 : Nat) : Int)) ((n : Int) - ((i + 1 : Nat) : Int))) (fun m' n' => J (i + 1) m' n') Q) E { s with heap := h, toks := tk })
    (fin : ∀ m news, J n m news → ∀ h tk, Fr h₀ env.locals h m → News h₀ env.locals h news → Q .next { s with heap := h, toks := tk }) :
    ∀ k i m news, i + k = n → J i m news → RangeRest prog w A E h₀ env x body Q s I a n k i m news
  | 0, i, m, news, e, hJ => RangeRest.zero fun h tk F N => fin m news (by rw [Nat.add_zero] at e; exact e ▸ hJ) h tk F N
  | k + 1, i, m, news, e, hJ => RangeRest.succ fun t h tk F N => wpAny_mono (step i m news (by omega) hJ t h tk F N) (fun f s₂ p => unrPost_mono (fun m' n' q => rangeRest_ind J step fin k (i + 1) m' n' (by omega) q) p) fun _ _ e => e
end
def fct : Nat → Int
  | 0 => 1
  | k + 1 => fct k * (1 + (k : Int))
theorem fct_bnd : ∀ j : Nat, j ≤ 3 → 1 ≤ fct j ∧ fct j ≤ 6 := by decide
theorem Ct.useX {w : World} {f : Addr} {vs : List Value} {mn : Led} {dep : Nat} {mod : Addr → Prop} {Rt : Value → Led → Prop} (C : Ct w f vs mn dep mod Rt)
    {p : Program} {loose : List Str} {mean : ExcName → Option Value} {mg mb : Str → Option Value}
    {dp un : Nat} {gd : Option (List Code)} {env : Env} {outer : List Env} {A₀ : Around} {base h₀ : Heap} {L : Addr} {m : Str → Option Value} {s : Shared} {Q E : Value → Shared → Prop} {all : Led} (led : Led)
    (B : Below A₀ base outer h₀) (F : Fr h₀ L s.heap m) (X : (hd.heap_39 w.params).In h₀) (N : News h₀ L s.heap all) (T : Top p loose mean mg mb h₀) (k1 : CodeHd base 55 51) (k2 : CodeHd base 48 44) (hf : env.frame = some L) (hk : env.scope.kind = .function)
    (hdp : dp + dep < 1000) (hun : un + 8 * dep < 9000) (hmn : ∀ p ∈ mn, p ∈ all) (hsub : ∀ p ∈ led, p ∈ all) (hoff : ∀ p ∈ led, ¬ mod p.1)
    (k : ∀ (r : Value) (ext : Led) (h' : Heap) (tk' : Nat), Fr h₀ L h' m → News h₀ L h' (ext ++ led) → (∀ p ∈ ext, mod p.1 ∨ (@LT.lt Nat _ L p.1 ∧ AllLt p.1 led)) → Rt r ext → Q r { s with heap := h', toks := tk' }) :
    wpAny (model PySem.Challenge.rw_hr0001_01.row.prog w) (aroundOf dp un gd env outer) (call (.ref f) vs) Q E s :=
  C p loose mean mg mb dp un gd env outer A₀ base h₀ L m s Q E B F X (fun p hp => N p (hmn p hp)) T k1 k2 hf hk hdp hun fun r ext h' tk' F' N' hkp hnew hR =>
    have nl : News h₀ L s.heap led := fun p hp => N p (hsub p hp)
    k r ext h' tk' F' (news_call nl N' hkp hoff) (fun p hp => (hnew p hp).imp id fun h => ⟨Nat.lt_of_lt_of_le F.ns.lt h, allLt_call nl h⟩) hR
theorem rs_one {a b : Int} {n : Nat} (h : b = a + n) : Builtin.Range.rangeSize a b 1 = (n : Int) := by rw [rangeSize_one]; omega
theorem sm_one {a b : Int} (ha : -1000 ≤ a ∧ a ≤ 1000) (hb : -1000 ≤ b ∧ b ≤ 1000) : Builtin.Range.small a b 1 = true := small_one (by omega) (by omega) (by omega) (by omega)
end

section
theorem walk_off_c_worth : True := by
  w_top off
  trivial
theorem worth_ct (w : World) (l : Addr) (vs : List Value) (ns : List Int) (n : Nat) (x : Int) (t : Tok) (hi : IntsAre vs ns) (hn : ns.length ≤ 4) (hx : -10 ≤ x ∧ x ≤ 10) (hb : ∀ v ∈ ns, -10 ≤ v ∧ v ≤ 10) :
    Ct w 75 [.ref l, .int x t] [(l, listOf vs.toArray n)] 2 (fun _ => False) (fun r ext => ext = [] ∧ ∃ t, r = .int ((List.range ns.length).map fun i => ns.getD i 0 * x ^ i).sum t) := by
  unfold Ct; k_fill
  intro p loose mean mg mb dp un gd env outer A₀ base h₀ L m s Q E B F X N T c1 c2 hf hk hdp hun hret
  refine wpAny_call ?_
  walk_at "my enter"
  refine hold_body fun qH qH' => ?_
  k_steps
  refine SrcE.intro (fun i k => k * x ^ i) (by rfl) (by k_asm) (by k_asm) (by is_list) (by l_ints) (by walk_at "my sz") (fun i k t t' C oC m₂ h tk E' hk hC hx hx' F' N' => ?_) ?_
  · have hik : i < ns.length := (List.getElem?_eq_some_iff.mp hk).1
    have hkb := hb k (List.mem_of_getElem? hk)
    have hi4 : i < 4 := by omega
    k_steps
  · k_steps
    exact my_ret (by assumption) (by assumption) (by assumption) hret (by assumption) (by assumption) (by assumption) ⟨rfl, _, rfl⟩ (by walk_at "my subm") (by walk_at "my sub") (by walk_at "my new")
end

section
theorem walk_off_c_differences : True := by
  w_top off
  trivial
local macro_rules | `(tactic| walk_at "exec While Compare cons nil") => `(tactic| (k_here; k_dflt (refine whl_start 0 ?_); refine Stop.at ?_))
local macro_rules | `(tactic| walk_at "WhlPost") => `(tactic| (dsimp only [WhlPost]; refine Stop.at ?_))
theorem differences_ct (w : World) (l : Addr) (vs : List Value) (ns : List Int) (n : Nat) (hi : IntsAre vs ns) (hn : ns.length ≤ 8) :
    Ct w 80 [.ref l] [(l, listOf vs.toArray n)] 2 (fun _ => False) (fun r ext => ∃ D ws k, ext = [(D, listOf ws.toArray k)] ∧ r = .ref D ∧ IntsAre ws (newton ns)) := by
  unfold Ct; k_fill
  intro p loose mean mg mb dp un gd env outer A₀ base h₀ L m s Q E B F X N T c1 c2 hf hk hdp hun hret
  refine wpAny_call ?_
  walk_at "my enter"
  refine hold_body fun qH qH' => ?_
  k_steps
  rename_i g' L' h0' tk' Gk' hL' FG B' X' T' lL1 lL2 o d1 D h1' lD h2' F2 N2
  refine Stop.go ?_
  refine whl_indF (ι := List Int × List Int) F2 (news₀ := [(l, listOf vs.toArray n), (D, listOf ([] : List Value).toArray 0), (L' + 1, o), (l, listOf vs.toArray n)]) (fun p hp => N2 p (by revert p; walk_at "my sub")) (fun i news => ∃ (T : Addr) (vs' ws : List Value) (n' k' : Nat) (o : Obj), news = [(T, listOf vs'.toArray n'), (D, listOf ws.toArray k'), (L' + 1, o), (l, listOf vs.toArray n)] ∧
      i.1.length ≤ 8 ∧ i.2 ++ newton i.1 = newton ns ∧ IntsAre vs' i.1 ∧ IntsAre ws i.2 ∧ ws.length + i.1.length ≤ 8 ∧ o.data = .cell (some (.ref T)) ∧ (@Eq Nat T l ∨ @LT.lt Nat _ D T)) (fun i => i.1.length) (ns, []) (by first | passes_own | with_unfolding_all passes_own) ?_ ?_
  · exact ⟨l, vs, [], n, 0, o, rfl, hn, rfl, hi, .nil, by simpa using hn, d1, .inl rfl⟩
  · rintro ⟨ns', fs⟩ h tk news F3 N3 ⟨T, vs', ws, n', k', o, rfl, hl8, hnw, hv, hw, hsz, hd, hTD⟩ ih
    clear F2 N2 d1
    dsimp only at *
    k_steps
    cases ns' with
    | nil =>
      refine WhlIf.no rfl ?_
      k_steps
      exact my_ret (by assumption) (by assumption) (by assumption) hret (by assumption) (by assumption) (by assumption) ⟨D, ws, k', rfl, rfl, by rw [← hnw]; simpa [newton] using hw⟩ (by walk_at "my subm") (by walk_at "my sub") (by walk_at "my new")
    | cons a r =>
      refine WhlIf.yes (by simp) ?_
      refine hold_body fun qJ qJ' => ?_
      simp only [List.length_cons] at hl8 hsz
      k_steps
      refine SrcM.range (g := fun k => (a :: r).getD (k + 1).toNat 0 - (a :: r).getD k.toNat 0) (n := r.length) (by rfl) (by k_asm) (by k_asm) (by assumption) (by exact small_one (by kcf_bnd) (by kcf_bnd) (by kcf_bnd) (by kcf_bnd)) (by simpa using rangeSize_nat 0 r.length) (by walk_at "my sz") (fun k t C oC m₂ h tk E' hlo hhi hC hx F' N' => ?_) ?_
      · k_steps
      · k_steps
        rename_i t0 h3 h4 tk3 t1 u1 v1 hR hK D2 h5 tk5 ys hI l1 h6 o2 F4 N4 d2
        refine Stop.go (ih (diffs (a :: r), fs ++ [a]) _ _ [(D2, listOf ys.toArray ys.length), (D, _), (L' + 1, o2), (l, listOf vs.toArray n)] (by simp [diffs_length]) F4 (fun p hp => N4 p (by revert p; walk_at "my sub")) ⟨D2, ys, _, _, _, o2, rfl, ?_, ?_, ?_, ?_, ?_, d2, Or.inr (by omega)⟩)
        · simp only [diffs_length, List.length_cons]; omega
        · rw [← hnw]
          simp [newton]
        · rw [← diffs_eq (a :: r) r.length (by simp)]; exact hI
        · exact IntsAre.append hw (.cons a _ .nil)
        · simp only [diffs_length, List.length_cons, List.length_append, List.length_nil]; omega
end

section
theorem walk_off_c_div2n1n : True := by
  w_top off
  trivial
theorem div2n1n_ct (w : World) (x y n : Int) (t1 t2 t3 : Tok) (hx : 0 ≤ x ∧ x < 1000000000000) (hy : 0 < y ∧ y < 1000000) (hn : 0 ≤ n ∧ n < 1000) :
    Ct w 35 [.int x t1, .int y t2, .int n t3] [] 4 (fun _ => False) (fun r ext => ∃ D t1 t2 k, r = .ref D ∧ ext = [(D, tupOf #[.int (x.fdiv y) t1, .int (x.fmod y) t2] k)]) := by
  unfold Ct; k_fill
  intro p loose mean mg mb dp un gd env outer A₀ base h₀ L m s Q E B F X N T c1 c2 hf hk hdp hun hret
  refine wpAny_call ?_
  walk_at "my enter"
  refine hold_body fun qH qH' => ?_
  have hbits : Builtin.Int.intBits x ≤ 40 := intBits_le_iff.mpr (by show x.natAbs < 2 ^ 40; omega)
  k_steps
  rename_i g' L' h1 Gk' hL' FG' F1 N' B' X' T' lT l35 h2 F2 N2 kF kN Tc kX
  have hlt : @LT.lt Nat _ L' h1.objs.size := F1.ns.lt
  exact my_ret (by assumption) N (by assumption) hret F2 kF kN ⟨_, _, _, _, rfl, rfl⟩ (by walk_at "my subm") (by walk_at "my sub") (by walk_at "my new")
end

section
theorem walk_off_c_digits2int : True := by
  w_top off
  trivial
theorem half_facts {lo hi N mid : Nat} (hN : hi - lo = N) (h1 : lo < mid) (h2 : mid < hi) : hi - mid < N ∧ mid - lo < N ∧ mid ≤ hi ∧ lo ≤ mid := by omega
local macro_rules | `(tactic| walk_at "exec FunctionDef") => `(tactic| refine Stop.at ?_)
local macro_rules | `(tactic| walk_at "call ref cons nil") => `(tactic| refine Stop.at ?_)
theorem digits2int_ct (w : World) (c1 c2 : Addr) (l : Addr) (vs : List Value) (ds : List Int) (k : Nat) (n : Nat) (t : Tok) (hi' : IntsAre vs ds) (hn : ds.length ≤ 30) (h1n : 1 ≤ n ∧ n ≤ 10) (h0 : ∀ d ∈ ds, 0 ≤ d) (hb : valD n ds < 1000000000000) :
    CtM w c1 c2 56 [.ref l, .int n t] [(l, listOf vs.toArray k)] 40 (fun _ => False) (fun r ext => ext = [] ∧ ∃ t, r = .int (valD n ds) t) := by
  unfold CtM; k_fill
  intro p loose mean mg mb dp un gd env outer A₀ base h₀ L m s Q E B F X N T k1 k2 TM hf hk hdp hun hret
  refine wpAny_call ?_
  walk_at "my enter"
  refine hold_body fun qH qH' => ?_
  have TMg := TabMade.ground TM (by assumption) N ⟨fun vs => by simp, trivial⟩
  have hP51 := TMg.2.2.1
  k_steps
  with_reducible refine Stop.go ?_
  refine' nestDef_K ?d0 ?k0 ?a0 ?_; (case d0 => exact rfl); (case k0 => exact rfl); (case a0 => exact rfl)
  refine' nestHit_G ?F ?N ?T ?C ?cd ?hP ?t ?n ?cl ?_; (case F => k_asm); (case N => k_asm); (case T => k_asm); (case cd => exact rfl); (case C => kn_code); (case hP => assumption); (case t => kn_triples); (case n => kn_hit); (case cl => exact rfl); k_whole
  intro f ct dc h2 tk2 FD ND lf
  (try dsimp only at ND)
  k_lt lf
  k_steps
  · rename_i g L' h1 tk1 Gk' hL' FG B' X' T' lL l56 oA oB oC dA dB dC h3 oI F' N' dI hpos
    have dD : oC.data = .cell (some (.ref l)) := dC
    have dN : oB.data = .cell (some (.int n t)) := dB
    clear dA dB dC
    obtain ⟨of, hof, N2⟩ := news_abs N'
    have key : ∀ (N lo hi : Nat) (t1 t2 : Tok), hi - lo = N → lo < hi → hi ≤ ds.length →
        CtM w c1 c2 f [.int (lo : Int) t1, .int (hi : Int) t2] [(f, of), (L' + 1 + 1 + 1, oI), (L' + 1 + 1, oB), (L' + 1, oC), (l, listOf vs.toArray k)] N (fun _ => False) (fun r ext => ext = [] ∧ ∃ t, r = .int (valD n ((ds.drop lo).take (hi - lo))) t) := by
      clear hret hP51 TMg TM N' N2 F' Gk' hL' B' X' T' N F X B T hdp hun
      (try clear FG')
      intro N
      induction N using Nat.strongRecOn with
      | ind N ih =>
      intro lo hi t1 t2 hN hlt hle
      unfold CtM
      intro p loose mean mg mb dp un gd env outer A₀ base h₀ L m s Q E B F X N T k1 k2 TM hf hk hdp hun hret
      subst hof
      refine wpAny_call ?_
      refine' code_nestF ?k1 ?k2 ?k3 ?k4 ?k5 ?kA ?kF ?kK ?k6 ?k7 ?k8 ?k9 ?kB ?_ ?c2 ?c3 ?c4 ?c5
      case kA => exact rfl
      case kF => assumption
      case kK => assumption
      case k1 => k_asm
      case k2 => k_asm
      case k3 => k_asm
      case k4 => k_asm
      case k5 => k_asm
      case k6 => k_mem
      case k7 => exact TM.2.2.2
      case k8 => k_room
      case k9 => exact BindsTo.of_eq rfl
      case c5 => decide
      case kB => exact locs rfl
      case c2 => exact rfl
      case c3 => exact rfl
      case c4 => exact rfl
      k_whole
      intro tk0 g' L' h' Gk' hL' FG' F' N' B' X' T' l1
      (try k_lt l1)
      (try dsimp only)
      (try k_fold)
      refine hold_body fun qN qN' => ?_
      replace F' : Fr g' L' h' (fun y => List.lookup y [("R", .int (hi : Int) t2), ("L", .int (lo : Int) t1)]) := F'
      have TMg := TabMade.ground TM (by assumption) N ⟨fun vs => by simp, fun vs => by rw [dI]; simp, fun vs => by rw [dN]; simp, fun vs => by rw [dD]; simp, fun vs => by simp, trivial⟩
      have hlen := hi'.length
      k_steps
      · rename_i heq _ _ _ _ _
        have e : hi = lo + 1 := by omega
        subst e
        refine my_ret (by assumption) N hL' hret (by assumption) (by assumption) (by assumption) ⟨rfl, _, int_eq ?_⟩ (by walk_at "my subm") (by walk_at "my sub") (by walk_at "my new")
        rw [show lo + 1 - lo = 1 by omega, Int.toNat_natCast]
        have hlt' : lo < ds.length := by omega
        rw [List.drop_eq_getElem_cons hlt', List.take_succ_cons, List.take_zero, valD_one, List.getD_eq_getElem?_getD, List.getElem?_eq_getElem hlt']
        rfl
      · rename_i hne h4 h5 F3 N3
        have hmid : (((lo : Int) + (hi : Int)).fdiv (2 ^ Int.toNat 1)) = (((lo + hi) / 2 : Nat) : Int) := by rw [fdiv_two]; omega
        refine Stop.go ?_
        rw [hmid]
        rw [hmid] at F3
        generalize hm : (lo + hi) / 2 = mid at *
        have hm1 : lo < mid := by omega
        have hm2 : mid < hi := by omega
        obtain ⟨hA1, hA2, hA3, hA4⟩ := half_facts hN hm1 hm2
        have b1 := valD_slice n ds h0 mid (hi - mid)
        have b2 := valD_slice n ds h0 lo (mid - lo)
        have hsh : ((mid : Int) - (lo : Int)) * (n : Int) = ((n * (mid - lo) : Nat) : Int) := by
          rw [Int.natCast_mul, Int.mul_comm]; congr 1; omega
        have hsh2 : n * (mid - lo) ≤ 300 := Nat.le_trans (Nat.mul_le_mul h1n.2 (show mid - lo ≤ 30 by omega)) (by decide)
        refine CtM.use (ih _ hA1 mid hi _ _ rfl hm2 hle) (by k_asm) (by k_asm) (by k_asm) N3 (by k_asm) k1 k2 (TMg.keeps F3.keep) rfl rfl (by walk_at "my room") (by walk_at "my units") (by walk_at "my sub") ?_
        rintro r ext h6 tk6 F4 N4 l4 ⟨rfl, t4, rfl⟩
        simp only [List.nil_append] at N4
        k_steps
        refine Stop.go ?_
        refine CtM.use (ih _ hA2 lo mid _ _ rfl hm1 (Nat.le_trans hA3 hle)) (by k_asm) (by k_asm) (by k_asm) N4 (by k_asm) k1 k2 (TMg.keeps F4.keep) rfl rfl (by walk_at "my room") (by walk_at "my units") (by walk_at "my sub") ?_
        rintro r ext h7 tk7 F5 N5 l5 ⟨rfl, t5, rfl⟩
        simp only [List.nil_append] at N5
        k_steps
        refine my_ret (by assumption) N hL' hret (by assumption) (by assumption) (by assumption) ⟨rfl, _, int_eq ?_⟩ (by walk_at "my subm") (by walk_at "my sub") (by walk_at "my new")
        rw [hsh, Int.toNat_natCast, slice_split ds (Nat.le_of_lt hm1) (Nat.le_of_lt hm2), valD_append, List.length_take, List.length_drop, Nat.min_eq_left (by omega), Int.add_comm, Int.mul_comm]
    refine CtM.use (key ds.length 0 ds.length _ _ (by omega) hpos (Nat.le_refl _)) (by k_asm) F' (by k_asm) N2 (by k_asm) k1 k2 (TMg.keeps F'.keep) rfl rfl (by walk_at "my room") (by walk_at "my units") (by walk_at "my sub") ?_
    rintro r ext h7 tk7 F5 N5 l5 ⟨rfl, t5, rfl⟩
    simp only [List.nil_append] at N5
    k_steps
    refine my_ret (by assumption) N (by assumption) hret (by assumption) (by assumption) (by assumption) ⟨rfl, _, int_eq ?_⟩ (by walk_at "my subm") (by walk_at "my sub") (by walk_at "my new")
    simp
  · have hl0 : ds = [] := by
      apply List.eq_nil_of_length_eq_zero
      omega
    subst hl0
    exact my_ret (by assumption) N (by assumption) hret (by assumption) (by assumption) (by assumption) ⟨rfl, _, rfl⟩ (by walk_at "my subm") (by walk_at "my sub") (by walk_at "my new")
end

section
theorem walk_off_c_int2digits : True := by
  w_top off
  trivial
local macro_rules | `(tactic| walk_at "no line 0") => `(tactic| fail)
theorem mid_facts {lo hi n : Nat} (hlt : lo < hi) (h : hi ≤ 30) (hn : n ≤ 10) :
    (((lo : Int) + (hi : Int)).fdiv (2 ^ Int.toNat 1)) = (((lo + hi) / 2 : Nat) : Int) ∧ ((((lo : Int) + (hi : Int)).fdiv (2 ^ Int.toNat 1)) - (lo : Int)) * (n : Int) = ((n * ((lo + hi) / 2 - lo) : Nat) : Int) ∧ n * ((lo + hi) / 2 - lo) ≤ 300 ∧
      0 ≤ ((((lo : Int) + (hi : Int)).fdiv (2 ^ Int.toNat 1)) - (lo : Int)) * (n : Int) ∧ ((((lo : Int) + (hi : Int)).fdiv (2 ^ Int.toNat 1)) - (lo : Int)) * (n : Int) ≤ 300 := by
  have hmid : (((lo : Int) + (hi : Int)).fdiv (2 ^ Int.toNat 1)) = (((lo + hi) / 2 : Nat) : Int) := by rw [fdiv_two]; omega
  have hSH : ((((lo : Int) + (hi : Int)).fdiv (2 ^ Int.toNat 1)) - (lo : Int)) * (n : Int) = ((n * ((lo + hi) / 2 - lo) : Nat) : Int) := by
    rw [hmid, Int.natCast_mul, Int.mul_comm]; congr 1; omega
  have hsh2 : n * ((lo + hi) / 2 - lo) ≤ 300 := Nat.le_trans (Nat.mul_le_mul hn (show (lo + hi) / 2 - lo ≤ 30 by omega)) (by decide)
  exact ⟨hmid, hSH, hsh2, by rw [hSH]; omega⟩
theorem half_pos {lo hi mid : Nat} (h : (lo + hi) / 2 = mid) (hlt : lo < hi) (hne : (lo : Int) + 1 ≠ (hi : Int)) : lo < mid ∧ mid < hi := by omega
theorem len_split {lo mid hi a b : Nat} (h1 : lo ≤ mid) (h2 : mid ≤ hi) (ha : a = mid - lo) (hb : b = hi - mid) : a + b = hi - lo := by omega
local macro_rules | `(tactic| walk_at "exec FunctionDef") => `(tactic| refine Stop.at ?_)
local macro_rules | `(tactic| walk_at "call ref cons nil") => `(tactic| refine Stop.at ?_)
theorem int2digits_ct (w : World) (c1 c2 : Addr) (a : Int) (n : Nat) (ta t : Tok) (ha : 0 ≤ a ∧ a < 1000000) (h1n : 1 ≤ n ∧ n ≤ 10) :
    CtM w c1 c2 49 [.int a ta, .int n t] [] 40 (fun _ => False) (fun r ext => ∃ D ws k ds, r = .ref D ∧ ext = [(D, listOf ws.toArray k)] ∧ IntsAre ws ds ∧ valD n ds = a ∧ (∀ d ∈ ds, 0 ≤ d ∧ d ≤ a) ∧ ds.length ≤ 30) := by
  unfold CtM; k_fill
  intro p loose mean mg mb dp un gd env outer A₀ base h₀ L m s Q E B F X N T k1 k2 TM hf hk hdp hun hret
  refine wpAny_call ?_
  walk_at "my enter"
  refine hold_body fun qH qH' => ?_
  have TMg := TabMade.ground TM (by assumption) N trivial
  have hP44 := TMg.1
  have hbits : Builtin.Int.intBits a ≤ 20 := intBits_le_iff.mpr (by show a.natAbs < 2 ^ 20; omega)
  k_steps
  rename_i g L' h1 tk1 Gk' hL' FG' B' X' T' lT l49 oC oB oA dC dB dA l0 h2 F2 N2 ll
  have dN : oA.data = .cell (some (.int n t)) := dA
  have hcnt : ((((Builtin.Int.intBits a : Nat) : Int) + (n : Int) - 1).fdiv (n : Int)) = (((Builtin.Int.intBits a + n - 1) / n : Nat) : Int) := by
    rw [Int.fdiv_eq_ediv_of_nonneg _ (Int.natCast_nonneg _), Int.natCast_ediv]; congr 1; omega
  rw [hcnt]
  have hc30 : (Builtin.Int.intBits a + n - 1) / n ≤ 30 := by
    refine Nat.le_trans (Nat.div_le_div_right (c := n) (show Builtin.Int.intBits a + n - 1 ≤ 30 by omega)) (Nat.div_le_self _ _)
  have hc1 : 0 < a → 0 < (Builtin.Int.intBits a + n - 1) / n := fun h => by
    have hb1 : 0 < Builtin.Int.intBits a := by
      rcases Nat.eq_zero_or_pos (Builtin.Int.intBits a) with h0 | h0
      · have := intBits_le_iff.mp (Nat.le_of_eq h0); omega
      · exact h0
    exact Nat.div_pos (by omega) (by omega)
  generalize hcg : (Builtin.Int.intBits a + n - 1) / n = cnt at hc30 hc1 ⊢
  refine KMa.mul (vs := [.int 0 tk1]) (ws := List.replicate cnt (.int 0 tk1)) F2 N2 (by is_list) (by omega) (by omega) (by simp; omega) (by rw [Int.toNat_natCast, flat_replicate]) ?_
  intro D h3 F3 N3 lD
  k_lt lD
  clear F2 N2
  have hI0 := ints_replicate tk1 cnt
  have hlen0 : (List.replicate cnt (0 : Int)).length = cnt := by simp
  k_steps
  with_reducible refine Stop.go ?_
  refine' nestDef_K ?d0 ?k0 ?a0 ?_; (case d0 => exact rfl); (case k0 => exact rfl); (case a0 => exact rfl)
  refine' nestHit_G ?F ?N ?T ?C ?cd ?hP ?t ?n ?cl ?_; (case F => k_asm); (case N => k_asm); (case T => k_asm); (case cd => exact rfl); (case C => kn_code); (case hP => assumption); (case t => kn_triples); (case n => kn_hit); (case cl => exact rfl); k_whole
  intro f ct dc h5 tk5 FD ND lf
  (try dsimp only at ND)
  k_lt lf
  k_steps
  · rename_i h4 oI0 dI0 h6 oI F' N' dI hapos
    rw [hlen0]
    refine Stop.go ?_
    clear dA dB dC
    have hcpos : 0 < cnt := hc1 (by omega)
    obtain ⟨of, hof, N2⟩ := news_abs N'
    have key : ∀ (N lo hi : Nat) (x : Int) (t1 t2 t3 : Tok) (ws : List Value) (cur : List Int) (kk : Nat), hi - lo = N → lo < hi → hi ≤ cur.length → cur.length ≤ 30 → 0 ≤ x → x ≤ a → IntsAre ws cur →
        CtM w c1 c2 f [.int x t1, .int (lo : Int) t2, .int (hi : Int) t3] [(f, of), (D, listOf ws.toArray kk), (L' + 1 + 1 + 1, oI), (L' + 1 + 1, oI0), (L' + 1, oA)] N (fun b => b = D) (fun r ext => r = .none ∧ ∃ o', ext = [(D, o')] ∧
          ∃ (ws' : List Value) (kk' : Nat) (new : List Int), o' = listOf ws'.toArray kk' ∧ new.length = hi - lo ∧ valD n new = x ∧ (∀ d ∈ new, 0 ≤ d ∧ d ≤ x) ∧ IntsAre ws' (cur.take lo ++ new ++ cur.drop hi)) := by
      clear hret hP44 TMg TM N' N2 F' Gk' hL' B' X' T' N F X B T hdp hun
      intro N
      induction N using Nat.strongRecOn with
      | ind N ih =>
      intro lo hi x t1 t2 t3 ws cur kk hN hlt hle hc30' hx0 hxa hI
      unfold CtM
      intro p loose mean mg mb dp un gd env outer A₀ base h₀ L m s Q E B F X N T k1 k2 TM hf hk hdp hun hret
      subst hof
      refine wpAny_call ?_
      refine' code_nestF ?k1 ?k2 ?k3 ?k4 ?k5 ?kA ?kF ?kK ?k6 ?k7 ?k8 ?k9 ?kB ?_ ?c2 ?c3 ?c4 ?c5
      case kA => exact rfl
      case kF => assumption
      case kK => assumption
      case k1 => k_asm
      case k2 => k_asm
      case k3 => k_asm
      case k4 => k_asm
      case k5 => k_asm
      case k6 => k_mem
      case k7 => exact TM.2.1
      case k8 => k_room
      case k9 => exact BindsTo.of_eq rfl
      case c5 => decide
      case kB => exact locs rfl
      case c2 => exact rfl
      case c3 => exact rfl
      case c4 => exact rfl
      k_whole
      intro tk0 g' L' h' Gk' hL' FG' F' N' B' X' T' l1
      (try k_lt l1)
      (try dsimp only)
      (try k_fold)
      refine hold_body fun qN qN' => ?_
      replace F' : Fr g' L' h' (fun y => List.lookup y [("R", .int (hi : Int) t3), ("L", .int (lo : Int) t2), ("x", .int x t1)]) := F'
      have TMg := TabMade.ground TM (by assumption) N ⟨fun vs => by simp, fun vs => by simp, fun vs => by rw [dI]; simp, fun vs => by rw [dI0]; simp, fun vs => by rw [dN]; simp, trivial⟩
      have hlen := hI.length
      obtain ⟨hmid, hSH, hsh2, hsh0⟩ := mid_facts (n := n) hlt (Nat.le_trans hle hc30') h1n.2
      have hup := fdm x (((((lo : Int) + (hi : Int)).fdiv (2 ^ Int.toNat 1)) - (lo : Int)) * (n : Int)).toNat hx0
      have hup1 := hup.2.2.1
      have hup2 := hup.2.2.2.2
      have hxlow := xor_low x (((((lo : Int) + (hi : Int)).fdiv (2 ^ Int.toNat 1)) - (lo : Int)) * (n : Int)).toNat hx0
      k_steps
      · rename_i heq h7 F7 N7 hI7 _ _ kF kN _ _
        have e : hi = lo + 1 := by omega
        subst e
        refine my_ret (by assumption) N hL' hret F7 kF kN ⟨rfl, _, rfl, _, _, [x], rfl, by simp, valD_one n x, by intro d hd; rw [List.mem_singleton.mp hd]; omega, ?_⟩ (by
          refine List.forall_mem_cons.mpr ⟨Or.inl (by k_mem), List.forall_mem_cons.mpr ⟨Or.inr rfl, ?_⟩⟩
          walk_at "my subm") (by walk_at "my sub") (fun p hp => by rw [List.mem_singleton.mp hp]; exact Or.inl rfl)
        rw [Int.toNat_natCast] at hI7 ⊢
        rw [← set_slice cur lo x (by omega)]
        exact hI7
      · rename_i hne _ _ _ h7 F7 N7
        refine Stop.go ?_
        rw [hSH, Int.toNat_natCast] at hup hup1 hup2 hxlow
        rw [hSH, Int.toNat_natCast] at F7 ⊢
        rw [hmid] at F7 ⊢
        rw [hxlow] at F7 ⊢
        clear hsh0 hSH hmid
        generalize hm : (lo + hi) / 2 = mid at *
        obtain ⟨hm1, hm2⟩ := half_pos hm hlt hne
        obtain ⟨hA1, hA2, hA3, hA4⟩ := half_facts hN hm1 hm2
        refine CtM.useD (ih _ hA2 lo mid (x.fmod (2 ^ (n * (mid - lo)))) _ _ _ ws cur kk rfl hm1 (Nat.le_trans hA3 hle) hc30' hup.2.1 (by omega) hI) (by k_asm) F7 (by k_asm) N7 (by k_asm) k1 k2 (TMg.keeps F7.keep) rfl rfl (by walk_at "my room") (by walk_at "my units") (by walk_at "my sub") (by k_updF) ?_
        rintro o' h8 tk8 F8 N8 ⟨ws1, kk1, new1, rfl, hnl1, hv1, hb1, hI1⟩
        (try dsimp only at N8)
        have hsj := slice_join cur new1 hnl1 (Nat.le_of_lt hm1) (Nat.le_of_lt hm2) hle
        k_steps
        refine Stop.go ?_
        refine CtM.useD (ih _ hA1 mid hi (x.fdiv (2 ^ (n * (mid - lo)))) _ _ _ ws1 _ kk1 rfl hm2 (by omega) (by omega) hup1 (by omega) hI1) (by k_asm) F8 (by k_asm) N8 (by k_asm) k1 k2 (TMg.keeps F8.keep) rfl rfl (by walk_at "my room") (by walk_at "my units") (by walk_at "my sub") (by k_updF) ?_
        rintro o' h9 tk9 F9 N9 ⟨ws2, kk2, new2, rfl, hnl2, hv2, hb2, hI2⟩
        (try dsimp only at N9)
        rw [hsj.1, hsj.2.1] at hI2
        k_steps
        refine my_ret (by assumption) N hL' hret F9 (by assumption) (by assumption) ⟨rfl, _, rfl, _, _, new1 ++ new2, rfl, by rw [List.length_append]; exact len_split hA4 hA3 hnl1 hnl2, ?_, ?_, ?_⟩ (by
          refine List.forall_mem_cons.mpr ⟨Or.inl (by k_mem), List.forall_mem_cons.mpr ⟨Or.inr rfl, ?_⟩⟩
          walk_at "my subm") (by walk_at "my sub") (fun p hp => by rw [List.mem_singleton.mp hp]; exact Or.inl rfl)
        · rw [valD_append, hv1, hv2, hnl1]; exact hup.1
        · intro d hd
          rcases List.mem_append.mp hd with hd | hd
          · have := hb1 d hd; omega
          · have := hb2 d hd; omega
        · rw [List.append_assoc] at hI2
          simpa [List.append_assoc] using hI2
    refine CtM.useD (key cnt 0 cnt a _ _ _ _ _ 0 (by omega) hcpos (by simp) (by simpa using hc30) ha.1 (Int.le_refl _) hI0) (by k_asm) F' (by k_asm) N2 (by k_asm) k1 k2 (TMg.keeps F'.keep) rfl rfl (by walk_at "my room") (by walk_at "my units") (by walk_at "my sub") (by k_updF) ?_
    rintro o' h9 tk9 F9 N9 ⟨ws2, kk2, new2, rfl, hnl2, hv2, hb2, hI2⟩
    (try dsimp only at N9)
    k_steps
    refine my_ret (by assumption) N (by assumption) hret F9 (by assumption) (by assumption) ⟨D, ws2, kk2, new2, rfl, rfl, by simpa using hI2, hv2, hb2, by omega⟩ (by walk_at "my subm") (by walk_at "my sub") (by walk_at "my new")
  · have ha0 : a = 0 := by omega
    subst ha0
    have hc0 : cnt = 0 := by
      rw [← hcg]
      have : Builtin.Int.intBits 0 = 0 := by decide
      rw [this]
      exact Nat.div_eq_of_lt (by omega)
    subst hc0
    refine my_ret (by assumption) N (by assumption) hret (by assumption) (by assumption) (by assumption) ⟨D, [], 0, [], rfl, rfl, .nil, rfl, by simp, by simp⟩ (by walk_at "my subm") (by walk_at "my sub") (by walk_at "my new")
end

section
theorem walk_off_c_divmod_pos : True := by
  w_top off
  trivial
local macro_rules | `(tactic| walk_at "no line 0") => `(tactic| fail)
inductive DVI (a b : Int) (n : Nat) (ds : List Int) (l' : Addr) (rest : Led) (l : List Value) (mm : Str → Option Value) (news : Led) : Prop
  | mk (r : Int) (t tb tn : Tok) (qs rem : List Int) (wq : List Value) (kq : Nat) (er : mm "r" = some (.int r t)) (eb : mm "b" = some (.int b tb)) (en : mm "n" = some (.int (n : Int) tn)) (eq : mm "q_digits" = some (.ref l')) (hs : SubL ((l', listOf wq.toArray kq) :: rest) news) (hq : IntsAre wq qs) (hr : IntsAre l rem) (hv : a = valD n rem.reverse + 2 ^ (n * rem.length) * (valD n qs.reverse * b + r)) (h0 : 0 ≤ r) (h1 : r < b) (h2 : ∀ d ∈ qs, 0 ≤ d) (h3 : ∀ d ∈ rem, 0 ≤ d ∧ d ≤ a) (h4 : qs.length + rem.length = ds.length) : DVI a b n ds l' rest l mm news
local macro_rules | `(tactic| walk_at "call ref cons nil") => `(tactic| refine Stop.at ?_)
local macro_rules | `(tactic| walk_at "call builtin:list.reverse cons nil") => `(tactic| refine Stop.at ?_)
local macro_rules | `(tactic| walk_at "eval Name") => `(tactic| (k_here; k_dflt (refine ld (by k_asm) (by assumption) ?_)))
theorem divmod_pos_ct (w : World) (c1 c2 : Addr) (a b : Int) (ta tb : Tok) (ha : 0 ≤ a ∧ a < 1000000) (hb : 0 < b ∧ b < 1000) :
    CtM w c1 c2 63 [.int a ta, .int b tb] [] 44 (fun _ => False) (fun r ext => ∃ D t1 t2 k, r = .ref D ∧ ext = [(D, tupOf #[.int (a.fdiv b) t1, .int (a.fmod b) t2] k)]) := by
  unfold CtM; k_fill
  intro p loose mean mg mb dp un gd env outer A₀ base h₀ L m s Q E B F X N T k1 k2 TM hf hk hdp hun hret
  refine wpAny_call ?_
  walk_at "my enter"
  refine hold_body fun qH qH' => ?_
  rename Fr _ _ _ _ => fF
  replace fF : Fr _ _ _ (fun y => List.lookup y [("b", .int b tb), ("a", .int a ta)]) := fF
  have TMg := TabMade.ground TM (by assumption) N trivial
  have hbits : 1 ≤ Builtin.Int.intBits b ∧ Builtin.Int.intBits b ≤ 10 := by
    refine ⟨?_, intBits_le_iff.mpr (by show b.natAbs < 2 ^ 10; omega)⟩
    rcases Nat.eq_zero_or_pos (Builtin.Int.intBits b) with h0 | h0
    · have := intBits_le_iff.mp (Nat.le_of_eq h0); omega
    · exact h0
  k_steps
  rename_i g L' h1 Gk' hL' FG' B' X' T' lT l63 h2 F2 N2
  refine Stop.go ?_
  refine CtM.useN (int2digits_ct w c1 c2 a (Builtin.Int.intBits b) _ _ ha hbits) (by k_asm) F2 (by k_asm) N2 (by k_asm) k1 k2 (TMg.keeps F2.keep) rfl rfl (by walk_at "my room") (by walk_at "my units") (by walk_at "my sub") ?_
  rintro r ext h3 tk3 F3 N3 l3 ⟨D, ws, k, ds, rfl, rfl, hI, hval, hdb, hlen⟩
  simp only [List.cons_append, List.nil_append] at N3
  have hLD := (l3 _ (.head _)).1
  dsimp only at hLD
  have hwl := hI.length
  k_steps
  rename_i h4 h5 l' h6 l1' h7 D2 h8 F8 N8 l8
  generalize hn : Builtin.Int.intBits b = n at *
  refine iter_revUnr (lo := listOf ws.toArray k) (vs := ws) rfl F8 N8 (by k_offL) (by k_mem) rfl rfl ?_
  have hmF := F8
  refine revRest_ind (fun l mm news => Stop (DVI a b n ds l' [(D, listOf ws.toArray k)] l mm news)) ?_ ?_ _ _ _ ?_
  · rintro v l mm news hJ it h9 tk9 hit F9 N9
    refine hold_body fun qJ qJ' => ?_
    obtain ⟨r, t, tb', tn, qs, rem, wq, kq, er, eb, en, eq, hsb, hIq, hIr, hval', hr0, hrb, hq0, hr', hlen'⟩ := Stop.at hJ
    replace N9 : News g (envOf "_divmod_pos" _ L' 63 (Value.ref 62)).locals h9 [(D2, it), (l', listOf wq.toArray kq), (D, listOf ws.toArray k)] := fun p hp => N9 p (by
      rcases List.mem_cons.mp hp with rfl | hp
      · exact .head _
      · exact .tail _ (hsb.mem p hp))
    obtain ⟨t9, d, rem', rfl, rfl, hIr'⟩ : ∃ t9 d rem', v = .int d t9 ∧ rem = d :: rem' ∧ IntsAre l rem' := by
      cases hIr with
      | cons n t h => exact ⟨_, _, _, rfl, rfl, h⟩
    have hd0 := hr' d (List.mem_cons_self ..)
    k_steps
    refine Stop.go ?_
    have hpw : (0 : Int) < 2 ^ n ∧ (2 : Int) ^ n ≤ 1024 := two_le n hbits.2
    have hrm : 0 ≤ r * 2 ^ n ∧ r * 2 ^ n ≤ 1000 * 1024 := mul_box hr0 (by omega) hpw.1 hpw.2
    simp only [Int.toNat_natCast]
    refine Ct.useN (div2n1n_ct w (r * 2 ^ n + d) b n _ _ _ (by omega) (by omega) (by omega)) (by k_asm) F9 (by k_asm) N9 (by k_asm) k1 k2 rfl rfl (by walk_at "my room") (by walk_at "my units") (by walk_at "my sub") ?_
    rintro r2 ext h10 tk10 F10 N10 l10 ⟨D3, t1, t2, k3, rfl, rfl⟩
    simp only [List.cons_append, List.nil_append] at N10
    have l10' := (l10 _ (.head _)).2
    simp only [AllLt, and_true] at l10'
    have hwq := hIq.length
    have hwq2 : qs.length ≤ 30 := by simp only [List.length_cons] at hlen'; omega
    k_steps
    refine Stop.go ⟨_, t2, _, _, qs ++ [(r * 2 ^ n + d).fdiv b], rem', wq ++ [.int ((r * 2 ^ n + d).fdiv b) t1], kq + 1, rfl, eb, en, eq, ⟨by simp, by simp, trivial⟩, hIq.append (.cons _ _ .nil), hIr', ?_, ?_, ?_, ?_, fun d' hd' => hr' d' (.tail _ hd'), ?_⟩
    · exact horner_step hb.1 hval'
    · exact Int.fmod_nonneg_of_pos _ hb.1
    · exact Int.fmod_lt_of_pos _ hb.1
    · intro d' hd'
      rcases List.mem_append.mp hd' with hd' | hd'
      · exact hq0 d' hd'
      · rw [List.mem_singleton.mp hd']
        exact Int.fdiv_nonneg (by omega) (by omega)
    · simp only [List.length_append, List.length_cons, List.length_nil] at hlen' ⊢; omega
  · rintro mm news hJ h9 tk9 F9 N9
    obtain ⟨r, t, tb', tn, qs, rem, wq, kq, er, eb, en, eq, hsb, hIq, hIr, hval', hr0, hrb, hq0, hr', hlen'⟩ := Stop.at hJ
    replace N9 : News g (envOf "_divmod_pos" _ L' 63 (Value.ref 62)).locals h9 [(l', listOf wq.toArray kq), (D, listOf ws.toArray k)] := fun p hp => N9 p (hsb.mem p hp)
    cases hIr
    simp only [List.reverse_nil, List.length_nil, Nat.mul_zero, Int.pow_zero, Int.one_mul, valD, Int.zero_add, Nat.add_zero] at hval' hlen'
    have hlD : D < l' := l1'
    have hwq := hIq.length
    k_steps
    refine Stop.go ?_
    refine kl_reverse (its := wq.toArray) (l := wq.reverse) F9 N9 (by simp) (by k_upd) (by simp only [sizeLine]; omega) ?_
    intro h10 F10 N10
    have hIq' := hIq.reverse
    k_steps
    refine Stop.go ?_
    have hqn : 0 ≤ valD n qs.reverse := valD_nonneg n _ fun d hd => hq0 d (List.mem_reverse.mp hd)
    have hqb : valD n qs.reverse ≤ valD n qs.reverse * b := by
      have := Int.mul_le_mul_of_nonneg_left (show 1 ≤ b by omega) hqn
      omega
    refine CtM.use (digits2int_ct w c1 c2 l' _ _ _ n _ hIq' (by rw [List.length_reverse]; omega) hbits (fun d hd => hq0 d (List.mem_reverse.mp hd)) (by omega)) (by k_asm) F10 (by k_asm) N10 (by k_asm) k1 k2 (TMg.keeps F10.keep) rfl rfl (by walk_at "my room") (by walk_at "my units") (by walk_at "my sub") ?_
    rintro r2 ext h12 tk12 F12 N12 l12 ⟨rfl, t2, rfl⟩
    simp only [List.nil_append] at N12
    k_steps
    rename_i h13 tk13 D3 h14 F13 N13 l13 kF kN Tc kX
    have ⟨e1, e2⟩ : a.fdiv b = valD n qs.reverse ∧ a.fmod b = r := fdm_unique hb.1 hval' hr0 hrb
    rw [← e1, ← e2] at kN
    exact my_ret (by assumption) N (by assumption) hret F13 kF kN ⟨D3, t2, t, 0, rfl, rfl⟩ (by walk_at "my subm") (by walk_at "my sub") (by walk_at "my new")
  · refine Stop.go ?_
    refine ⟨0, _, _, _, [], ds.reverse, [], 0, rfl, rfl, rfl, rfl, ⟨.head _, .tail _ (.head _), trivial⟩, .nil, hI.reverse, ?_, by omega, by omega, by simp, fun d hd => hdb d (List.mem_reverse.mp hd), by simp⟩
    simp only [List.reverse_reverse, List.reverse_nil, valD, Int.zero_mul, Int.add_zero, Int.mul_zero]
    omega
end

section
theorem walk_off_c_int_divmod : True := by
  w_top off
  trivial
local macro_rules | `(tactic| walk_at "call ref cons nil") => `(tactic| refine Stop.at ?_)
theorem CtM.deep {w : World} {c1 c2 : Addr} {f : Addr} {vs : List Value} {min : Led} {d d' : Nat} {mod : Addr → Prop} {Rt : Value → Led → Prop} (C : CtM w c1 c2 f vs min d mod Rt) (h : d ≤ d') : CtM w c1 c2 f vs min d' mod Rt :=
  fun p loose mean mg mb dp un gd env outer A₀ base h₀ L m s Q E B F X N T k1 k2 TM hf hk hdp hun hret => C p loose mean mg mb dp un gd env outer A₀ base h₀ L m s Q E B F X N T k1 k2 TM hf hk (by omega) (by omega) hret
theorem int_divmod_pos (w : World) (c1 c2 : Addr) (a b : Int) (ta tb : Tok) (ha : 0 ≤ a ∧ a < 1000000) (hb : 0 < b ∧ b < 1000) :
    CtM w c1 c2 70 [.int a ta, .int b tb] [] 45 (fun _ => False) (fun r ext => ∃ D t1 t2 k, r = .ref D ∧ ext = [(D, tupOf #[.int (a.fdiv b) t1, .int (a.fmod b) t2] k)]) := by
  unfold CtM; k_fill
  intro p loose mean mg mb dp un gd env outer A₀ base h₀ L m s Q E B F X N T k1 k2 TM hf hk hdp hun hret
  refine wpAny_call ?_
  walk_at "my enter"
  refine hold_body fun qH qH' => ?_
  rename Fr _ _ _ _ => fF
  replace fF : Fr _ _ _ (fun y => List.lookup y [("b", .int b tb), ("a", .int a ta)]) := fF
  have TMg := TabMade.ground TM (by assumption) N trivial
  have hb0 : 0 < b := hb.1
  have ha0 : 0 ≤ a := ha.1
  k_steps
  · exfalso; omega
  refine Stop.go ?_
  rename Fr _ _ _ _ => F1; rename News _ _ _ _ => N1
  refine CtM.useN (divmod_pos_ct w c1 c2 a b _ _ ha hb) (by k_asm) F1 (by k_asm) N1 (by k_asm) k1 k2 (TMg.keeps F1.keep) rfl rfl (by walk_at "my room") (by walk_at "my units") (by walk_at "my sub") ?_
  rintro r ext h3 tk3 F3 N3 l3 ⟨D, t1, t2, k, rfl, rfl⟩
  simp only [List.cons_append, List.nil_append] at N3
  have hLD := (l3 _ (.head _)).1
  dsimp only at hLD
  k_steps
  rename_i kF kN Tc kX
  exact my_ret (by assumption) N (by assumption) hret F3 kF kN ⟨D, t1, t2, k, rfl, rfl⟩ (by walk_at "my subm") (by walk_at "my sub") (by walk_at "my new")
theorem int_divmod_neg (w : World) (c1 c2 : Addr) (a b : Int) (ta tb : Tok) (ha : -1000000 < a ∧ a < 0) (hb : 0 < b ∧ b < 1000) :
    CtM w c1 c2 70 [.int a ta, .int b tb] [] 46 (fun _ => False) (fun r ext => ∃ D t1 t2 k, r = .ref D ∧ ext = [(D, tupOf #[.int (a.fdiv b) t1, .int (a.fmod b) t2] k)]) := by
  unfold CtM; k_fill
  intro p loose mean mg mb dp un gd env outer A₀ base h₀ L m s Q E B F X N T k1 k2 TM hf hk hdp hun hret
  refine wpAny_call ?_
  walk_at "my enter"
  refine hold_body fun qH qH' => ?_
  rename Fr _ _ _ _ => fF
  replace fF : Fr _ _ _ (fun y => List.lookup y [("b", .int b tb), ("a", .int a ta)]) := fF
  have TMg := TabMade.ground TM (by assumption) N trivial
  have hb0 : 0 < b := hb.1
  have ha0 : a < 0 := ha.2
  have hbn : Builtin.bitNot a = -a - 1 := by simp only [Builtin.bitNot]
  k_steps
  · exfalso; omega
  refine Stop.go ?_
  rename Fr _ _ _ _ => F1; rename News _ _ _ _ => N1
  refine CtM.useN (int_divmod_pos w c1 c2 (Builtin.bitNot a) b _ _ (by omega) hb) (by k_asm) F1 (by k_asm) N1 (by k_asm) k1 k2 (TMg.keeps F1.keep) rfl rfl (by walk_at "my room") (by walk_at "my units") (by walk_at "my sub") ?_
  rintro r ext h3 tk3 F3 N3 l3 ⟨D, t1, t2, k, rfl, rfl⟩
  simp only [List.cons_append, List.nil_append] at N3
  have hLD := (l3 _ (.head _)).1
  dsimp only at hLD
  k_steps
  rename_i D2 h5 F5 N5 l5 kF kN Tc kX
  have e : Builtin.bitNot ((Builtin.bitNot a).fdiv b) = a.fdiv b ∧ b + Builtin.bitNot ((Builtin.bitNot a).fmod b) = a.fmod b := inv_divmod hb0
  rw [e.1, e.2] at kN
  exact my_ret (by assumption) N (by assumption) hret F5 kF kN ⟨D2, _, _, 0, rfl, rfl⟩ (by walk_at "my subm") (by walk_at "my sub") (by walk_at "my new")
theorem int_divmod_pb (w : World) (c1 c2 : Addr) (a b : Int) (ta tb : Tok) (ha : -1000000 < a ∧ a < 1000000) (hb : 0 < b ∧ b < 1000) :
    CtM w c1 c2 70 [.int a ta, .int b tb] [] 46 (fun _ => False) (fun r ext => ∃ D t1 t2 k, r = .ref D ∧ ext = [(D, tupOf #[.int (a.fdiv b) t1, .int (a.fmod b) t2] k)]) := by
  by_cases h : 0 ≤ a
  · exact (int_divmod_pos w c1 c2 a b ta tb ⟨h, ha.2⟩ hb).deep (by decide)
  · exact int_divmod_neg w c1 c2 a b ta tb ⟨ha.1, by omega⟩ hb
theorem int_divmod_nb (w : World) (c1 c2 : Addr) (a b : Int) (ta tb : Tok) (ha : -1000000 < a ∧ a < 1000000) (hb : -1000 < b ∧ b < 0) :
    CtM w c1 c2 70 [.int a ta, .int b tb] [] 47 (fun _ => False) (fun r ext => ∃ D t1 t2 k, r = .ref D ∧ ext = [(D, tupOf #[.int (a.fdiv b) t1, .int (a.fmod b) t2] k)]) := by
  unfold CtM; k_fill
  intro p loose mean mg mb dp un gd env outer A₀ base h₀ L m s Q E B F X N T k1 k2 TM hf hk hdp hun hret
  refine wpAny_call ?_
  walk_at "my enter"
  refine hold_body fun qH qH' => ?_
  rename Fr _ _ _ _ => fF
  replace fF : Fr _ _ _ (fun y => List.lookup y [("b", .int b tb), ("a", .int a ta)]) := fF
  have TMg := TabMade.ground TM (by assumption) N trivial
  have hb0 : b < 0 := hb.2
  k_steps
  · exfalso; omega
  refine Stop.go ?_
  rename Fr _ _ _ _ => F1; rename News _ _ _ _ => N1
  refine CtM.useN (int_divmod_pb w c1 c2 (-a) (-b) _ _ (by omega) (by omega)) (by k_asm) F1 (by k_asm) N1 (by k_asm) k1 k2 (TMg.keeps F1.keep) rfl rfl (by walk_at "my room") (by walk_at "my units") (by walk_at "my sub") ?_
  rintro r ext h3 tk3 F3 N3 l3 ⟨D, t1, t2, k, rfl, rfl⟩
  simp only [List.cons_append, List.nil_append] at N3
  have hLD := (l3 _ (.head _)).1
  dsimp only at hLD
  k_steps
  rename_i D2 h5 F5 N5 l5 kF kN Tc kX
  have e := neg_divmod a b
  rw [e.1, e.2] at kN
  exact my_ret (by assumption) N (by assumption) hret F5 kF kN ⟨D2, _, _, 0, rfl, rfl⟩ (by walk_at "my subm") (by walk_at "my sub") (by walk_at "my new")
theorem int_divmod_ct (w : World) (c1 c2 : Addr) (a b : Int) (ta tb : Tok) (ha : -1000000 < a ∧ a < 1000000) (hb : -1000 < b ∧ b < 1000) (hb0 : b ≠ 0) :
    CtM w c1 c2 70 [.int a ta, .int b tb] [] 47 (fun _ => False) (fun r ext => ∃ D t1 t2 k, r = .ref D ∧ ext = [(D, tupOf #[.int (a.fdiv b) t1, .int (a.fmod b) t2] k)]) := by
  by_cases h : 0 < b
  · exact (int_divmod_pb w c1 c2 a b ta tb ha ⟨h, hb.2⟩).deep (by decide)
  · exact int_divmod_nb w c1 c2 a b ta tb ha ⟨hb.1, by omega⟩
theorem int_divmod_eq (w : World) (c1 c2 : Addr) (a b q r : Int) (ta tb : Tok) (ha : -1000000 < a ∧ a < 1000000) (hb : -1000 < b ∧ b < 1000) (hb0 : b ≠ 0) (hq : a.fdiv b = q) (hr : a.fmod b = r) :
    CtM w c1 c2 70 [.int a ta, .int b tb] [] 47 (fun _ => False) (fun v ext => ∃ D t1 t2 k, v = .ref D ∧ ext = [(D, tupOf #[.int q t1, .int r t2] k)]) := by
  subst hq; subst hr; exact int_divmod_ct w c1 c2 a b ta tb ha hb hb0
end

section
theorem walk_off_c_ways : True := by
  w_top off
  trivial
local macro_rules | `(tactic| walk_at "call ref cons nil") => `(tactic| refine Stop.at ?_)
local macro_rules | `(tactic| walk_at "pyIter ref") => `(tactic| refine Stop.at ?_)
local macro_rules | `(tactic| walk_at "eval Name") => `(tactic| (k_here; k_dflt (refine ld (by k_asm) (by assumption) ?_)))
local macro_rules | `(tactic| walk_at "UnrEnd") => `(tactic| refine Stop.at ?_)
def ffz (m : Int) : Nat → Int
  | 0 => 1
  | k + 1 => ffz m k * (m - (0 + (k : Int)))
theorem ways_tab : ∀ g : Nat, g < 10 → ∀ k : Nat, k < 4 → (ffz ((g : Int) - 3) k).fdiv (fct k) = waysOf ((g : Int) - 3) k ∧ (ffz ((g : Int) - 3) k).fmod (fct k) = 0 ∧ (-10000 ≤ ffz ((g : Int) - 3) k ∧ ffz ((g : Int) - 3) k ≤ 10000) ∧ -20 ≤ waysOf ((g : Int) - 3) k ∧ waysOf ((g : Int) - 3) k ≤ 20 := by decide +kernel
theorem ways_tab' {m : Int} {k : Nat} (h : -3 ≤ m ∧ m ≤ 6) (hk : k ≤ 3) : (ffz m k).fdiv (fct k) = waysOf m k ∧ (ffz m k).fmod (fct k) = 0 ∧ (-10000 ≤ ffz m k ∧ ffz m k ≤ 10000) ∧ -20 ≤ waysOf m k ∧ waysOf m k ≤ 20 := by
  have := ways_tab (m + 3).toNat (by omega) k (by omega)
  rwa [show (((m + 3).toNat : Nat) : Int) - 3 = m by omega] at this
theorem ways_cz (w : World) (c1 c2 : Addr) (many few : Int) (t1 t2 : Tok) (hm : -3 ≤ many ∧ many ≤ 6) (h0 : 0 ≤ few) (h3 : few ≤ 3) :
    CtM w c1 c2 87 [.int many t1, .int few t2] [] 50 (fun _ => False) (fun r ext => ext = [] ∧ ∃ t, r = .int (waysOf many few.toNat) t ∧ -20 ≤ waysOf many few.toNat ∧ waysOf many few.toNat ≤ 20) := by
  obtain ⟨n, rfl⟩ : ∃ n : Nat, few = (n : Int) := ⟨few.toNat, by omega⟩
  rw [Int.toNat_natCast]
  have hwt := ways_tab' hm (show n ≤ 3 by omega)
  unfold CtM; k_fill
  intro p loose mean mg mb dp un gd env outer A₀ base h₀ L m s Q E B F X N T k1 k2 TM hf hk hdp hun hret
  refine wpAny_call ?_
  walk_at "my enter"
  rename (_ = Array.size s.heap.objs) => hL9
  refine hold_body fun qH qH' => ?_
  rename Fr _ _ _ _ => fF
  replace fF : Fr _ _ _ (fun y => List.lookup y [("few", .int (n : Int) t2), ("many", .int many t1)]) := fF
  have TMg := TabMade.ground TM (by assumption) N trivial
  k_steps
  with_reducible refine Stop.go ?_
  rename Fr _ _ _ _ => F1; with_reducible rename News _ _ _ _ => N1; rename IsRange _ _ _ _ _ _ _ _ => R1
  have hsz : Builtin.Range.rangeSize 0 (n : Int) 1 = (n : Int) := rs_one (by omega)
  have hsm : Builtin.Range.small 0 (n : Int) 1 = true := sm_one (by omega) (by omega)
  with_unfolding_all refine iter_rangeUnr (n := n) (by rfl) R1 hsm hsz F1 N1 ?_
  intro I lI
  k_lt lI
  refine rangeRest_ind (fun i mm news => Stop (∃ t1 t2 t3, mm "many" = some (.int many t1) ∧ mm "top" = some (.int (ffz many i) t2) ∧ mm "low" = some (.int (fct i) t3))) ?_ ?_ _ _ _ _ (Nat.zero_add _) ?_
  · intro i mm news hi3 hJ t5 h5 tk5 F5 N5
    refine hold_body fun qJ qJ' => ?_
    obtain ⟨t1, t2, t3, em, et, el⟩ := Stop.at hJ
    replace N5 : News _ _ h5 [(I, itR (0 + ((i + 1 : Nat) : Int)) ((n : Int) - ((i + 1 : Nat) : Int)))] := fun p hp => N5 p (by
      rw [List.mem_singleton.mp hp]; exact .head _)
    have hwi := (ways_tab' hm (show i ≤ 3 by omega)).2.2.1
    have hfi := fct_bnd i (by omega)
    k_steps
    with_reducible refine Stop.go ?_
    rename Fr _ _ _ _ => F9; with_reducible rename News _ _ _ _ => N9
    refine UnrEnd.intro3 F9 N9 [] (by k_mem) (by k_subL) (by k_offL) ?_
    have f1 : fct (i + 1) = fct i * (0 + (i : Int) + 1) := by rw [show (0 + (i : Int) + 1) = 1 + (i : Int) by omega]; rfl
    exact Stop.go ⟨_, _, _, em, rfl, by rw [f1]; rfl⟩
  · intro mm news hJ h5 tk5 F5 N5
    obtain ⟨t1, t2, t3, em, et, el⟩ := Stop.at hJ
    replace N5 : News _ _ h5 [] := fun p hp => N5 p (by cases hp)
    have hfi := fct_bnd n (by omega)
    k_steps
    with_reducible refine Stop.go ?_
    refine CtM.useN (int_divmod_eq w c1 c2 _ _ (waysOf many n) 0 _ _ (by omega) (by omega) (by omega) hwt.1 hwt.2.1) (by k_asm) F5 (by k_asm) N5 (by k_asm) k1 k2 (TMg.keeps F5.keep) rfl rfl (by walk_at "my room") (by walk_at "my units") (by walk_at "my sub") ?_
    rintro r ext h3 tk3 F3 N3 l3 ⟨D, t1, t2, k, rfl, rfl⟩
    simp only [List.cons_append, List.nil_append] at N3
    k_steps
    rename_i F9 N9 kF kN Tc kX
    exact my_ret (by assumption) N hL9 hret F9 kF kN ⟨rfl, _, rfl, hwt.2.2.2⟩ (by walk_at "my subm") (by walk_at "my sub") (by walk_at "my new")
  · exact Stop.go ⟨_, _, _, rfl, rfl, rfl⟩
end

section
theorem walk_off_c_fresh : True := by
  w_top off
  trivial
local macro_rules | `(tactic| walk_at "binaryOp Mult ref int") => `(tactic| ((rw [show ((((Builtin.Int.intBits 1 : Nat) : Int) + ((Builtin.Int.intBits 1 : Nat) : Int) - 1).fdiv ((Builtin.Int.intBits 1 : Nat) : Int)) = 1 by decide]); walk_at "binaryOp Mult ref int"))
theorem i2d_fresh (w : World) (ta t : Tok) :
    Ct w 49 [.int 1 ta, .int ((Builtin.Int.intBits 1 : Nat) : Int) t] [(44, tabObj #[])] 40 (fun b => b = 44) (fun r ext => ∃ D ws k c1 o1, r = .ref D ∧ ext = [(D, listOf ws.toArray k), (44, tabObj #[rawInt 50, rawInt 4, .ref c1]), (c1, o1)] ∧ IntsAre ws [1] ∧ CodeOf o1 inner1 ∧ @LT.lt Nat _ 44 D ∧ @LT.lt Nat _ 44 c1) := by
  unfold Ct; k_fill
  intro p loose mean mg mb dp un gd env outer A₀ base h₀ L m s Q E B F X N T k1 k2 hf hk hdp hun hret
  refine wpAny_call ?_
  walk_at "my enter"
  rename (_ = Array.size s.heap.objs) => hL9
  refine hold_body fun qH qH' => ?_
  rename_i g L' h1 tk1 Gk' FG' F1 B' X' T' lT l49 oC oB oA dC dB dA N1
  replace F1 : Fr g L' h1 (fun y => if y = "a" then some (.int 1 ta) else none) := F1
  replace dA : oA.data = .cell (some (.int ((Builtin.Int.intBits 1 : Nat) : Int) t)) := dA
  replace dB : oB.data = .cell none := dB
  replace dC : oC.data = .cell none := dC
  k_steps
  rename_i l8 _ _ D _ _ _ _ _ _ _ lD _ _ _ _ f c1 o1 v1 q1 _ _ _ _ d1 d1' l1 l2 _ _ _ _ _ _ _ _ _ _ _ _ _ _ _ _ hI hl9 _ F9 _ _ _ kF kN _ _
  have hI1 : IntsAre _ [1] := hI
  refine my_ret Gk' N hL9 hret F9 kF kN ⟨D, _, _, c1, o1, rfl, rfl, hI1, ⟨v1, q1, d1, d1'⟩, by omega, by omega⟩ (List.forall_mem_cons.mpr ⟨Or.inr rfl, List.forall_mem_nil _⟩) (by walk_at "my sub") (List.forall_mem_cons.mpr ⟨Or.inr (by dsimp only; omega), List.forall_mem_cons.mpr ⟨Or.inl rfl, List.forall_mem_cons.mpr ⟨Or.inr (by dsimp only; omega), List.forall_mem_nil _⟩⟩⟩)
theorem d2i_fresh (w : World) (l : Addr) (x : Int) (k : Nat) (t tx : Tok) (hl : @LT.lt Nat _ 51 l) :
    Ct w 56 [.ref l, .int ((Builtin.Int.intBits 1 : Nat) : Int) t] [(l, listOf [.int x tx].toArray k), (51, tabObj #[])] 40 (fun b => b = 51) (fun r ext => ∃ t1 c2 o2, r = .int x t1 ∧ ext = [(51, tabObj #[rawInt 65, rawInt 4, .ref c2]), (c2, o2)] ∧ CodeOf o2 inner2 ∧ @LT.lt Nat _ 51 c2) := by
  unfold Ct; k_fill
  intro p loose mean mg mb dp un gd env outer A₀ base h₀ L m s Q E B F X N T k1 k2 hf hk hdp hun hret
  refine wpAny_call ?_
  walk_at "my enter"
  rename (_ = Array.size s.heap.objs) => hL9
  refine hold_body fun qH qH' => ?_
  rename_i g L' h1 tk1 Gk' FG' F1 B' X' T' lT l56 oA oB oC dA dB dC N1
  replace F1 : Fr g L' h1 (fun _ => none) := F1
  replace dC : oC.data = .cell (some (.ref l)) := dC
  replace dB : oB.data = .cell (some (.int ((Builtin.Int.intBits 1 : Nat) : Int) t)) := dB
  replace dA : oA.data = .cell none := dA
  have hI0 : IntsAre [.int x tx] [x] := .cons _ _ .nil
  k_steps
  rename_i f c2 o2 v2 q2 _ _ _ _ d2 d2' l1 l2 _ _ _ _ _ _ _ _ _ _ _ _ _ _ _ _ F9 _ _ _ kF kN _ _
  refine my_ret Gk' N hL9 hret F9 kF kN ⟨_, c2, o2, rfl, rfl, ⟨v2, q2, d2, d2'⟩, by omega⟩ (List.forall_mem_cons.mpr ⟨Or.inl (by k_mem), List.forall_mem_cons.mpr ⟨Or.inr rfl, List.forall_mem_nil _⟩⟩) (by walk_at "my sub") (List.forall_mem_cons.mpr ⟨Or.inl rfl, List.forall_mem_cons.mpr ⟨Or.inr (by dsimp only; omega), List.forall_mem_nil _⟩⟩)
local macro_rules | `(tactic| walk_at "call ref cons nil") => `(tactic| refine Stop.at ?_)
theorem dvp_fresh (w : World) (ta tb : Tok) :
    Ct w 63 [.int 1 ta, .int 1 tb] fresh2 50 (fun b => b = 51 ∨ b = 44) (fun r ext => ∃ D t1 t2 k c1 c2 o1 o2, r = .ref D ∧ ext = (D, tupOf #[.int 1 t1, .int 0 t2] k) :: TabExt c1 c2 o1 o2 ∧ CodeOf o1 inner1 ∧ CodeOf o2 inner2) := by
  unfold Ct; k_fill
  intro p loose mean mg mb dp un gd env outer A₀ base h₀ L m s Q E B F X N T k1 k2 hf hk hdp hun hret
  refine wpAny_call ?_
  unfold fresh2 at N
  walk_at "my enter"
  rename (_ = Array.size s.heap.objs) => hL9
  refine hold_body fun qH qH' => ?_
  k_steps
  rename_i tk0 g L' h1 Gk' FG' B' X' T' lT l63 h2 F1 N1
  replace F1 : Fr g L' h2 (fun y => if y = "n" then some (.int ((Builtin.Int.intBits 1 : Nat) : Int) tk0) else List.lookup y [("b", .int 1 tb), ("a", .int 1 ta)]) := F1
  with_reducible refine Stop.go ?_
  refine Ct.useX (i2d_fresh w _ _) [(51, tabObj #[])] (by k_asm) F1 (by k_asm) N1 (by k_asm) k1 k2 rfl rfl (by walk_at "my room") (by walk_at "my units") (by walk_at "my sub") (by walk_at "my sub") (List.forall_mem_cons.mpr ⟨by decide, List.forall_mem_nil _⟩) ?_
  rintro r ext h3 tk3 F3 N3 l3 ⟨D, ws, k, c1, o1, rfl, rfl, hI, x1, gD, gc⟩
  simp only [List.cons_append, List.nil_append] at N3
  have lD := ((l3 _ (.head _)).resolve_left (Nat.ne_of_gt gD))
  have lc := ((l3 _ (.tail _ (.tail _ (.head _)))).resolve_left (Nat.ne_of_gt gc))
  simp only [AllLt, and_true] at lD lc
  obtain ⟨t1, rfl⟩ : ∃ t1, ws = [.int 1 t1] := by
    cases hI with
    | cons n t h => cases h; exact ⟨_, rfl⟩
  clear l3 hI
  k_steps
  with_reducible refine Stop.go ?_
  rename Fr _ _ _ _ => F4; with_reducible rename News _ _ _ _ => N4
  refine Ct.useN (div2n1n_ct w _ _ _ _ _ _ (by decide) (by decide) (by decide)) (by k_asm) F4 (by k_asm) N4 (by k_asm) k1 k2 rfl rfl (by walk_at "my room") (by walk_at "my units") (by walk_at "my sub") ?_
  rintro r2 ext h10 tk10 F10 N10 l10 ⟨D3, t2, t3, k3, rfl, rfl⟩
  simp only [List.cons_append, List.nil_append] at N10
  rw [show (0 * 2 ^ ((Builtin.Int.intBits 1 : Nat) : Int).toNat + 1 : Int).fdiv 1 = 1 by decide, show (0 * 2 ^ ((Builtin.Int.intBits 1 : Nat) : Int).toNat + 1 : Int).fmod 1 = 0 by decide] at N10
  have l10' := (l10 _ (.head _)).2
  simp only [AllLt, and_true] at l10'
  k_steps
  with_reducible refine Stop.go ?_
  rename Fr _ _ _ _ => F11; with_reducible rename News _ _ _ _ => N11
  refine Ct.useX (d2i_fresh w _ 1 _ _ t2 (by omega)) [(44, tabObj #[rawInt 50, rawInt 4, .ref c1]), (c1, o1)] (by k_asm) F11 (by k_asm) N11 (by k_asm) k1 k2 rfl rfl (by walk_at "my room") (by walk_at "my units") (by walk_at "my sub") (by walk_at "my sub") (List.forall_mem_cons.mpr ⟨fun h => absurd (show (44 : Nat) = 51 from h) (by decide), List.forall_mem_cons.mpr ⟨Nat.ne_of_gt lc.2, List.forall_mem_nil _⟩⟩) ?_
  rintro r2 ext h12 tk12 F12 N12 l12 ⟨t5, c2, o2, rfl, rfl, x2, g2⟩
  simp only [List.cons_append, List.nil_append] at N12
  have lc2 := ((l12 _ (.tail _ (.head _))).resolve_left (Nat.ne_of_gt g2))
  simp only [AllLt, and_true] at lc2
  clear l12
  k_steps
  rename_i D13 _ F13 N13 l13 kF kN _ _
  exact my_ret Gk' N hL9 hret F13 kF kN ⟨D13, t5, t3, 0, c1, c2, o1, o2, rfl, rfl, x1, x2⟩ (List.forall_mem_cons.mpr ⟨Or.inr (Or.inl rfl), List.forall_mem_cons.mpr ⟨Or.inr (Or.inr rfl), List.forall_mem_nil _⟩⟩) (by unfold TabExt; walk_at "my sub")
    (List.forall_mem_cons.mpr ⟨Or.inr (by dsimp only; have := F12.ns.lt; omega), List.forall_mem_cons.mpr ⟨Or.inl (Or.inl rfl), List.forall_mem_cons.mpr ⟨Or.inr (by dsimp only; omega), List.forall_mem_cons.mpr ⟨Or.inl (Or.inr rfl), List.forall_mem_cons.mpr ⟨Or.inr (by dsimp only; omega), List.forall_mem_nil _⟩⟩⟩⟩⟩)
theorem idm_fresh (w : World) (ta tb : Tok) :
    Ct w 70 [.int 1 ta, .int 1 tb] fresh2 53 (fun b => b = 51 ∨ b = 44) (fun r ext => ∃ D t1 t2 k c1 c2 o1 o2, r = .ref D ∧ ext = (D, tupOf #[.int 1 t1, .int 0 t2] k) :: TabExt c1 c2 o1 o2 ∧ CodeOf o1 inner1 ∧ CodeOf o2 inner2) := by
  unfold Ct; k_fill
  intro p loose mean mg mb dp un gd env outer A₀ base h₀ L m s Q E B F X N T k1 k2 hf hk hdp hun hret
  refine wpAny_call ?_
  unfold fresh2 at N
  walk_at "my enter"
  rename (_ = Array.size s.heap.objs) => hL9
  refine hold_body fun qH qH' => ?_
  rename_i Gk' _ _ _ _ _ _ _ _
  k_steps
  with_reducible refine Stop.go ?_
  rename Fr _ _ _ _ => F1; with_reducible rename News _ _ _ _ => N1
  refine Ct.useX (dvp_fresh w _ _) [] (by k_asm) F1 (by k_asm) N1 (by k_asm) k1 k2 rfl rfl (by walk_at "my room") (by walk_at "my units") (by unfold fresh2; walk_at "my sub") (List.forall_mem_nil _) (List.forall_mem_nil _) ?_
  rintro r ext h3 tk3 F3 N3 l3 ⟨D, t1, t2, k, c1, c2, o1, o2, rfl, rfl, x1, x2⟩
  rw [List.append_nil] at N3
  k_steps
  rename_i kF kN _ _
  exact my_ret Gk' N hL9 hret F3 kF kN ⟨D, t1, t2, k, c1, c2, o1, o2, rfl, rfl, x1, x2⟩ (List.forall_mem_cons.mpr ⟨Or.inr (Or.inl rfl), List.forall_mem_cons.mpr ⟨Or.inr (Or.inr rfl), List.forall_mem_nil _⟩⟩) (fun _ h => h)
    fun p hp => (l3 p hp).imp id fun h => Nat.le_of_lt h.1
theorem ways_fresh (w : World) (t1 t2 : Tok) :
    Ct w 87 [.int (-3) t1, .int 0 t2] fresh2 60 (fun b => b = 51 ∨ b = 44) (fun r ext => (∃ t, r = .int 1 t) ∧ ∃ c1 c2 o1 o2, ext = TabExt c1 c2 o1 o2 ∧ CodeOf o1 inner1 ∧ CodeOf o2 inner2) := by
  unfold Ct; k_fill
  intro p loose mean mg mb dp un gd env outer A₀ base h₀ L m s Q E B F X N T k1 k2 hf hk hdp hun hret
  refine wpAny_call ?_
  unfold fresh2 at N
  walk_at "my enter"
  rename (_ = Array.size s.heap.objs) => hL9
  refine hold_body fun qH qH' => ?_
  rename_i Gk' _ _ _ _ _ _ _ _
  k_steps
  with_reducible refine Stop.go ?_
  rename Fr _ _ _ _ => F1; with_reducible rename News _ _ _ _ => N1
  refine Ct.useX (idm_fresh w _ _) [] (by k_asm) F1 (by k_asm) N1 (by k_asm) k1 k2 rfl rfl (by walk_at "my room") (by walk_at "my units") (by unfold fresh2; walk_at "my sub") (List.forall_mem_nil _) (List.forall_mem_nil _) ?_
  rintro r ext h3 tk3 F3 N3 l3 ⟨D, t1, t2, k, c1, c2, o1, o2, rfl, rfl, x1, x2⟩
  rw [List.append_nil] at N3
  unfold TabExt at N3
  k_steps
  rename_i F9 N9 kF kN _ _
  exact my_ret Gk' N hL9 hret F9 kF kN ⟨⟨_, rfl⟩, c1, c2, o1, o2, rfl, x1, x2⟩ (List.forall_mem_cons.mpr ⟨Or.inr (Or.inl rfl), List.forall_mem_cons.mpr ⟨Or.inr (Or.inr rfl), List.forall_mem_nil _⟩⟩) (by unfold TabExt; walk_at "my sub")
    fun p hp => (l3 p (.tail _ hp)).imp id fun h => Nat.le_of_lt h.1
end

section
theorem walk_off_c_stats : True := by
  w_top off
  trivial
local macro_rules | `(tactic| walk_at "no line 0") => `(tactic| fail)
local macro_rules | `(tactic| walk_at "exec For Tuple Call cons nil") => `(tactic| ((rename Fr _ _ _ _ => lF'); (rename News _ _ _ _ => lN'); with_unfolding_all ((refine' For_turns lF' ?_); k_whole; (refine MethodCall_ ?_); (refine ld lF' (by rfl) ?_); (refine kdl_method (knd := PySem.intKind _ _) PySem.F.slot_dict_items PySem.F.type_dict_items lN' (by k_mem) (by k_asm) ?_); (refine callWith_method0 ?_); (refine kta_callItems (knd := PySem.intKind _ _) lF' lN' (by k_mem) (by k_asm) (by k_asm) ?_); intro h' hv' F' N'; (refine kta_items (knd := PySem.intKind _ _) (enc := PyData.int) (kvs := []) (xs := []) (by rfl) F' N' hv' (by k_mem) (by k_asm) (fun _ _ h => Value.isInt_shape h) (by rfl) ?_)); clear lF' lN'; intro i' l1; (try k_lt l1)))
theorem add_callers_ct (w : World) (a b : Addr) (oa ob : Obj) (ha : oa.IsDictOf (intKind PySem.Challenge.rw_hr0001_01.row.prog w) []) (hb : ob.IsDictOf (intKind PySem.Challenge.rw_hr0001_01.row.prog w) []) (sa : (a == sysModules) = false) (sb : (b == sysModules) = false) :
    Ct w 28 [.ref a, .ref b] [(a, oa), (b, ob)] 2 (fun _ => False) (fun r ext => ∃ D o, r = .ref D ∧ ext = [(D, o)] ∧ o.IsDictOf (intKind PySem.Challenge.rw_hr0001_01.row.prog w) [] ∧ (D == sysModules) = false) := by
  unfold Ct; k_fill
  intro p loose mean mg mb dp un gd env outer A₀ base h₀ L m s Q E B F X N T k1 k2 hf hk hdp hun hret
  refine wpAny_call ?_
  walk_at "my enter"
  refine hold_body fun qH qH' => ?_
  rename Fr _ _ _ _ => fF
  replace fF : Fr _ _ _ (fun y => List.lookup y [("source", .ref b), ("target", .ref a)]) := fF
  k_steps
  rename_i D _ oD lL lo hD _ _ _ _ _ _ _ _ _ _ _ _ _ _ _ _ _ _ F9 _ kF kN _ _
  exact my_ret (by assumption) N (by assumption) hret F9 kF kN ⟨D, oD, rfl, rfl, hD, lo⟩ (by walk_at "my subm") (by walk_at "my sub") (List.forall_mem_cons.mpr ⟨Or.inr (Nat.le_of_lt lL), List.forall_mem_nil _⟩)
local macro_rules | `(tactic| walk_at "call ref cons nil") => `(tactic| refine Stop.at ?_)
theorem add_func_stats_ct (w : World) (ta ts a b : Addr) (ka ks : Nat) (oa ob : Obj) (x1 x2 x3 x4 y1 y2 y3 y4 : Int) (u1 u2 u3 u4 v1 v2 v3 v4 : Tok) (ha : oa.IsDictOf (intKind PySem.Challenge.rw_hr0001_01.row.prog w) []) (hb : ob.IsDictOf (intKind PySem.Challenge.rw_hr0001_01.row.prog w) []) (sa : (a == sysModules) = false) (sb : (b == sysModules) = false) :
    Ct w 21 [.ref ta, .ref ts] [(ts, tupOf #[.int y1 v1, .int y2 v2, .int y3 v3, .int y4 v4, .ref b] ks), (b, ob), (ta, tupOf #[.int x1 u1, .int x2 u2, .int x3 u3, .int x4 u4, .ref a] ka), (a, oa)] 4 (fun _ => False)
      (fun r ext => ∃ D o T w1 w2 w3 w4 k, r = .ref T ∧ ext = [(T, tupOf #[.int (y1 + x1) w1, .int (y2 + x2) w2, .int (y3 + x3) w3, .int (y4 + x4) w4, .ref D] k), (D, o)] ∧ o.IsDictOf (intKind PySem.Challenge.rw_hr0001_01.row.prog w) [] ∧ (D == sysModules) = false) := by
  unfold Ct; k_fill
  intro p loose mean mg mb dp un gd env outer A₀ base h₀ L m s Q E B F X N T k1 k2 hf hk hdp hun hret
  refine wpAny_call ?_
  walk_at "my enter"
  refine hold_body fun qH qH' => ?_
  rename Fr _ _ _ _ => fF
  replace fF : Fr _ _ _ (fun y => List.lookup y [("source", .ref ts), ("target", .ref ta)]) := fF
  k_steps
  refine Stop.go ?_
  rename Fr _ _ _ _ => F1; rename News _ _ _ _ => N1
  refine Ct.useN (add_callers_ct w a b oa ob ha hb sa sb) (by k_asm) F1 (by k_asm) N1 (by k_asm) k1 k2 rfl rfl (by walk_at "my room") (by walk_at "my units") (by walk_at "my sub") ?_
  rintro r2 ext h10 tk10 F10 N10 l10 ⟨D, oD, rfl, rfl, hD, lo⟩
  simp only [List.cons_append, List.nil_append] at N10
  have lL := (l10 _ (.head _)).1
  dsimp only at lL
  k_steps
  rename_i T _ F9 _ lT kF kN _ _
  exact my_ret (by assumption) N (by assumption) hret F9 kF kN ⟨D, oD, T, _, _, _, _, 0, rfl, rfl, hD, lo⟩ (by walk_at "my subm") (by walk_at "my sub") (List.forall_mem_cons.mpr ⟨Or.inr (Nat.le_of_lt (Nat.lt_trans lL lT.1)), List.forall_mem_cons.mpr ⟨Or.inr (Nat.le_of_lt lL), List.forall_mem_nil _⟩⟩)
end

section
theorem walk_off_c_by_diff : True := by
  w_top off
  trivial
def Made (x1 x2 : Addr) (b1 b2 y1 y2 : Obj) : Prop := CodeOf y1 inner1 ∧ CodeOf y2 inner2 ∧ b1 = tabObj #[rawInt 65, rawInt 4, .ref x2] ∧ b2 = tabObj #[rawInt 50, rawInt 4, .ref x1]
def tab4 (x1 x2 : Addr) (b1 b2 y1 y2 : Obj) : Led := [(51, b1), (x2, y2), (44, b2), (x1, y1)]
theorem ways_use {w : World} {n few : Int} {t1 t2 : Tok}
    {p : Program} {loose : List Str} {mean : ExcName → Option Value} {mg mb : Str → Option Value}
    {dp un : Nat} {gd : Option (List Code)} {env : Env} {outer : List Env} {A₀ : Around} {base h₀ : Heap} {L : Addr} {m : Str → Option Value} {s : Shared} {Q E : Value → Shared → Prop} {all : Led} (led : Led) {x1 x2 : Addr} {b1 b2 y1 y2 : Obj} (P : Addr → Prop)
    (hn : -3 ≤ n ∧ n ≤ 6) (h0 : 0 ≤ few) (h3 : few ≤ 3)
    (B : Below A₀ base outer h₀) (F : Fr h₀ L s.heap m) (X : (hd.heap_39 w.params).In h₀) (N : News h₀ L s.heap all) (T : Top p loose mean mg mb h₀) (k1 : CodeHd base 55 51) (k2 : CodeHd base 48 44) (hf : env.frame = some L) (hk : env.scope.kind = .function)
    (hdp : dp + 60 < 1000) (hun : un + 8 * 60 < 9000) (hall : ∀ p ∈ tab4 x1 x2 b1 b2 y1 y2, p ∈ all) (hsub : ∀ p ∈ led, p ∈ all) (hoff : ∀ p ∈ led, p.1 ≠ 51 ∧ p.1 ≠ 44)
    (hst : (few = 0 ∧ n = -3 ∧ b1 = tabObj #[] ∧ b2 = tabObj #[]) ∨ (Made x1 x2 b1 b2 y1 y2 ∧ P x1 ∧ P x2)) (hP : ∀ d, @LT.lt Nat _ L d → AllLt d led → P d)
    (k : ∀ (t' : Tok) (x1 x2 : Addr) (b1 b2 y1 y2 : Obj) (h' : Heap) (tk' : Nat), Fr h₀ L h' m → News h₀ L h' (tab4 x1 x2 b1 b2 y1 y2 ++ led) → Made x1 x2 b1 b2 y1 y2 → P x1 → P x2 → -20 ≤ waysOf n few.toNat → waysOf n few.toNat ≤ 20 → Q (.int (waysOf n few.toNat) t') { s with heap := h', toks := tk' }) :
    wpAny (model PySem.Challenge.rw_hr0001_01.row.prog w) (aroundOf dp un gd env outer) (call (.ref 87) [.int n t1, .int few t2]) Q E s := by
  rcases hst with ⟨rfl, rfl, rfl, rfl⟩ | ⟨⟨c1, c2, rfl, rfl⟩, p1, p2⟩
  · refine Ct.useF (ways_fresh w t1 t2) led B F X N T k1 k2 hf hk hdp hun (fun p hp => hall p ?_) hsub hoff fun r c1 c2 o1 o2 h' tk' F' N' l1 l2 z1 z2 ⟨t, e⟩ => ?_
    · rcases List.mem_cons.mp hp with rfl | hp
      · exact .head _
      · rw [List.mem_singleton.mp hp]; exact .tail _ (.tail _ (.head _))
    · subst e
      exact k t c1 c2 _ _ o1 o2 h' tk' F' N' ⟨z1, z2, rfl, rfl⟩ (hP _ l1.1 l1.2) (hP _ l2.1 l2.2) (by decide) (by decide)
  · refine CtM.useN (ways_cz w x1 x2 n few t1 t2 hn h0 h3) B F X N T k1 k2 (TabMade.of_ext (o1 := y1) (o2 := y2) (fun p hp => N p (hall p hp)) c1 c2) hf hk (Nat.lt_of_le_of_lt (Nat.add_le_add_left (by decide) dp) hdp) (Nat.lt_of_le_of_lt (Nat.add_le_add_left (by decide) un) hun) (fun p hp => nomatch hp) ?_
    rintro r ext h' tk' F' N' l' ⟨rfl, t', rfl, e1, e2⟩
    exact k t' x1 x2 _ _ y1 y2 h' tk' F' (fun p hp => N' p ((List.mem_append.mp hp).elim (hall p) (hsub p))) ⟨c1, c2, rfl, rfl⟩ p1 p2 e1 e2
theorem off51 {a : Addr} (h : @LT.lt Nat _ 51 a) : a ≠ 51 ∧ a ≠ 44 := ⟨Nat.ne_of_gt h, Nat.ne_of_gt (Nat.lt_trans (by decide) h)⟩
inductive BDI (prog : Program) (w : World) (n : Int) (t : Tok) (l : Addr) (vs : List Value) (k : Nat) (fs : List Int) (I : Nat) (P : Addr → Prop) (i : Nat) (r : List Value) (mm : Str → Option Value) (news : Led) : Prop
  | mk (T' D' : Addr) (oD : Obj) (acc x2 x3 x4 : Int) (u1 u2 u3 u4 : Tok) (kk : Nat) (rem : List Int) (a1 a2 : Addr) (b1 b2 y1 y2 : Obj) (en : mm "number" = some (.int n t)) (ew : mm "whole" = some (.ref T'))
    (hs : SubL [(T', tupOf #[.int acc u1, .int x2 u2, .int x3 u3, .int x4 u4, .ref D'] kk), (D', oD), (l, listOf vs.toArray k), (51, b1), (a2, y2), (44, b2), (a1, y1)] news) (hD : oD.IsDictOf (intKind prog w) []) (hlo : (D' == sysModules) = false)
    (hI1 : @Ne Nat D' (I + 1)) (hI : @Ne Nat D' I) (hT5 : @LT.lt Nat _ 51 T') (hD5 : @LT.lt Nat _ 51 D') (hi : IntsAre r rem) (hil : i + rem.length = fs.length) (hsum : acc + wsum n i rem = wsum n 0 fs)
    (hst : (i = 0 ∧ n = -3 ∧ b1 = tabObj #[] ∧ b2 = tabObj #[]) ∨ (Made a1 a2 b1 b2 y1 y2 ∧ P a1 ∧ P a2)) : BDI prog w n t l vs k fs I P i r mm news
local macro_rules | `(tactic| walk_at "exec For Tuple Call cons nil") => `(tactic| ((rename Fr _ _ _ _ => lF'); (with_unfolding_all refine' For_turns lF' ?_); k_whole))
local macro_rules | `(tactic| walk_at "call ref cons nil") => `(tactic| refine Stop.at ?_)
local macro_rules | `(tactic| walk_at "call type:enumerate cons nil") => `(tactic| refine Stop.at ?_)
local macro_rules | `(tactic| walk_at "eval Name") => `(tactic| (k_here; k_dflt (refine ld (by k_asm) (by assumption) ?_)))
theorem by_diff_ct (w : World) (l : Addr) (k : Nat) (n : Int) (t : Tok) (vs : List Value) (fs : List Int) (hi : IntsAre vs fs) (hl : fs.length ≤ 4) (hl0 : 0 < fs.length) (hn : -3 ≤ n ∧ n ≤ 6) {z1 z2 : Addr} {e1 e2 v1 v2 : Obj} (mod : Addr → Prop) (m1 : mod 51) (m2 : mod 44) (hl51 : @LT.lt Nat _ 51 l)
    (hst : (n = -3 ∧ e1 = tabObj #[] ∧ e2 = tabObj #[]) ∨ (Made z1 z2 e1 e2 v1 v2 ∧ mod z1 ∧ mod z2)) (hmn : ∀ p ∈ tab4 z1 z2 e1 e2 v1 v2, mod p.1 ∨ p = (l, listOf vs.toArray k)) :
    Ct w 94 [.ref l, .int n t] [(l, listOf vs.toArray k), (51, e1), (z2, v2), (44, e2), (z1, v1)] 62 mod (fun r ext => (∃ t, r = .int (wsum n 0 fs) t) ∧ ∃ x1 x2 b1 b2 y1 y2, ext = tab4 x1 x2 b1 b2 y1 y2 ∧ Made x1 x2 b1 b2 y1 y2) := by
  unfold Ct; k_fill
  intro p loose mean mg mb dp un gd env outer A₀ base h₀ L m s Q E B F X N T k1 k2 hf hk hdp hun hret
  refine wpAny_call ?_
  walk_at "my enter"
  rename (_ = Array.size s.heap.objs) => hL9
  refine hold_body fun qH qH' => ?_
  rename_i tk0 g L' _ Gk' _ _ _ _ _ _ lT _
  rename Fr _ _ _ _ => fF
  replace fF : Fr _ _ _ (fun y => List.lookup y [("number", .int n t), ("firsts", .ref l)]) := fF
  k_steps
  rename Fr _ _ _ _ => F1; with_reducible rename News _ _ _ _ => N1; rename Obj.IsDictOf _ _ _ => hi0; rename (_ == sysModules) = false => lo0
  with_reducible refine Stop.go ?_
  with_unfolding_all refine ktu_enum (lo := listOf vs.toArray k) (vs := vs) (xs := enumItems 0 vs) (by rfl) F1 N1 (by k_mem) (by rfl) (by rfl) (by rfl) ?_
  intro I lI
  k_lt lI
  have gI : @LT.lt Nat _ 51 I := by omega
  have gI' : @LT.lt Nat _ 51 (I + 1) := Nat.lt_succ_of_lt gI
  refine enumRest_ind (fun i r mm news => Stop (BDI PySem.Challenge.rw_hr0001_01.row.prog w n t l vs k fs I (fun d => @Ne Nat d (I + 1) ∧ @Ne Nat d I ∧ (mod d ∨ @LE.le Nat _ L' d)) i r mm news)) ?_ ?_ _ _ _ _ ?_
  · intro i v r mm news hJ T3 t3 h5 tk5 hT3 F5 o1 q1 o2 q2 N5 qJ qJ'
    obtain ⟨T', D', oD, acc, x2, x3, x4, u1, u2, u3, u4, kk, rem, a1, a2, b1, b2, y1, y2, en, ew, hsb, hD, hlo, hDI1, hDI, hT5, hD5, hI, hil, hsum, hst'⟩ := Stop.at hJ
    obtain ⟨t9, a, rem', rfl, rfl, hI'⟩ : ∃ t9 a rem', v = .int a t9 ∧ rem = a :: rem' ∧ IntsAre r rem' := by
      cases hI with
      | cons n t h => exact ⟨_, _, _, rfl, rfl, h⟩
    replace N5 : News _ _ h5 [(I + 1, o1), (I, o2), (T', tupOf #[.int acc u1, .int x2 u2, .int x3 u3, .int x4 u4, .ref D'] kk), (D', oD), (l, listOf vs.toArray k), (51, b1), (a2, y2), (44, b2), (a1, y1)] := fun p hp => N5 p (by
      rcases List.mem_cons.mp hp with rfl | hp
      · exact .head _
      rcases List.mem_cons.mp hp with rfl | hp
      · exact .tail _ (.head _)
      · exact .tail _ (.tail _ (hsb.mem p hp)))
    have hi3 : i ≤ 3 := by simp only [List.length_cons] at hil; omega
    clear hsb hst hmn hJ
    k_steps
    with_reducible refine Stop.go ?_
    rename Fr _ _ _ _ => F8; with_reducible rename News _ _ _ _ => N8
    refine ways_use [(I + 1, o1), (I, o2), (T', tupOf #[.int acc u1, .int x2 u2, .int x3 u3, .int x4 u4, .ref D'] kk), (D', oD), (l, listOf vs.toArray k)] (fun d => @Ne Nat d (I + 1) ∧ @Ne Nat d I ∧ (mod d ∨ @LE.le Nat _ L' d)) hn (by omega) (by omega) (by k_asm) F8 (by k_asm) N8 (by k_asm) k1 k2 rfl rfl (by walk_at "my room") (by walk_at "my units") (by unfold tab4; walk_at "my sub") (by walk_at "my sub")
      (List.forall_mem_cons.mpr ⟨off51 gI', List.forall_mem_cons.mpr ⟨off51 gI, List.forall_mem_cons.mpr ⟨off51 hT5, List.forall_mem_cons.mpr ⟨off51 hD5, List.forall_mem_cons.mpr ⟨off51 hl51, List.forall_mem_nil _⟩⟩⟩⟩⟩)
      (hst'.imp (fun h => ⟨by rw [h.1]; rfl, h.2⟩) id) (fun d hd ha => ⟨Nat.ne_of_gt ha.1, Nat.ne_of_gt ha.2.1, Or.inr (Nat.le_of_lt hd)⟩) ?_
    clear N8 hst'
    intro t9' c1 c2 d1 d2 q1' q2' h6 tk6 F7 N7 hM7 pc1 pc2 hb1 hb2
    simp only [tab4, List.cons_append, List.nil_append] at N7
    have ne1 := pc1.1
    have ne2 := pc1.2.1
    have ne3 := pc2.1
    have ne4 := pc2.2.1
    k_steps
    with_reducible refine Stop.go ?_
    rename Fr _ _ _ _ => F10; with_reducible rename News _ _ _ _ => N10
    refine Ct.useN (add_func_stats_ct _ _ _ _ _ _ _ _ _ _ _ _ _ _ _ _ _ _ _ _ _ _ _ _ _ ?ha ?hb ?sa ?sb) (by k_asm) F10 (by k_asm) N10 (by k_asm) k1 k2 rfl rfl (by walk_at "my room") (by walk_at "my units") (by walk_at "my sub") ?_
    case ha => assumption
    case hb => assumption
    case sa => assumption
    case sb => assumption
    clear F10 N10
    rintro r9 ext9 h9 tk9 F9 N9 l9 ⟨D9, o9, T9, w1, w2, w3, w4, k9, rfl, rfl, hD9, lo9⟩
    simp only [List.cons_append, List.nil_append] at N9
    have lT9 := (l9 _ (.head _)).2
    have lD9 := (l9 _ (.tail _ (.head _))).2
    clear l9
    simp only [AllLt, and_true] at lT9 lD9
    k_steps
    refine Stop.go ⟨T9, D9, o9, _, _, _, _, w1, w2, w3, w4, k9, rem', c1, c2, d1, d2, q1', q2', en, rfl, ⟨by k_mem, by k_mem, by k_mem, by k_mem, by k_mem, by k_mem, by k_mem, trivial⟩, hD9, lo9, by k_ne, by k_ne, by omega, by omega, hI', ?_, ?_, Or.inr ⟨hM7, pc1, pc2⟩⟩
    · simp only [List.length_cons] at hil; omega
    · rw [← hsum, wsum, Int.toNat_natCast]; omega
  · intro i mm news hJ h5 tk5 F5 N5
    obtain ⟨T', D', oD, acc, x2, x3, x4, u1, u2, u3, u4, kk, rem, a1, a2, b1, b2, y1, y2, en, ew, hsb, hD, hlo, hDI1, hDI, hT5, hD5, hI, hil, hsum, hst'⟩ := Stop.at hJ
    replace N5 : News _ _ h5 [(T', tupOf #[.int acc u1, .int x2 u2, .int x3 u3, .int x4 u4, .ref D'] kk), (D', oD), (l, listOf vs.toArray k), (51, b1), (a2, y2), (44, b2), (a1, y1)] := fun p hp => N5 p (hsb.mem p hp)
    cases hI
    obtain ⟨hM, pa1, pa2⟩ := hst'.resolve_left (fun h => by have := h.1; simp only [List.length_nil] at hil; omega)
    k_steps
    rename_i kF kN Tc kX
    have e : acc = wsum n 0 fs := by rw [← hsum]; simp [wsum]
    subst e
    exact my_ret Gk' N hL9 hret F5 kF kN ⟨⟨_, rfl⟩, a1, a2, b1, b2, y1, y2, rfl, hM⟩ (List.forall_mem_cons.mpr ⟨Or.inl (by k_mem), fun p hp => (hmn p hp).elim Or.inr fun e => Or.inl (e ▸ by k_mem)⟩) (by unfold tab4; walk_at "my sub")
      (List.forall_mem_cons.mpr ⟨Or.inl m1, List.forall_mem_cons.mpr ⟨pa2.2.2, List.forall_mem_cons.mpr ⟨Or.inl m2, List.forall_mem_cons.mpr ⟨pa1.2.2, List.forall_mem_nil _⟩⟩⟩⟩)
  · refine Stop.go ⟨_, _, _, 0, 0, 0, 0, _, _, _, _, 0, fs, z1, z2, e1, e2, v1, v2, rfl, rfl, ⟨by k_mem, by k_mem, by k_mem, by k_mem, by k_mem, by k_mem, by k_mem, trivial⟩, hi0, lo0, by k_ne, by k_ne, by omega, by omega, hi, by omega, by omega, hst.imp (fun h => ⟨rfl, h⟩) fun h => ⟨h.1, ⟨by k_ne, by k_ne, Or.inl h.2.1⟩, ⟨by k_ne, by k_ne, Or.inl h.2.2⟩⟩⟩
end

section
theorem walk_off_c_by_products : True := by
  w_top off
  trivial
local macro_rules | `(tactic| walk_at "no line 0") => `(tactic| fail)
def prodX (f : Int) (p : Nat) : Nat → Int
  | 0 => 1
  | j + 1 => if j = p then prodX f p j else prodX f p j * (f - (j : Int))
def wprod (n : Int) (fs : List Int) (S : Int) : Nat → Int
  | 0 => 0
  | p + 1 => wprod n fs S p + fs.getD p 0 * prodX n p fs.length * ((S * S).fdiv (prodX p p fs.length))
theorem prodX_low : ∀ M : Nat, M ≤ 4 → ∀ p : Nat, p < M → prodX p p M ≠ 0 ∧ -6 ≤ prodX p p M ∧ prodX p p M ≤ 6 := by decide
theorem prodX_b3 : ∀ g : Nat, g < 10 → ∀ p : Nat, p < 4 → ∀ j : Nat, j < 5 → -10000 ≤ prodX ((g : Int) - 3) p j ∧ prodX ((g : Int) - 3) p j ≤ 10000 := by decide +kernel
theorem prodX_b4 {f : Int} (hf : -3 ≤ f ∧ f ≤ 6) (p : Nat) (hp : p < 4) (j : Nat) (hj : j ≤ 4) : -10000 ≤ prodX f p j ∧ prodX f p j ≤ 10000 := by
  have := prodX_b3 (f + 3).toNat (by omega) p hp j (by omega)
  rwa [show (((f + 3).toNat : Nat) : Int) - 3 = f by omega] at this
theorem sq_bnd {S : Int} (h : 1 ≤ S ∧ S ≤ 6) : 1 ≤ S * S ∧ S * S ≤ 36 := by
  have : S = 1 ∨ S = 2 ∨ S = 3 ∨ S = 4 ∨ S = 5 ∨ S = 6 := by omega
  rcases this with rfl | rfl | rfl | rfl | rfl | rfl <;> decide
theorem abs_mul {x y : Int} {a b : Nat} (hx : x.natAbs ≤ a) (hy : y.natAbs ≤ b) : (x * y).natAbs ≤ a * b := by rw [Int.natAbs_mul]; exact Nat.mul_le_mul hx hy
theorem abs_add {x y : Int} {a b : Nat} (hx : x.natAbs ≤ a) (hy : y.natAbs ≤ b) : (x + y).natAbs ≤ a + b := Nat.le_trans (Int.natAbs_add_le x y) (Nat.add_le_add hx hy)
theorem abs_of {x : Int} {a : Nat} (h : -(a : Int) ≤ x ∧ x ≤ a) : x.natAbs ≤ a := by omega
theorem of_abs {x : Int} {a : Nat} (h : x.natAbs ≤ a) : -(a : Int) ≤ x ∧ x ≤ a := by omega
theorem fdiv_tab : ∀ x : Nat, x < 37 → ∀ y : Nat, y < 13 → y ≠ 6 → -36 ≤ (x : Int).fdiv ((y : Int) - 6) ∧ (x : Int).fdiv ((y : Int) - 6) ≤ 36 := by decide +kernel
theorem fdiv_bnd {x y : Int} (hx : 1 ≤ x ∧ x ≤ 36) (hy : y ≠ 0 ∧ -6 ≤ y ∧ y ≤ 6) : -36 ≤ x.fdiv y ∧ x.fdiv y ≤ 36 := by
  have := fdiv_tab x.toNat (by omega) (y + 6).toNat (by omega) (by omega)
  rwa [show ((x.toNat : Nat) : Int) = x by omega, show (((y + 6).toNat : Nat) : Int) - 6 = y by omega] at this
theorem sqq_bnd {S q x : Int} (h : 1 ≤ S ∧ S ≤ 6) (hq : -20000 ≤ q ∧ q ≤ 20000) (e : x = S * S * q) : -720000 ≤ x ∧ x ≤ 720000 := by
  subst e
  exact of_abs (abs_mul (abs_mul (abs_of (a := 6) (by omega)) (abs_of (a := 6) (by omega))) (abs_of (a := 20000) (by omega)))
inductive BP4 (n M W S : Int) (l : Addr) (led : Led) (mm : Str → Option Value) (news : Led) : Prop
  | mk (t1 t2 t3 t4 : Tok) (en : mm "number" = some (.int n t1)) (et : mm "told" = some (.ref l)) (em : mm "many" = some (.int M t2)) (ew : mm "whole" = some (.int W t3)) (es : mm "shared" = some (.int S t4)) (hs : SubL led news) : BP4 n M W S l led mm news
inductive BP7 (n M W S p a b : Int) (l : Addr) (led : Led) (mm : Str → Option Value) (news : Led) : Prop
  | mk (t1 t2 t3 t4 t5 t6 t7 : Tok) (en : mm "number" = some (.int n t1)) (et : mm "told" = some (.ref l)) (em : mm "many" = some (.int M t2)) (ew : mm "whole" = some (.int W t3)) (es : mm "shared" = some (.int S t4)) (ep : mm "place" = some (.int p t5)) (eo : mm "top" = some (.int a t6)) (el : mm "low" = some (.int b t7)) (hs : SubL led news) : BP7 n M W S p a b l led mm news
local macro_rules | `(tactic| walk_at "call ref cons nil") => `(tactic| refine Stop.at ?_)
local macro_rules | `(tactic| walk_at "pyIter ref") => `(tactic| refine Stop.at ?_)
local macro_rules | `(tactic| walk_at "eval Name") => `(tactic| (k_here; k_dflt (refine ld (by k_asm) (by assumption) ?_)))
local macro_rules | `(tactic| walk_at "UnrEnd") => `(tactic| refine Stop.at ?_)
theorem by_products_ct (w : World) (c1 c2 : Addr) (l : Addr) (k : Nat) (n : Int) (t : Tok) (vs : List Value) (fs : List Int) (hi : IntsAre vs fs) (hl : fs.length ≤ 4) (hl0 : 1 ≤ fs.length) (hn : -3 ≤ n ∧ n ≤ 6) (q : Int) (hq : wprod n fs (fct (fs.length - 1)) fs.length = fct (fs.length - 1) * fct (fs.length - 1) * q) (hqb : -20000 ≤ q ∧ q ≤ 20000) :
    CtM w c1 c2 101 [.ref l, .int n t] [(l, listOf vs.toArray k)] 60 (fun _ => False) (fun r ext => ext = [] ∧ ∃ t, r = .int q t) := by
  unfold CtM; k_fill
  intro p loose mean mg mb dp un gd env outer A₀ base h₀ L m s Q E B F X N T k1 k2 TM hf hk hdp hun hret
  refine wpAny_call ?_
  walk_at "my enter"
  refine hold_body fun qH qH' => ?_
  rename Fr _ _ _ _ => fF
  replace fF : Fr _ _ _ (fun y => List.lookup y [("number", .int n t), ("told", .ref l)]) := fF
  rename (_ = Array.size s.heap.objs) => hL9
  have TMg := TabMade.ground TM (by assumption) N ⟨fun vs => by simp, trivial⟩
  have hlv := hi.length
  k_steps
  with_reducible refine Stop.go ?_
  rename Fr _ _ _ _ => F1; rename News _ _ _ _ => N1; rename IsRange _ _ _ _ _ _ _ _ => R1
  have hsz : Builtin.Range.rangeSize 1 (fs.length : Int) 1 = ((fs.length - 1 : Nat) : Int) := rs_one (by omega)
  have hsm : Builtin.Range.small 1 (fs.length : Int) 1 = true := sm_one (by omega) (by omega)
  with_unfolding_all refine iter_rangeUnr (n := fs.length - 1) (by rfl) R1 hsm hsz F1 N1 ?_
  intro I lI
  k_lt lI
  refine rangeRest_ind (fun i mm news => Stop (BP4 n fs.length 0 (fct i) l [(l, listOf vs.toArray k)] mm news)) ?_ ?_ _ _ _ _ (Nat.zero_add _) ?_
  · intro i mm news hi3 hJ t5 h5 tk5 F5 N5
    refine hold_body fun qJ qJ' => ?_
    obtain ⟨t1, t2, t3, t4, en, et, em, ew, es, hsb⟩ := Stop.at hJ
    replace N5 : News _ _ h5 [(I, itR (1 + ((i + 1 : Nat) : Int)) (((fs.length - 1 : Nat) : Int) - ((i + 1 : Nat) : Int))), (l, listOf vs.toArray k)] := fun p hp => N5 p (by
      rcases List.mem_cons.mp hp with rfl | hp
      · exact .head _
      · exact .tail _ (hsb.mem p hp))
    k_steps
    with_reducible refine Stop.go ?_
    rename Fr _ _ _ _ => F9; rename News _ _ _ _ => N9
    refine UnrEnd.intro3 F9 N9 [(l, listOf vs.toArray k)] (by k_mem) (by k_subL) (by k_offL) ?_
    exact Stop.go ⟨_, _, _, _, en, et, em, ew, rfl, ⟨by k_mem, trivial⟩⟩
  · intro mm news hJ h5 tk5 F5 N5
    obtain ⟨t1, t2, t3, t4, en, et, em, ew, es, hsb⟩ := Stop.at hJ
    replace N5 : News _ _ h5 [(l, listOf vs.toArray k)] := fun p hp => N5 p (hsb.mem p hp)
    k_steps
    with_reducible refine Stop.go ?_
    rename Fr _ _ _ _ => F6; rename News _ _ _ _ => N6; rename IsRange _ _ _ _ _ _ _ _ => R6
    have hsz2 : Builtin.Range.rangeSize 0 (fs.length : Int) 1 = ((fs.length : Nat) : Int) := rs_one (by omega)
    have hsm2 : Builtin.Range.small 0 (fs.length : Int) 1 = true := sm_one (by omega) (by omega)
    have hSb := fct_bnd (fs.length - 1) (by omega)
    generalize hS : fct (fs.length - 1) = S at *
    with_unfolding_all refine iter_rangeUnr (n := fs.length) (by rfl) R6 hsm2 hsz2 F6 N6 ?_
    intro I2 lI2
    k_lt lI2
    refine rangeRest_ind (fun i mm news => Stop (BP4 n fs.length (wprod n fs S i) S l [(l, listOf vs.toArray k)] mm news)) ?_ ?_ _ _ _ _ (Nat.zero_add _) ?_
    · clear en et em ew es
      intro i mm news hi3 hJ t5 h5 tk5 F5 N5
      refine hold_body fun qJ qJ' => ?_
      obtain ⟨t1, t2, t3, t4, en, et, em, ew, es, hsb⟩ := Stop.at hJ
      replace N5 : News _ _ h5 [(I2, itR (0 + ((i + 1 : Nat) : Int)) (((fs.length : Nat) : Int) - ((i + 1 : Nat) : Int))), (l, listOf vs.toArray k)] := fun p hp => N5 p (by
        rcases List.mem_cons.mp hp with rfl | hp
        · exact .head _
        · exact .tail _ (hsb.mem p hp))
      k_steps
      with_reducible refine Stop.go ?_
      rename Fr _ _ _ _ => F7; rename News _ _ _ _ => N7; rename IsRange _ _ _ _ _ _ _ _ => R7
      with_unfolding_all refine iter_rangeUnr (n := fs.length) (by rfl) R7 hsm2 hsz2 F7 N7 ?_
      intro I3 lI3
      k_lt lI3
      refine rangeRest_ind (fun j mm news => Stop (BP7 n fs.length (wprod n fs S i) S (0 + (i : Int)) (prodX n i j) (prodX (i : Int) i j) l [(I2, itR (0 + ((i + 1 : Nat) : Int)) (((fs.length : Nat) : Int) - ((i + 1 : Nat) : Int))), (l, listOf vs.toArray k)] mm news)) ?_ ?_ _ _ _ _ (Nat.zero_add _) ?_
      · clear en et em ew es
        intro j mm news hj3 hJ t8 h8 tk8 F8 N8
        refine hold_body fun qK qK' => ?_
        obtain ⟨t1, t2, t3, t4, t5, t6, t7, en, et, em, ew, es, ep, eo, el, hsb⟩ := Stop.at hJ
        replace N8 : News _ _ h8 [(I3, itR (0 + ((j + 1 : Nat) : Int)) (((fs.length : Nat) : Int) - ((j + 1 : Nat) : Int))), (I2, itR (0 + ((i + 1 : Nat) : Int)) (((fs.length : Nat) : Int) - ((i + 1 : Nat) : Int))), (l, listOf vs.toArray k)] := fun p hp => N8 p (by
          rcases List.mem_cons.mp hp with rfl | hp
          · exact .head _
          · exact .tail _ (hsb.mem p hp))
        have hb4 := prodX_b4 hn i (by omega) j (by omega)
        k_steps
        · have hne : j ≠ i := by omega
          with_reducible refine Stop.go ?_
          rename Fr _ _ _ _ => F9; rename News _ _ _ _ => N9
          refine UnrEnd.intro3 F9 N9 [(I2, itR (0 + ((i + 1 : Nat) : Int)) (((fs.length : Nat) : Int) - ((i + 1 : Nat) : Int))), (l, listOf vs.toArray k)] (by k_mem) (by k_subL) (by k_offL) ?_
          have f1 : prodX n i (j + 1) = prodX n i j * (n - (0 + (j : Int))) := by simp [prodX, hne]
          have f2 : prodX (i : Int) i (j + 1) = prodX (i : Int) i j * (0 + (i : Int) - (0 + (j : Int))) := by simp [prodX, hne]
          exact Stop.go ⟨_, _, _, _, _, _, _, en, et, em, ew, es, ep, by rw [f1]; rfl, by rw [f2]; rfl, ⟨by k_mem, by k_mem, trivial⟩⟩
        · have hne : j = i := by omega
          with_reducible refine Stop.go ?_
          rename Fr _ _ _ _ => F9; rename News _ _ _ _ => N9
          refine UnrEnd.intro3 F9 N9 [(I2, itR (0 + ((i + 1 : Nat) : Int)) (((fs.length : Nat) : Int) - ((i + 1 : Nat) : Int))), (l, listOf vs.toArray k)] (by k_mem) (by k_subL) (by k_offL) ?_
          have f1 : prodX n i (j + 1) = prodX n i j := by simp [prodX, hne]
          have f2 : prodX (i : Int) i (j + 1) = prodX (i : Int) i j := by simp [prodX, hne]
          exact Stop.go ⟨_, _, _, _, _, _, _, en, et, em, ew, es, ep, by rw [f1]; exact eo, by rw [f2]; exact el, ⟨by k_mem, by k_mem, trivial⟩⟩
      · clear en et em ew es
        intro mm news hJ h8 tk8 F8 N8
        obtain ⟨t1, t2, t3, t4, t5, t6, t7, en, et, em, ew, es, ep, eo, el, hsb⟩ := Stop.at hJ
        replace N8 : News _ _ h8 [(I2, itR (0 + ((i + 1 : Nat) : Int)) (((fs.length : Nat) : Int) - ((i + 1 : Nat) : Int))), (l, listOf vs.toArray k)] := fun p hp => N8 p (hsb.mem p hp)
        have hb4 := prodX_b4 hn i (by omega) fs.length (by omega)
        have hlow := prodX_low fs.length hl i hi3
        have hSS := sq_bnd hSb
        have hfd := fdiv_bnd hSS hlow
        k_steps
        with_reducible refine Stop.go ?_
        refine CtM.useN (int_divmod_ct w c1 c2 (S * S) (prodX (i : Int) i fs.length) _ _ (by omega) (by omega) hlow.1) (by k_asm) F8 (by k_asm) N8 (by k_asm) k1 k2 (TMg.keeps F8.keep) rfl rfl (by walk_at "my room") (by walk_at "my units") (by walk_at "my sub") ?_
        rintro r9 ext h9 tk9 F9 N9 l9 ⟨D9, t9, t10, k9, rfl, rfl⟩
        simp only [List.cons_append, List.nil_append] at N9
        replace l9 := (l9 _ (.head _)).2
        simp only [AllLt, and_true] at l9
        k_steps
        with_reducible refine Stop.go ?_
        rename Fr _ _ _ _ => F10; rename News _ _ _ _ => N10
        refine UnrEnd.intro3 F10 N10 [(l, listOf vs.toArray k)] (by k_mem) (by k_subL) (by k_offL) ?_
        have f1 : wprod n fs S (i + 1) = wprod n fs S i + fs.getD (0 + (i : Int)).toNat 0 * prodX n i fs.length * ((S * S).fdiv (prodX (i : Int) i fs.length)) := by
          rw [show (0 + (i : Int)).toNat = i by omega]; rfl
        exact Stop.go ⟨_, _, _, _, en, et, em, by rw [f1]; rfl, es, ⟨by k_mem, trivial⟩⟩
      · exact Stop.go ⟨_, _, _, _, _, _, _, en, et, em, ew, es, rfl, rfl, rfl, ⟨by k_mem, by k_mem, trivial⟩⟩
    · clear en et em ew es
      intro mm news hJ h5 tk5 F5 N5
      obtain ⟨t1, t2, t3, t4, en, et, em, ew, es, hsb⟩ := Stop.at hJ
      replace N5 : News _ _ h5 [(l, listOf vs.toArray k)] := fun p hp => N5 p (hsb.mem p hp)
      have hSS := sq_bnd hSb
      have hwb := sqq_bnd hSb hqb hq
      k_steps
      with_reducible refine Stop.go ?_
      refine CtM.useN (int_divmod_eq w c1 c2 (wprod n fs S fs.length) (S * S) q 0 _ _ (by omega) (by omega) (by omega) (by rw [hq]; exact Int.mul_fdiv_cancel_left _ (by omega)) (by rw [hq]; exact Int.mul_fmod_right _ _)) (by k_asm) F5 (by k_asm) N5 (by k_asm) k1 k2 (TMg.keeps F5.keep) rfl rfl (by walk_at "my room") (by walk_at "my units") (by walk_at "my sub") ?_
      rintro r9 ext h9 tk9 F9 N9 l9 ⟨D9, t9, t10, k9, rfl, rfl⟩
      simp only [List.cons_append, List.nil_append] at N9
      k_steps
      rename_i F10 N10 kF kN Tc kX
      exact my_ret (by assumption) N hL9 hret F10 kF kN ⟨rfl, _, rfl⟩ (by walk_at "my subm") (by walk_at "my sub") (by walk_at "my new")
    · exact Stop.go ⟨_, _, _, _, en, et, em, ew, es, ⟨by k_mem, trivial⟩⟩
  · exact Stop.go ⟨_, _, _, _, rfl, rfl, rfl, rfl, rfl, ⟨by k_mem, trivial⟩⟩
end

section
open PyProof.Rows.LCg
section
variable {w : World} {c1 c2 : Addr} {f : Addr} {vs : List Value} {min : Led} {dep : Nat} {Rt : Value → Led → Prop}
    {p : Program} {loose : List Str} {mean : ExcName → Option Value} {mg mb : Str → Option Value}
    {dp un : Nat} {gd : Option (List Code)} {env : Env} {outer : List Env} {A₀ : Around} {base h₀ : Heap} {L : Addr} {m : Str → Option Value} {s : Shared} {Q E : Value → Shared → Prop} {led : Led}
theorem CtM.useK (C : CtM w c1 c2 f vs min dep (fun _ => False) Rt)
    (B : Below A₀ base outer h₀) (F : Fr h₀ L s.heap m) (X : (hd.heap_39 w.params).In h₀) (N : News h₀ L s.heap led) (T : Top p loose mean mg mb h₀) (k1 : CodeHd base 55 51) (k2 : CodeHd base 48 44) (TM : TabMade c1 c2 s.heap) (hf : env.frame = some L) (hk : env.scope.kind = .function)
    (hdp : dp + dep < 1000) (hun : un + 8 * dep < 9000) (hsub : ∀ p ∈ min, p ∈ led)
    (k : ∀ (r : Value) (ext : Led) (h' : Heap) (tk' : Nat), Fr h₀ L h' m → News h₀ L h' (ext ++ led) → (∀ p ∈ ext, @LT.lt Nat _ L p.1 ∧ AllLt p.1 led) → (∀ b o, s.heap.get? b = some o → h'.get? b = some o) → Rt r ext → Q r { s with heap := h', toks := tk' }) :
    wpAny (model PySem.Challenge.rw_hr0001_01.row.prog w) (aroundOf dp un gd env outer) (call (.ref f) vs) Q E s :=
  C p loose mean mg mb dp un gd env outer A₀ base h₀ L m s Q E B F X (fun p hp => N p (hsub p hp)) T k1 k2 TM hf hk hdp hun fun r ext h' tk' F' N' hkp hnew hR =>
    k r ext h' tk' F' (news_call N N' hkp fun _ _ => id) (fun p hp => ⟨Nat.lt_of_lt_of_le F.ns.lt ((hnew p hp).elim False.elim id), allLt_call N ((hnew p hp).elim False.elim id)⟩) (fun b o e => hkp b o e id) hR
theorem Ct.useK (C : Ct w f vs min dep (fun _ => False) Rt)
    (B : Below A₀ base outer h₀) (F : Fr h₀ L s.heap m) (X : (hd.heap_39 w.params).In h₀) (N : News h₀ L s.heap led) (T : Top p loose mean mg mb h₀) (k1 : CodeHd base 55 51) (k2 : CodeHd base 48 44) (hf : env.frame = some L) (hk : env.scope.kind = .function)
    (hdp : dp + dep < 1000) (hun : un + 8 * dep < 9000) (hsub : ∀ p ∈ min, p ∈ led)
    (k : ∀ (r : Value) (ext : Led) (h' : Heap) (tk' : Nat), Fr h₀ L h' m → News h₀ L h' (ext ++ led) → (∀ p ∈ ext, @LT.lt Nat _ L p.1 ∧ AllLt p.1 led) → (∀ b o, s.heap.get? b = some o → h'.get? b = some o) → Rt r ext → Q r { s with heap := h', toks := tk' }) :
    wpAny (model PySem.Challenge.rw_hr0001_01.row.prog w) (aroundOf dp un gd env outer) (call (.ref f) vs) Q E s :=
  C p loose mean mg mb dp un gd env outer A₀ base h₀ L m s Q E B F X (fun p hp => N p (hsub p hp)) T k1 k2 hf hk hdp hun fun r ext h' tk' F' N' hkp hnew hR =>
    k r ext h' tk' F' (news_call N N' hkp fun _ _ => id) (fun p hp => ⟨Nat.lt_of_lt_of_le F.ns.lt ((hnew p hp).elim False.elim id), allLt_call N ((hnew p hp).elim False.elim id)⟩) (fun b o e => hkp b o e id) hR
end
theorem ldX {M : Model} {A : Around} {E : Value → Shared → Prop} {s : Shared} {env : Env} {h₀ : Heap} {L : Addr} {m : Str → Option Value} {x : Str} {pos : Pos} {v : Value} {Q : Value → Shared → Prop} (F : Fr h₀ L s.heap m) (hv : m x = some v) (h : Q v s)
    (hL : env.locals = L) (hk : env.scope.kind = .function) (hl : env.kindOf x = some .local) (hd : (x == ("__debug__" : Str)) = false) :
    wpAny M A (eval (.Name x pos) env) Q E s := wpAny_Name (wpAny_loadName_local hk hl (hL ▸ F.ns) hv h) hd
def wrt (ns : List Int) (x : Int) : Int := ((List.range ns.length).map fun i => ns.getD i 0 * x ^ i).sum
end
local macro_rules | `(tactic| walk_at "subscriptTail Name Slice ref ref") => `(tactic| (k_here; (with_reducible show wpAny _ _ (subscriptTail _ (PySem.Expr.Slice _ _ none _) (Value.ref _) (Value.ref _)) _ _ _); k_dflt (refine kmk_slice_ints (by k_asm) (by k_asm) (by kmk_list) (by kmk_part) (by kmk_part) (by l_ints) (by with_reducible first | exact kmk_from (by l_ints) (by omega) | exact kmk_upto (by l_ints) (by omega)) (by kmk_len) ?_ (by with_unfolding_all rfl) (by kmk_pure) (by kmk_size)); intro D' ws' h' F' N' l1 hI' hC' hL'; (try simp only [Int.toNat_natCast, Int.reduceToNat] at hI' hC' hL'); (try k_lt l1); (try k_sweep)))

section
open PyProof.Rows.LCg
section
variable {prog : Program} {w : World} {A : Around} {E : Value → Shared → Prop} {s : Shared} {env : Env} {h₀ : Heap} {body : List Stmt} {Q : Flow → Shared → Prop}
theorem iter_rangeT {x : Str} {px : Pos} {r : Addr} {a₀ b₀ : Int} {t₀ u₀ v₀ : Tok} {n : Nat} {m₀ : Str → Option Value} {news : Led} (J : Nat → (Str → Option Value) → Led → Prop)
    (hh : A.handled = none) (hr : IsRange s.heap r a₀ b₀ 1 t₀ u₀ v₀) (hsmall : Builtin.Range.small a₀ b₀ 1 = true) (hn : Builtin.Range.rangeSize a₀ b₀ 1 = (n : Int)) (F : Fr h₀ env.locals s.heap m₀) (N : News h₀ env.locals s.heap news)
    (hJ0 : J 0 m₀ news)
    (rest : ∀ I : Addr, (∀ p ∈ news, p.1 < I) → ∀ i m₁ news₁, i < n → J i m₁ news₁ → ∀ t h tk, Fr h₀ env.locals h m₁ → News h₀ env.locals h ((I, itR (a₀ + ((i + 1 : Nat) : Int)) ((n : Int) - ((i + 1 : Nat) : Int))) :: news₁) →
      wpAny (model prog w) A (assign (.Name x px) env (.int (a₀ + (i : Int)) t)) (fun _ s₂ => wpAny (model prog w) A (execs body env) (UnrPost h₀ env.locals { s with heap := h, toks := tk } I (itR (a₀ + ((i + 1 : Nat) : Int)) ((n : Int) - ((i + 1 : Nat) : Int))) (J (i + 1)) Q) E s₂) E { s with heap := h, toks := tk })
    (fin : ∀ m news, J n m news → ∀ h tk, Fr h₀ env.locals h m → News h₀ env.locals h news → Q .next { s with heap := h, toks := tk }) :
    wpAny (model prog w) A (pyIter (.ref r)) (fun it s₂ => TurnsAt prog w A h₀ env (.Name x px) body Q E it s₂) E s := by
  refine wpAny_pyIter_range hr hsmall ?_
  have rest := rest s.heap.objs.size fun p hp => Heap.lt_size (N p hp).1
  have W : Walks prog w A s.heap.objs.size [s.heap.objs.size] [s.heap.objs.size] n (fun i v => i < n ∧ ∃ t, v = .int (a₀ + i * 1) t)
      (fun i h => IsRangeIter h s.heap.objs.size (a₀ + (i : Nat) * 1) ((n : Int) - (i : Nat)) 1) := (Walks.range hh _ a₀ 1 n).bound
  have KW := KTurns.ofWalks (target := .Name x px) W fun i v s Q E _ q => wpAny_pure q
  have hnew := next_is_new F
  refine ⟨_, _, _, n, _, _, _, m₀, news, J, rfl, KW, ?_, ?_, ?_, (by show IsRangeIter _ _ _ _ _; rw [hn]; simpa using Heap.get?_push_size _ rfl), F.push _, (fun p hp => ⟨Heap.get?_push_of_some _ (N p hp).1, (N p hp).2⟩), hJ0, ?_, ?_⟩
  · intro hm
    exact absurd F.ns.lt ((List.mem_singleton.mp hm) ▸ Nat.lt_irrefl _)
  · intro b hb
    rw [List.mem_singleton.mp hb]
    exact hnew
  · intro p hp hI
    exact absurd (Heap.lt_size (N p hp).1) ((List.mem_singleton.mp hI) ▸ Nat.lt_irrefl _)
  · rintro i v m₁ news₁ hh' tk' own hin ⟨_, t, rfl⟩ hJ hoff hown hget hall hst F₁ N₁
    have hst' : hh'.get? s.heap.objs.size = some (itR (a₀ + ((i + 1 : Nat) : Int)) ((n : Int) - ((i + 1 : Nat) : Int))) := by
      have q : IsRangeIter hh' s.heap.objs.size (a₀ + ((i + 1 : Nat) : Int) * 1) ((n : Int) - ((i + 1 : Nat) : Int)) 1 := hst
      rw [Int.mul_one] at q
      exact q
    have hmem := hall s.heap.objs.size (List.mem_singleton.mpr rfl) hnew _ hst'
    have e1 : a₀ + (i : Int) * 1 = a₀ + (i : Int) := by rw [Int.mul_one]
    rw [e1]
    have N₂ : News h₀ env.locals hh' ((s.heap.objs.size, itR (a₀ + ((i + 1 : Nat) : Int)) ((n : Int) - ((i + 1 : Nat) : Int))) :: news₁) := fun p hp => by
      rcases List.mem_cons.mp hp with rfl | hp
      · exact N₁ _ (List.mem_append_left _ hmem)
      · exact N₁ _ (List.mem_append_right _ hp)
    refine wpAny_mono (rest i m₁ news₁ hin hJ t hh' tk' F₁ N₂) (fun _ s₂ h₂ => wpAny_mono h₂ (fun f s₃ p => ?_) fun _ _ e => e) fun _ _ e => e
    have fin : UnrEnd h₀ env.locals { s with heap := hh', toks := tk' } s.heap.objs.size (itR (a₀ + ((i + 1 : Nat) : Int)) ((n : Int) - ((i + 1 : Nat) : Int))) (J (i + 1)) s₃ →
        LoopStepU h₀ env.locals [s.heap.objs.size] own (J (i + 1)) { s with heap := hh', toks := tk' } .next s₃ := by
      rintro ⟨h', tk, m', news', e, F', N', ho, r⟩
      refine ⟨rfl, h', tk, m', news', e, F', fun p hp => ?_, fun p hp hI => ho p hp (List.mem_singleton.mp hI), r⟩
      rcases List.mem_append.mp hp with hp | hp
      · have h1 : p.1 = s.heap.objs.size := List.mem_singleton.mp (hown p hp)
        have h2 : hh'.get? p.1 = some p.2 := hget p hp
        have h3 : p = (s.heap.objs.size, itR (a₀ + ((i + 1 : Nat) : Int)) ((n : Int) - ((i + 1 : Nat) : Int))) := by
          rw [h1, hst'] at h2
          exact Prod.ext h1 (Option.some.inj h2).symm
        rw [h3]; exact N' _ (List.mem_cons_self ..)
      · exact N' _ (List.mem_cons_of_mem _ hp)
    cases f with
    | ret v => exact .ret p
    | brk => exact .brk p
    | next => exact .next (fin p)
    | cont => exact .cont (fin p)
  · rintro h' tk m' news' F' N' _ hJ
    exact fin m' news' hJ h' tk F' N'
end
end

section
open PyProof.Rows.LCg
theorem allLt_at {d : Addr} : ∀ {l : Led}, AllLt d l → ∀ p ∈ l, @LT.lt Nat _ p.1 d
  | [], _, _, h => nomatch h
  | q :: r, x, p, h => by
    have x' : @LT.lt Nat _ q.1 d ∧ AllLt d r := x
    rcases List.mem_cons.mp h with rfl | h
    · exact x'.1
    · exact allLt_at x'.2 p h
theorem byd_use {w : World} {l : Addr} {kk : Nat} {n : Int} {t : Tok} {vs : List Value} {fs : List Int}
    {p : Program} {loose : List Str} {mean : ExcName → Option Value} {mg mb : Str → Option Value}
    {dp un : Nat} {gd : Option (List Code)} {env : Env} {outer : List Env} {A₀ : Around} {base h₀ : Heap} {L : Addr} {m : Str → Option Value} {s : Shared} {Q E : Value → Shared → Prop} {all : Led} (led : Led) (D : Addr)
    (hi : IntsAre vs fs) (hl : fs.length ≤ 4) (hl0 : 0 < fs.length) (hn : -3 ≤ n ∧ n ≤ 6)
    (B : Below A₀ base outer h₀) (F : Fr h₀ L s.heap m) (X : (hd.heap_39 w.params).In h₀) (N : News h₀ L s.heap all) (T : Top p loose mean mg mb h₀) (k1 : CodeHd base 55 51) (k2 : CodeHd base 48 44) (hf : env.frame = some L) (hk : env.scope.kind = .function)
    (hdp : dp + 62 < 1000) (hun : un + 8 * 62 < 9000) (hm : (l, listOf vs.toArray kk) ∈ all) (h51 : @LT.lt Nat _ 51 l) (hsub : ∀ p ∈ led, p ∈ all) (hoff : ∀ p ∈ led, p.1 ≠ 51 ∧ p.1 ≠ 44) (hD : ∃ o, (D, o) ∈ led)
    (hcase : (n = -3 ∧ SubL fresh2 all) ∨ ∃ c1 c2 o1 o2, CodeOf o1 inner1 ∧ CodeOf o2 inner2 ∧ SubL (TabExt c1 c2 o1 o2) all ∧ @LT.lt Nat _ D c1 ∧ @LT.lt Nat _ D c2 ∧ ∀ p ∈ led, p.1 ≠ c1 ∧ p.1 ≠ c2)
    (k : ∀ (t' : Tok) (c1 c2 : Addr) (o1 o2 : Obj) (h' : Heap) (tk' : Nat), Fr h₀ L h' m → News h₀ L h' (TabExt c1 c2 o1 o2 ++ led) → @LT.lt Nat _ D c1 → @LT.lt Nat _ D c2 → CodeOf o1 inner1 → CodeOf o2 inner2 → Q (.int (wsum n 0 fs) t') { s with heap := h', toks := tk' }) :
    wpAny (model PySem.Challenge.rw_hr0001_01.row.prog w) (aroundOf dp un gd env outer) (call (.ref 94) [.ref l, .int n t]) Q E s := by
  obtain ⟨oD, hD⟩ := hD
  have fin : ∀ (mod : Addr → Prop), (∀ c, mod c → c = 51 ∨ c = 44 ∨ @LT.lt Nat _ D c) → ∀ (r : Value) (ext : Led) (h' : Heap) (tk' : Nat), Fr h₀ L h' m → News h₀ L h' (ext ++ led) → (∀ p ∈ ext, mod p.1 ∨ (@LT.lt Nat _ L p.1 ∧ AllLt p.1 led)) →
      ((∃ t, r = .int (wsum n 0 fs) t) ∧ ∃ x1 x2 b1 b2 y1 y2, ext = tab4 x1 x2 b1 b2 y1 y2 ∧ Made x1 x2 b1 b2 y1 y2) → Q r { s with heap := h', toks := tk' } := by
    rintro mod hmod r ext h' tk' F' N' l' ⟨⟨t', rfl⟩, x1, x2, b1, b2, y1, y2, rfl, z1, z2, rfl, rfl⟩
    have big : ∀ c o, (c, o) ∈ tab4 x1 x2 (tabObj #[rawInt 65, rawInt 4, .ref x2]) (tabObj #[rawInt 50, rawInt 4, .ref x1]) y1 y2 → (∀ a b c, o ≠ tabObj #[rawInt a, rawInt b, .ref c]) → @LT.lt Nat _ D c := fun c o hc hne => by
      have g := (N' _ (List.mem_append_left _ hc)).1
      rcases l' _ hc with h | h
      · rcases hmod _ h with h | h | h
        · have g2 := (N' _ (List.mem_append_left _ (show (51, tabObj #[rawInt 65, rawInt 4, .ref x2]) ∈ tab4 x1 x2 _ _ y1 y2 from .head _))).1
          simp only at h g g2
          rw [h, g2] at g
          exact absurd (Option.some.inj g).symm (hne _ _ _)
        · have g2 := (N' _ (List.mem_append_left _ (show (44, tabObj #[rawInt 50, rawInt 4, .ref x1]) ∈ tab4 x1 x2 _ _ y1 y2 from .tail _ (.tail _ (.head _))))).1
          simp only at h g g2
          rw [h, g2] at g
          exact absurd (Option.some.inj g).symm (hne _ _ _)
        · exact h
      · exact allLt_at h.2 _ hD
    exact k t' x1 x2 y1 y2 h' tk' F' N' (big x1 y1 (.tail _ (.tail _ (.tail _ (.head _)))) fun _ _ _ => z1.ne_tab) (big x2 y2 (.tail _ (.head _)) fun _ _ _ => z2.ne_tab) z1 z2
  rcases hcase with ⟨rfl, hfr⟩ | ⟨c1, c2, o1, o2, x1, x2, hT, g1, g2, hne⟩
  · refine Ct.useX (by_diff_ct w l kk (-3) t vs fs hi hl hl0 hn (z1 := l) (z2 := l) (v1 := listOf vs.toArray kk) (v2 := listOf vs.toArray kk) (fun b => b = 51 ∨ b = 44) (.inl rfl) (.inr rfl) h51 (.inl ⟨rfl, rfl, rfl⟩) (fun p hp => ?_)) led B F X N T k1 k2 hf hk hdp hun (fun p hp => ?_) hsub (fun p hp h => h.elim (hoff p hp).1 (hoff p hp).2) (fin (fun b => b = 51 ∨ b = 44) fun c (h : c = 51 ∨ c = 44) => h.imp id .inl)
    · simp only [tab4, List.mem_cons, List.not_mem_nil, or_false] at hp
      rcases hp with rfl | rfl | rfl | rfl
      · exact .inl (.inl rfl)
      · exact .inr rfl
      · exact .inl (.inr rfl)
      · exact .inr rfl
    · simp only [List.mem_cons, List.not_mem_nil, or_false] at hp
      rcases hp with rfl | rfl | rfl | rfl | rfl
      · exact hm
      · exact hfr.mem _ (.head _)
      · exact hm
      · exact hfr.mem _ (.tail _ (.head _))
      · exact hm
  · refine Ct.useX (by_diff_ct w l kk n t vs fs hi hl hl0 hn (z1 := c1) (z2 := c2) (v1 := o1) (v2 := o2) (fun b => b = 51 ∨ b = 44 ∨ b = c1 ∨ b = c2) (.inl rfl) (.inr (.inl rfl)) h51 (.inr ⟨⟨x1, x2, rfl, rfl⟩, .inr (.inr (.inl rfl)), .inr (.inr (.inr rfl))⟩) (fun p hp => ?_)) led B F X N T k1 k2 hf hk hdp hun (fun p hp => ?_) hsub
      (fun p hp h => h.elim (hoff p hp).1 fun h => h.elim (hoff p hp).2 fun h => h.elim (hne p hp).1 (hne p hp).2) (fin (fun b => b = 51 ∨ b = 44 ∨ b = c1 ∨ b = c2) fun c (h : c = 51 ∨ c = 44 ∨ c = c1 ∨ c = c2) => h.imp id fun h => h.imp id fun h => h.elim (fun e => e ▸ g1) fun e => e ▸ g2)
    · simp only [tab4, List.mem_cons, List.not_mem_nil, or_false] at hp
      rcases hp with rfl | rfl | rfl | rfl
      · exact .inl (.inl rfl)
      · exact .inl (.inr (.inr (.inr rfl)))
      · exact .inl (.inr (.inl rfl))
      · exact .inl (.inr (.inr (.inl rfl)))
    · rcases List.mem_cons.mp hp with rfl | hp
      · exact hm
      · exact hT.mem p hp
theorem worth_w (w : World) (l : Addr) (vs : List Value) (ns : List Int) (n : Nat) (x : Int) (t : Tok) (hi : IntsAre vs ns) (hn : ns.length ≤ 4) (hx : -10 ≤ x ∧ x ≤ 10) (hb : ∀ v ∈ ns, -10 ≤ v ∧ v ≤ 10) :
    Ct w 75 [.ref l, .int x t] [(l, listOf vs.toArray n)] 2 (fun _ => False) (fun r ext => ext = [] ∧ ∃ t, r = .int (wrt ns x) t) := worth_ct w l vs ns n x t hi hn hx hb
end

section
open PyProof.Rows.LCg
abbrev cell0 : Obj := { cls := .type "cell", data := .cell none }
def clOf (cell : Bool) (x : Str) (K : Addr) (cl : List (Str × Addr)) : List (Str × Addr) := match cell with | true => (x, K) :: cl | false => cl
def kdOf (cell : Bool) : NameKind := match cell with | true => .cell | false => .local
def Bnd (cell : Bool) (x : Str) (C : Addr) (v : Value) (own : Led) : Prop := match cell with
  | true => ∃ oX oC mC, own = [(C + 1, oX), (C, oC)] ∧ oX.data = .cell (some v) ∧ NsObj oC mC
  | false => ∃ oC mC, own = [(C, oC)] ∧ NsObj oC mC ∧ mC x = some v
def ScOk (cell : Bool) (x : Str) (scope : Scope) (cl : List (Str × Addr)) : Prop := match cell with
  | true => (∀ n, cellsFrom n scope.names cl = (x, n) :: cl) ∧ ∀ h, pushCells h scope.names = h.push cell0
  | false => ∀ y ∈ scope.names, y.2 ≠ .cell
section
variable {prog : Program} {w : World} {A : Around} {E : Value → Shared → Prop} {s : Shared} {h₀ : Heap} {L : Addr} {m : Str → Option Value} {env : Env}
theorem newEnv_cell {M : Model} {scope : Scope} {x : Str} {cl : List (Str × Addr)} {globals : Addr} {qual : Str} {Q : Env → Shared → Prop} (hcf : ∀ n, cellsFrom n scope.names cl = (x, n) :: cl) (hpc : ∀ h, pushCells h scope.names = h.push cell0)
    (hQ : Q { scope := scope, locals := s.heap.objs.size, globals := globals, cells := (x, s.heap.objs.size + 1) :: cl, qual := qual, func := none, code := env.code, frame := env.frame, builtins := env.builtins } { s with heap := (s.heap.push { cls := .type "dict", data := .dict #[] }).push cell0 }) :
    wpAny M A (newFunctionEnv scope globals cl [] qual none .none (some env)) Q E s := by
  simp only [newFunctionEnv, Option.isSome_some, if_true]
  refine wpAny_bind (wpAny_alloc ?_)
  refine wpAny_bind (wpAny_layCells _ (fun name kind cells => by cases hkc : kind == NameKind.cell <;> simp [hkc]) _ _ _ _ ?_)
  rw [hpc, hcf, show ({ s with heap := s.heap.push { cls := .type "dict", data := .dict #[] } } : Shared).heap.objs.size = s.heap.objs.size + 1 from Heap.size_push ..]
  rw [List.forIn_nil]
  exact wpAny_bind (wpAny_pure (wpAny_pure hQ))
def FrC (cell : Bool) (C : Addr) (h : Heap) : Prop := (∃ m', h.Ns C m') ∧ (cell = true → ∃ v, h.IsCell (C + 1) v)
theorem newEnv_bnd {cell : Bool} {scope : Scope} {x : Str} {cl : List (Str × Addr)} {Q : Env → Shared → Prop} (hsc : ScOk cell x scope cl) (hkind : scope.kind = .function)
    (hQ : ∀ h' tk', FrC cell s.heap.objs.size h' → (∀ b o, s.heap.get? b = some o → h'.get? b = some o) → ∀ e : Env, { e with scope := relabel scope env } = compEnvC scope (clOf cell x (s.heap.objs.size + 1) cl) s.heap.objs.size env → e.locals = s.heap.objs.size → Q e { s with heap := h', toks := tk' }) :
    wpAny (model prog w) A (newFunctionEnv scope env.globals cl [] env.qual none .none (some env)) Q E s := by
  cases cell with
  | true =>
    refine newEnv_cell hsc.1 hsc.2 (hQ _ s.toks ⟨⟨_, (Heap.Ns.new s.heap (.type "dict")).keeps fun b o e => Heap.get?_push_of_some _ e⟩, fun _ => ⟨none, ⟨cell0, (Heap.size_push s.heap { cls := .type "dict", data := .dict #[] }) ▸ Heap.get?_push_size _ rfl, rfl⟩⟩⟩ (fun b o e => Heap.get?_push_of_some _ (Heap.get?_push_of_some _ e)) _ rfl rfl)
  | false =>
    refine wpAny_newFunctionEnv hsc (by intro y hy; simp at hy) (fun h₁ hns₁ hsb₁ => ?_) hkind
    refine hQ h₁ _ ⟨⟨_, hns₁⟩, fun h => nomatch h⟩ (fun b o e => hsb₁.extBut b o (Nat.ne_of_lt (Heap.lt_size e)) (Heap.get?_push_of_some _ e)) _ rfl rfl
theorem assign_bnd {cell : Bool} {scope : Scope} {x : Str} {px : Pos} {cl : List (Str × Addr)} {C : Addr} {v : Value} {Q : Unit → Shared → Prop} (hkind : scope.kind = .function) (hkx : (relabel scope env).names.lookup x = some (kdOf cell)) (hf : FrC cell C s.heap)
    (hQ : ∀ h' tk' own, Bnd cell x C v own → (∀ p ∈ own, h'.get? p.1 = some p.2) → (∀ p ∈ own, p.1 = C ∨ p.1 = C + 1 ∧ cell = true) → (∀ b o, b ≠ C → (cell = true → b ≠ C + 1) → s.heap.get? b = some o → h'.get? b = some o) →
      (∀ g : Heap, (∀ p ∈ own, g.get? p.1 = some p.2) → FrC cell C g) → Q () { s with heap := h', toks := tk' }) :
    wpAny (model prog w) A (assign (.Name x px) (compEnvC scope (clOf cell x (C + 1) cl) C env) v) Q E s := by
  obtain ⟨⟨m', hn⟩, hc⟩ := hf
  cases cell with
  | true =>
    obtain ⟨v₀, hv₀⟩ := hc rfl
    have hfun : (compEnvC scope (clOf true x (C + 1) cl) C env).scope.kind = .function := by simp [compEnvC, relabel, hkind]
    have hlk : List.lookup x ((x, C + 1) :: cl) = some (C + 1) := by simp
    refine wpAny_assign_Name (wpAny_storeName_cell (c := C + 1) hfun hkx hlk hv₀ fun h' hv' hs' => ?_)
    obtain ⟨oX, eX, dX⟩ := hv'
    have hn' := hn.sameBut hs' (Ne.symm (Nat.succ_ne_self C))
    obtain ⟨oC, eC, nC⟩ := ns_obj hn'
    refine hQ h' _ [(C + 1, oX), (C, oC)] ⟨oX, oC, m', rfl, dX, nC⟩ (List.forall_mem_cons.mpr ⟨eX, List.forall_mem_cons.mpr ⟨eC, List.forall_mem_nil _⟩⟩) (List.forall_mem_cons.mpr ⟨.inr ⟨rfl, rfl⟩, List.forall_mem_cons.mpr ⟨.inl rfl, List.forall_mem_nil _⟩⟩) (fun b o _ hb e => hs'.extBut b o (hb rfl) e) fun g hg => ?_
    exact ⟨⟨m', nC.ns (hg (C, oC) (.tail _ (.head _)))⟩, fun _ => ⟨some v, oX, hg (C + 1, oX) (.head _), dX⟩⟩
  | false =>
    refine wpAny_assign_Name (wpAny_storeName_local hkx hn (fun h₃ hn₃ hs₃ => ?_) (by simp [compEnvC, relabel, hkind]))
    obtain ⟨oC, eC, nC⟩ := ns_obj hn₃
    refine hQ h₃ _ [(C, oC)] ⟨oC, _, rfl, nC, by simp⟩ (List.forall_mem_cons.mpr ⟨eC, List.forall_mem_nil _⟩) (List.forall_mem_cons.mpr ⟨.inl rfl, List.forall_mem_nil _⟩) (fun b o hb _ e => hs₃.extBut b o hb e) fun g hg => ?_
    exact ⟨⟨_, nC.ns (hg (C, oC) (.head _))⟩, fun h => nomatch h⟩
end
end

section
open PyProof.Rows.LCg
def kOf (cell : Bool) (D : Nat) : Nat := match cell with | true => D + 2 | false => D + 1
section
variable {prog : Program} {w : World} {A : Around} {E : Value → Shared → Prop} {s : Shared} {h₀ : Heap} {L : Addr} {m : Str → Option Value} {env : Env}
def ElL (J : Nat → List Value → Led → Prop) (h₀ : Heap) (L : Addr) (m : Str → Option Value) (own news : Led) (i : Nat) (ys : List Value) (K : Nat) (s₁ : Shared) (v : Value) (s' : Shared) : Prop :=
  ∃ h' tk all news', s' = { s₁ with heap := h', toks := tk } ∧ Fr h₀ L h' m ∧ News h₀ L h' all ∧ (∀ p ∈ own, p ∈ all) ∧ (∀ p ∈ news', p ∈ all) ∧ (∀ p ∈ news', p ∈ news ∨ @LT.lt Nat _ K p.1) ∧ J (i + 1) (ys ++ [v]) news'
def EltL (cell : Bool) (prog : Program) (w : World) (A : Around) (h₀ : Heap) (L : Addr) (m : Str → Option Value) (env : Env) (elt : Expr) (x : Str) (scope : Scope) (cl : List (Str × Addr)) (J : Nat → List Value → Led → Prop) (P' : Nat → Value → Prop) (n : Nat) (news₀ : Led) (s₁ : Shared) : Prop :=
  ∀ i v ys news (D : Addr) own I oI h tk (E' : Value → Shared → Prop), i < n → P' i v → J i ys news → ys.length = i → Bnd cell x (D + 1) v own → @LT.lt Nat _ L D → (∀ p ∈ news₀, @LT.lt Nat _ p.1 D) → Fr h₀ L h m → News h₀ L h (own ++ (D, lst ys) :: (I, oI) :: news) →
    wpAny (model prog w) A (eval elt (compEnvC scope (clOf cell x (D + 1 + 1) cl) (D + 1) env)) (ElL J h₀ L m (own ++ [(D, lst ys), (I, oI)]) news i ys (kOf cell D) { s₁ with heap := h, toks := tk }) E' { s₁ with heap := h, toks := tk }
def FinL (h₀ : Heap) (L : Addr) (m : Str → Option Value) (s₁ : Shared) (Q : Value → Shared → Prop) (J : Nat → List Value → Led → Prop) (n : Nat) (news₀ : Led) : Prop :=
  ∀ (D : Addr) h tk ys news, J n ys news → ys.length = n → Fr h₀ L h m → News h₀ L h ((D, listOf ys.toArray ys.length) :: news) → (∀ p ∈ news₀, @LT.lt Nat _ p.1 D) → @LT.lt Nat _ L D → (∀ p ∈ news, p ∈ news₀ ∨ @LT.lt Nat _ D p.1) → Q (.ref D) { s₁ with heap := h, toks := tk }
theorem comp_blockL {cell : Bool} {elt iter : Expr} {x : Str} {px : Pos} {scope : Scope} {cl : List (Str × Addr)} {pos : Pos} {s₁ s₂ : Shared} {I : Addr} {fp wr : List Addr} {n : Nat} {P Md : Nat → Value → Heap → Prop} {St : Nat → Heap → Prop} {news₀ : Led} {Q : Value → Shared → Prop}
    (J : Nat → List Value → Led → Prop) (src : Led) (P' : Nat → Value → Prop)
    (W : KTurns prog w A (.Name x px) I fp wr n P Md St) (hP' : ∀ i v h, i < n → P i v h → P' i v) (hsz : n ≤ sizeLine)
    (hself : ∀ i (s : Shared) (Q : Value → Shared → Prop) (E : Value → Shared → Prop), St i s.heap → Q (.ref I) s → wpAny (model prog w) A (pyIter (.ref I)) Q E s)
    (hI : ∀ i h, St i h → ∃ o, h.get? I = some o) (hfpI : ∀ b ∈ fp, b = I ∨ ∃ o, (b, o) ∈ src) (hwrI : ∀ b ∈ wr, b = I) (hIlo : @LE.le Nat _ s₁.heap.objs.size I) (hIhi : @LT.lt Nat _ I s₂.heap.objs.size)
    (hkind : scope.kind = .function) (hsc : ScOk cell x scope cl) (hkx : (relabel scope env).names.lookup x = some (kdOf cell)) (hst : St 0 s₂.heap)
    (h12 : s₂ = { s₁ with heap := s₂.heap, toks := s₂.toks }) (hk12 : ∀ b o, s₁.heap.get? b = some o → s₂.heap.get? b = some o)
    (F : Fr h₀ L s₁.heap m) (N : News h₀ L s₁.heap news₀) (hJ0 : J 0 [] news₀) (hJsrc : ∀ i ys news, J i ys news → ∀ p ∈ src, p ∈ news)
    (helt : EltL cell prog w A h₀ L m env elt x scope cl J P' n news₀ s₁) (fin : FinL h₀ L m s₁ Q J n news₀) :
    wpAny (model prog w) A (newList []) (fun acc s₃ => wpAny (model prog w) A (newFunctionEnv scope env.globals cl [] env.qual none .none (some env)) (fun cenv s₄ =>
      codeAny (model prog w) A (.compStart (.ListComp elt [⟨.Name x px, iter, [], 0⟩] scope pos) 0 (.ref I) acc { cenv with scope := relabel scope env }) (compPost (model prog w) A E none Q acc cenv.locals) s₄) E s₃) E s₂ := by
  have hLlt : @LT.lt Nat _ L s₁.heap.objs.size := F.ns.lt
  have fresh₀ : ∀ a, @LE.le Nat _ s₁.heap.objs.size a → h₀.get? a = none := fun a ha => by
    cases e : h₀.get? a with
    | none => rfl
    | some o' => exact absurd (Heap.lt_size (F.keep a o' e)) (Nat.not_lt.mpr ha)
  have low₀ : ∀ a o, h₀.get? a = some o → @LT.lt Nat _ a s₁.heap.objs.size := fun a o e => Heap.lt_size (F.keep a o e)
  have n0lo : ∀ p ∈ news₀, @LT.lt Nat _ p.1 s₁.heap.objs.size := fun p hp => Heap.lt_size (N p hp).1
  have hsz12 : @LE.le Nat _ s₁.heap.objs.size s₂.heap.objs.size := Nat.le_trans hIlo (Nat.le_of_lt hIhi)
  have hkeep12 := hk12
  generalize hD : s₂.heap.objs.size = D at *
  generalize hlo : s₁.heap.objs.size = lo at *
  -- what changes lies in [lo, D + 2]
  obtain ⟨K, hK⟩ : ∃ K : Nat, K = kOf cell D := ⟨_, rfl⟩
  have hKD : D + 1 ≤ K := by cases cell <;> simp [hK, kOf]
  have hKc : cell = true → K = D + 2 := fun h => by rw [h] at hK; exact hK
  let ch : Heap → Heap → Prop := fun h h' => ∀ b o, ¬ (@LE.le Nat _ lo b ∧ @LE.le Nat _ b K) → h.get? b = some o → h'.get? b = some o
  have chT : ∀ {a b c : Heap}, ch a b → ch b c → ch a c := fun h1 h2 b o hb e => h2 b o hb (h1 b o hb e)
  have frC : ∀ {h h' : Heap}, ch h h' → Fr h₀ L h m → Fr h₀ L h' m := fun hc F => ⟨F.ns.at' fun o e => hc _ o (by omega) e, fun b o e => hc b o (by have := low₀ b o e; omega) (F.keep b o e), F.above⟩
  have offK : ∀ {l : Led}, (∀ p ∈ l, p ∈ news₀ ∨ @LT.lt Nat _ K p.1) → ∀ p ∈ l, ¬ (@LE.le Nat _ lo p.1 ∧ @LE.le Nat _ p.1 K) := fun hl p hp => by
    rcases hl p hp with h | h
    · have := n0lo p h; omega
    · omega
  have nwC : ∀ {h h' : Heap} {l : Led}, ch h h' → (∀ p ∈ l, p ∈ news₀ ∨ @LT.lt Nat _ K p.1) → News h₀ L h l → News h₀ L h' l := fun hc hl N p hp => ⟨hc _ _ (offK hl p hp) (N p hp).1, (N p hp).2⟩
  have wrC : ∀ {h h' : Heap}, (∀ b o, b ∉ wr → h.get? b = some o → h'.get? b = some o) → ch h h' := fun hk b o hb e => hk b o (fun hm => hb (by
    have hbI := hwrI b hm
    subst hbI
    exact ⟨hIlo, by omega⟩)) e
  refine wpAny_newObj_type ?_
  generalize hH2 : s₂.heap.push { cls := .type "list", dict := none, data := .seq ([] : List Value).toArray } = H2
  have hC : H2.objs.size = D + 1 := by rw [← hH2, Heap.size_push, hD]
  rw [hD]
  refine newEnv_bnd (cell := cell) (x := x) hsc hkind fun h₁ tk₁ hf₁ hk₁ e he hel => ?_
  dsimp only at hf₁ hk₁ he hel ⊢
  rw [hC] at hf₁ he hel
  rw [he, hel]
  have hk2 : ∀ b o, s₂.heap.get? b = some o → h₁.get? b = some o := fun b o e => hk₁ b o (hH2 ▸ Heap.get?_push_of_some _ e)
  have hacc : h₁.get? D = some (lst []) := hk₁ _ _ (by rw [← hH2, ← hD]; exact Heap.get?_push_size _ rfl)
  have hst₁ : St 0 h₁ := W.frame _ _ _ hst fun b _ o e => hk2 b o e
  have F₁ : Fr h₀ L h₁ m := F.keeps fun b o e => hk2 b o (hk12 b o e)
  have N₁ : News h₀ L h₁ news₀ := N.grown fun b o e => hk2 b o (hk12 b o e)
  have loop : ∀ s₃ : Shared, s₃ = { s₂ with heap := h₁, toks := tk₁ } →
      codeAny (model prog w) A (.compLoop (.ListComp elt [⟨.Name x px, iter, [], 0⟩] scope pos) 0 (.ref I) (.ref D) (compEnvC scope (clOf cell x (D + 1 + 1) cl) (D + 1) env))
        (compPost (model prog w) A E none Q (.ref D) (D + 1)) s₃ := by
    rintro s₃ rfl
    refine kcp_loop
      (fun k s' => ∃ h' tk i ys news, s' = { s₁ with heap := h', toks := tk } ∧ i ≤ n ∧ k = n + 1 - i ∧ ys.length = i ∧ J i ys news ∧ (∀ p ∈ news, p ∈ news₀ ∨ @LT.lt Nat _ K p.1) ∧ News h₀ L h' news ∧ Fr h₀ L h' m ∧ St i h' ∧ FrC cell (D + 1) h' ∧ h'.get? D = some (lst ys)) ?_ (n + 1)
      ⟨h₁, tk₁, 0, [], news₀, by rw [h12], Nat.zero_le _, rfl, rfl, hJ0, fun p hp => .inl hp, N₁, F₁, hst₁, hf₁, hacc⟩
    rintro k s' ⟨h', tk, i, ys, news, rfl, hi, rfl, hlen, hJ, hoff, N', F', hst', hf', hD'⟩
    have wrD : ∀ {h h' : Heap}, (∀ b o, b ∉ wr → h.get? b = some o → h'.get? b = some o) → ∀ b o, @LE.le Nat _ D b → h.get? b = some o → h'.get? b = some o := fun hk b o hb e => hk b o (fun hm => by
      have hbI := hwrI b hm
      subst hbI
      omega) e
    have frW : ∀ {h h' : Heap}, (∀ b o, b ∉ wr → h.get? b = some o → h'.get? b = some o) → FrC cell (D + 1) h → FrC cell (D + 1) h' := fun hk hf =>
      ⟨hf.1.imp fun m' hn => hn.at' fun o e => wrD hk _ o (Nat.le_succ D) e, fun hc => (hf.2 hc).imp fun v hv => by
        obtain ⟨o, e, d⟩ := hv
        exact ⟨o, wrD hk _ o (by show @LE.le Nat _ D (D + 1 + 1); omega) e, d⟩⟩
    by_cases hlt : i < n
    · refine W.item i _ _ _ hlt hst' fun v h₂ tk₂ hMd hk₂ => ?_
      refine W.go i v _ _ _ hMd fun h₃ hP hst₃ hk₃ => ?_
      have c3 : ch h' h₃ := chT (wrC hk₂) (wrC hk₃)
      have D₃ : h₃.get? D = some (lst ys) := wrD hk₃ _ _ (Nat.le_refl _) (wrD hk₂ _ _ (Nat.le_refl _) hD')
      have f₃ := frW hk₃ (frW hk₂ hf')
      obtain ⟨oI, eI₃⟩ := hI _ _ hst₃
      refine assign_bnd (cell := cell) hkind hkx f₃ fun h₄ tk₄ own hB hown hadr hk₄ hback => ?_
      have k4 : ∀ b o, @LE.le Nat _ b D → h₃.get? b = some o → h₄.get? b = some o := fun b o hb e => hk₄ b o (by intro q; rw [q] at hb; omega) (by intro _ q; rw [q] at hb; omega) e
      have c4 : ch h₃ h₄ := fun b o hb e => hk₄ b o (by intro q; rw [q] at hb; exact hb ⟨by omega, hKD⟩) (by intro hc q; rw [q, hKc hc] at hb; exact hb ⟨by show @LE.le Nat _ lo (D + 1 + 1); omega, by show @LE.le Nat _ (D + 1 + 1) (D + 2); omega⟩) e
      have D₄ := k4 _ _ (Nat.le_refl _) D₃
      have eI₄ := k4 I oI (Nat.le_of_lt hIhi) eI₃
      have F₄ := frC c4 (frC c3 F')
      have N₄ := nwC c4 hoff (nwC c3 hoff N')
      have hsrc : ∀ p ∈ src, p ∈ news := hJsrc _ _ _ hJ
      have hst₄ : St (i + 1) h₄ := W.frame _ _ _ hst₃ fun b hb o e => by
        rcases hfpI b hb with rfl | ⟨o', ho'⟩
        · exact k4 _ o (Nat.le_of_lt hIhi) e
        · exact c4 _ _ (offK hoff _ (hsrc _ ho')) e
      have newAt : ∀ {b : Addr} {o : Obj} {h : Heap}, @LE.le Nat _ lo b → h.get? b = some o → h.get? b = some o ∧ b ≠ L ∧ h₀.get? b = none := fun hb e => ⟨e, Nat.ne_of_gt (Nat.lt_of_lt_of_le hLlt hb), fresh₀ _ hb⟩
      refine wpAny_mono (helt i v ys news D own I oI h₄ tk₄ _ hlt (hP' i v _ hlt hP) hJ hlen hB (by omega) (fun p hp => by have := n0lo p hp; omega) F₄ (fun p hp => ?_)) (fun x s₅ h₅ => ?_) fun _ _ e => e
      · rcases List.mem_append.mp hp with hp | hp
        · refine newAt ?_ (hown p hp)
          rcases hadr p hp with e | e
          · rw [e]; omega
          · rw [e.1]; show @LE.le Nat _ lo (D + 1 + 1); omega
        · rcases List.mem_cons.mp hp with rfl | hp
          · exact newAt (by omega) D₄
          · rcases List.mem_cons.mp hp with rfl | hp
            · exact newAt hIlo eI₄
            · exact N₄ p hp
      · obtain ⟨h₅, tk₅, all, news', rfl, F₅, N₅, hown', hnew', hoff', hJ'⟩ := h₅
        have ownAt : ∀ p ∈ own ++ [(D, lst ys), (I, oI)], h₅.get? p.1 = some p.2 := fun p hp => (N₅ p (hown' p hp)).1
        have D₅ : h₅.get? D = some (lst ys) := ownAt (D, lst ys) (List.mem_append_right _ (.head _))
        have I₅ : h₅.get? I = some oI := ownAt (I, oI) (List.mem_append_right _ (.tail _ (.head _)))
        have f₅ := hback h₅ fun p hp => ownAt p (List.mem_append_left _ hp)
        have hoff₅ : ∀ p ∈ news', p ∈ news₀ ∨ @LT.lt Nat _ K p.1 := fun p hp => by
          rcases hoff' p hp with h | h
          · exact hoff p h
          · exact .inr (hK ▸ h)
        have hst₅ : St (i + 1) h₅ := W.frame _ _ _ hst₄ fun b hb o e => by
          rcases hfpI b hb with rfl | ⟨o', ho'⟩
          · rw [eI₄] at e; cases e; exact I₅
          · have e1 := (N₄ _ (hsrc _ ho')).1
            simp only at e1
            rw [e1] at e; cases e
            exact (N₅ _ (hnew' _ (hJsrc _ _ _ hJ' _ ho'))).1
        refine append_at (hsz := by show ys.toArray.size ≤ sizeLine; rw [List.size_toArray, hlen]; exact Nat.le_trans hi hsz) D₅ fun h₆ hs₆ hD₆ => ?_
        have c6 : ch h₅ h₆ := fun b o hb e => hs₆.extBut b o (fun q => hb (by rw [q]; exact ⟨by omega, by omega⟩)) e
        refine ⟨n + 1 - (i + 1), by omega, h₆, tk₅, i + 1, ys ++ [x], news', rfl, hlt, rfl, by rw [List.length_append, hlen]; rfl, hJ', hoff₅, nwC c6 hoff₅ fun p hp => N₅ p (hnew' p hp), frC c6 F₅, ?_, ?_, hD₆.trans (congrArg some (lst_snoc ys _))⟩
        · refine W.frame _ _ _ hst₅ fun b hb o e => hs₆.extBut b o (fun q => ?_) e
          rcases hfpI b hb with rfl | ⟨o', ho'⟩
          · exact Nat.ne_of_lt hIhi q
          · have := offK hoff _ (hsrc _ ho')
            rw [q] at this
            exact this ⟨by omega, by omega⟩
        · exact ⟨f₅.1.imp fun m' hn => hn.sameBut hs₆ (Nat.succ_ne_self D), fun hc => (f₅.2 hc).imp fun v hv => hv.sameBut hs₆ (Nat.ne_of_gt (by show @LT.lt Nat _ D (D + 1 + 1); omega))⟩
    · obtain rfl : i = n := Nat.le_antisymm hi (Nat.not_lt.mp hlt)
      refine W.done _ _ _ hst' fun h₂ tk₂ hk₂ => ?_
      have D₂ : h₂.get? D = some (lst ys) := wrD hk₂ _ _ (Nat.le_refl _) hD'
      obtain ⟨m', hn₂⟩ := (frW hk₂ hf').1
      refine ⟨m', hn₂, fun h'' hs'' => ?_⟩
      have c'' : ch h₂ h'' := fun b o hb e => hs''.extBut b o (fun q => hb (by rw [q]; exact ⟨by omega, hKD⟩)) e
      have cc := chT (wrC hk₂) c''
      refine fin D h'' tk₂ ys news hJ hlen (frC cc F') (fun p hp => ?_) (fun p hp => by have := n0lo p hp; omega) (by omega) (fun p hp => (hoff p hp).imp id fun h => by omega)
      rcases List.mem_cons.mp hp with rfl | hp
      · exact ⟨hs''.extBut _ _ (Nat.ne_of_lt (Nat.lt_succ_self D)) D₂, Nat.ne_of_gt (by omega), fresh₀ _ (by omega)⟩
      · exact nwC cc hoff N' p hp
  exact codeAny_compStart_list (loop _ rfl) (hself 0 _ _ _ hst₁ (loop _ rfl))
end
end

section
open PyProof.Rows.LCg
section
variable {prog : Program} {w : World} {A : Around} {E : Value → Shared → Prop} {s : Shared} {h₀ : Heap} {L : Addr} {m : Str → Option Value} {env : Env}
def SrcL (cell : Bool) (prog : Program) (w : World) (A : Around) (h₀ : Heap) (L : Addr) (m : Str → Option Value) (env : Env) (elt : Expr) (x : Str) (scope : Scope) (cl : List (Str × Addr)) (Q : Value → Shared → Prop) (xv : Value) (s₁ : Shared) : Prop :=
  ∃ (J : Nat → List Value → Led → Prop) (src : Led) (P' : Nat → Value → Prop) (n : Nat) (news : Led), A.handled = none ∧ Fr h₀ L s₁.heap m ∧ News h₀ L s₁.heap news ∧ n ≤ sizeLine ∧
    ((∃ ax vs ko, xv = .ref ax ∧ (ax, listOf (List.toArray vs) ko) ∈ news ∧ src = [(ax, listOf (List.toArray vs) ko)] ∧ vs.length = n ∧ ∀ i v, vs[i]? = some v → P' i v) ∨
      (∃ r a b t u v, xv = .ref r ∧ IsRange s₁.heap r a b 1 t u v ∧ Builtin.Range.small a b 1 = true ∧ Builtin.Range.rangeSize a b 1 = ((n : Nat) : Int) ∧ src = [] ∧ ∀ (i : Nat) t, i < n → P' i (.int (a + (i : Int)) t))) ∧
    J 0 [] news ∧ (∀ i ys nw, J i ys nw → ∀ p ∈ src, p ∈ nw) ∧ EltL cell prog w A h₀ L m env elt x scope cl J P' n news s₁ ∧ FinL h₀ L m s₁ Q J n news
theorem SrcL.list {cell : Bool} {elt : Expr} {x : Str} {scope : Scope} {cl : List (Str × Addr)} {Q : Value → Shared → Prop} {s₁ : Shared} {ax : Addr} {vs : List Value} {ko : Nat} {news : Led} (J : Nat → List Value → Led → Prop) (P' : Nat → Value → Prop)
    (hh : A.handled = none) (F : Fr h₀ L s₁.heap m) (N : News h₀ L s₁.heap news) (hm : (ax, listOf (List.toArray vs) ko) ∈ news) (hsz : vs.length ≤ sizeLine) (hP : ∀ i v, vs[i]? = some v → P' i v) (hJ0 : J 0 [] news)
    (hJs : ∀ i ys nw, J i ys nw → (ax, listOf (List.toArray vs) ko) ∈ nw) (helt : EltL cell prog w A h₀ L m env elt x scope cl J P' vs.length news s₁) (fin : FinL h₀ L m s₁ Q J vs.length news) : SrcL cell prog w A h₀ L m env elt x scope cl Q (.ref ax) s₁ :=
  ⟨J, _, P', _, news, hh, F, N, hsz, .inl ⟨ax, vs, ko, rfl, hm, rfl, rfl, hP⟩, hJ0, fun i ys nw h p hp => by rw [List.mem_singleton.mp hp]; exact hJs i ys nw h, helt, fin⟩
theorem SrcL.range {cell : Bool} {elt : Expr} {x : Str} {scope : Scope} {cl : List (Str × Addr)} {Q : Value → Shared → Prop} {s₁ : Shared} {r : Addr} {a b : Int} {t u v : Tok} {n : Nat} {news : Led} (J : Nat → List Value → Led → Prop) (P' : Nat → Value → Prop)
    (hh : A.handled = none) (F : Fr h₀ L s₁.heap m) (N : News h₀ L s₁.heap news) (hr : IsRange s₁.heap r a b 1 t u v) (hsm : Builtin.Range.small a b 1 = true) (hn : Builtin.Range.rangeSize a b 1 = ((n : Nat) : Int)) (hsz : n ≤ sizeLine)
    (hP : ∀ (i : Nat) t, i < n → P' i (.int (a + (i : Int)) t)) (hJ0 : J 0 [] news) (helt : EltL cell prog w A h₀ L m env elt x scope cl J P' n news s₁) (fin : FinL h₀ L m s₁ Q J n news) : SrcL cell prog w A h₀ L m env elt x scope cl Q (.ref r) s₁ :=
  ⟨J, [], P', n, news, hh, F, N, hsz, .inr ⟨r, a, b, t, u, v, rfl, hr, hsm, hn, rfl, hP⟩, hJ0, (fun _ _ _ _ _ hp => absurd hp List.not_mem_nil), helt, fin⟩
theorem ListComp_L {cell : Bool} {elt iter : Expr} {x : Str} {px : Pos} {scope : Scope} {cl : List (Str × Addr)} {pos : Pos} {Q : Value → Shared → Prop} (_F₀ : Fr h₀ L s.heap m)
    (hclos : closureFor scope env = pure cl) (hsc : ScOk cell x scope cl) (hkind : scope.kind = .function)
    (hnames : ∀ y ∈ scope.names, y.2 = .local → scope.names.lookup y.1 = some .local) (hkx : (relabel scope env).names.lookup x = some (kdOf cell))
    (h : wpAny (model prog w) A (eval iter env) (SrcL cell prog w A h₀ L m env elt x scope cl Q) E s)
    (hs : ∀ x, foldedSetIterable iter env x = pure x := by intro _; rfl) :
    wpAny (model prog w) A (eval (.ListComp elt [⟨.Name x px, iter, [], 0⟩] scope pos) env) Q E s := by
  rw [eval_ListComp]
  refine wpAny_comprehension_free (use := none) rfl hs hclos hkind hnames (wpAny_mono h (fun xv s₁ h₁ => ?_) fun _ _ e => e)
  obtain ⟨J, src, P', n, news, hh, F, N, hsz, hsrc, hJ0, hJs, helt, fin⟩ := h₁
  rcases hsrc with ⟨ax, vs, ko, rfl, hm, rfl, hvl, hP⟩ | ⟨r, a, b, t, u, v, rfl, hr, hsm, hn, rfl, hP⟩
  · have hl : s₁.heap.IsList ax vs.toArray := News.isList N hm
    have hlt : ax < s₁.heap.objs.size := Heap.lt_size (N _ hm).1
    have KW := KTurns.ofWalks (target := .Name x px) (Walks.list (prog := prog) (w := w) hh s₁.heap.objs.size ax (Nat.ne_of_lt hlt) vs.toArray) fun i v s Q E _ q => wpAny_pure q
    have esz : vs.toArray.size = n := by rw [List.size_toArray, hvl]
    rw [esz] at KW
    refine wpAny_pyIter_list hl ?_
    refine comp_blockL (cell := cell) (s₁ := s₁) J _ P' KW (fun i v h hi hp => hP i v (by simpa using hp)) hsz
      (fun i s Q E st q => (Walks.list (prog := prog) (w := w) hh s₁.heap.objs.size ax (Nat.ne_of_lt hlt) vs.toArray).self i s Q E st q)
      (fun i h st => by obtain ⟨o, e, _⟩ := st.1; exact ⟨o, e⟩) (fun b hb => ?_) (fun b hb => List.mem_singleton.mp hb) (Nat.le_refl _) (by show _ < (s₁.heap.push _).objs.size; rw [Heap.size_push]; exact Nat.lt_succ_self _)
      hkind hsc hkx ⟨⟨_, Heap.get?_push_size _ rfl, rfl, rfl⟩, hl.push _⟩ rfl (fun b o e => Heap.get?_push_of_some _ e) F N hJ0 hJs helt fin
    rcases List.mem_cons.mp hb with rfl | hb
    · exact .inl rfl
    · rw [List.mem_singleton.mp hb]; exact .inr ⟨_, .head _⟩
  · refine wpAny_pyIter_range hr hsm ?_
    refine comp_blockL (cell := cell) (s₁ := s₁) J _ P' (KTurns.ofWalks (target := .Name x px) (range_walks hh a n).bound fun i v s Q E _ q => wpAny_pure q) (fun i v h hi hp => by obtain ⟨_, t, rfl⟩ := hp; exact hP i t hi) hsz
      (fun i s Q E st q => (range_walks (prog := prog) (w := w) hh a n).self i s Q E st q)
      (fun i h st => ⟨_, st⟩) (fun b hb => .inl (List.mem_singleton.mp hb)) (fun b hb => List.mem_singleton.mp hb) (Nat.le_refl _) (by show _ < (s₁.heap.push _).objs.size; rw [Heap.size_push]; exact Nat.lt_succ_self _)
      hkind hsc hkx (by show IsRangeIter _ _ _ _ _; rw [hn]; simpa using Heap.get?_push_size _ rfl) rfl (fun b o e => Heap.get?_push_of_some _ e) F N hJ0 hJs helt fin
end
end

section
open PyProof.Rows.LCg
open PySem.SeqAt
inductive RowsIn (led : Led) : List Value → List (List Int) → Prop
  | nil : RowsIn led [] []
  | cons {a : Addr} {ws : List Value} {k : Nat} {r : List Int} {vs : List Value} {rs : List (List Int)} : (a, listOf ws.toArray k) ∈ led → IntsAre ws r → RowsIn led vs rs → RowsIn led (.ref a :: vs) (r :: rs)
theorem RowsIn.length {led : Led} {vs : List Value} {rs : List (List Int)} (h : RowsIn led vs rs) : vs.length = rs.length := by
  induction h with
  | nil => rfl
  | cons _ _ _ ih => simp [ih]
theorem RowsIn.mono {led led' : Led} {vs : List Value} {rs : List (List Int)} (h : RowsIn led vs rs) (hs : ∀ p ∈ led, p ∈ led') : RowsIn led' vs rs := by
  induction h with
  | nil => exact .nil
  | cons hm hi _ ih => exact .cons (hs _ hm) hi ih
theorem RowsIn.snoc {led : Led} {vs : List Value} {rs : List (List Int)} {a : Addr} {ws : List Value} {k : Nat} {r : List Int} (h : RowsIn led vs rs) (hm : (a, listOf ws.toArray k) ∈ led) (hi : IntsAre ws r) : RowsIn led (vs ++ [.ref a]) (rs ++ [r]) := by
  induction h with
  | nil => exact .cons hm hi .nil
  | cons hm' hi' _ ih => exact .cons hm' hi' ih
theorem RowsIn.at {led : Led} {vs : List Value} {rs : List (List Int)} (h : RowsIn led vs rs) : ∀ {i : Nat} {v : Value}, vs[i]? = some v → ∃ a ws k r, v = .ref a ∧ (a, listOf ws.toArray k) ∈ led ∧ IntsAre ws r ∧ rs[i]? = some r := by
  induction h with
  | nil => intro i v h; simp at h
  | @cons a ws k r vs rs hm hi _ ih =>
    intro i v hv
    cases i with
    | zero => simp at hv; exact ⟨a, ws, k, r, hv.symm, hm, hi, by simp⟩
    | succ i => simpa using ih (by simpa using hv)
def dataOf (Ms : List (List Int)) : List PyData := Ms.map fun r => .list (r.map .int)
theorem RowsIn.reads {h h₀ : Heap} {L : Addr} {led : Led} {vs : List Value} {rs : List (List Int)} (N : News h₀ L h led) (x : RowsIn led vs rs) : ∃ as, ReadsAll h vs (dataOf rs) as := by
  induction x with
  | nil => exact ⟨_, .nil⟩
  | cons hm hi _ ih =>
    obtain ⟨as, ih⟩ := ih
    exact ⟨_, .cons (reads_of_ints (News.isList N hm) hi) ih⟩
theorem dataOf_lay : ∀ Ms : List (List Int), PyData.canLayAll0 (dataOf Ms) = true
  | [] => by simp [dataOf, PyData.canLayAll0]
  | r :: Ms => by
    have := dataOf_lay Ms
    simp only [dataOf, List.map_cons, PyData.canLayAll0, PyData.canLay0, canLayAll0_ints r, Bool.true_and] at this ⊢
    exact this
theorem dataOf_depth : ∀ Ms : List (List Int), PyData.depthAll (dataOf Ms) ≤ 3
  | [] => by simp [dataOf, PyData.depthAll]
  | r :: Ms => by
    have h1 := dataOf_depth Ms
    have h2 := PySem.W.depthAll_ints r
    simp only [dataOf, List.map_cons, PyData.depthAll, PyData.depth] at h1 ⊢
    omega
theorem dataOf_shaped (Ms : List (List Int)) : shaped (.list (dataOf Ms)) = true := by
  have h1 := dataOf_depth Ms
  have h2 : PyData.depth (.list (dataOf Ms)) ≤ 64 := by simp only [PyData.depth]; omega
  show (PyData.canLay0 (.list (dataOf Ms)) && decide (PyData.depth (.list (dataOf Ms)) ≤ 64)) = true
  rw [Bool.and_eq_true]
  exact ⟨by simp only [PyData.canLay0]; exact dataOf_lay Ms, decide_eq_true h2⟩
section
variable {prog : Program} {w : World} {A : Around} {E : Value → Shared → Prop} {s : Shared} {h₀ : Heap} {L : Addr} {m : Str → Option Value} {led : Led}
theorem eq_rows_nil {l b : Addr} {ys : List Value} {k kb : Nat} {Ms : List (List Int)} {Q : Value → Shared → Prop} (N : News h₀ L s.heap led) (hl : (l, listOf ys.toArray k) ∈ led) (hR : RowsIn led ys Ms) (hb : (b, listOf #[] kb) ∈ led) (hu : A.units + 64 < cLine)
    (h : Q (.bool (decide (Ms = []))) s) : wpAny (model prog w) A (compareOp .Eq (.ref l) (.ref b)) Q E s := by
  obtain ⟨as, hr⟩ := hR.reads N
  have ra : Reads s.heap (.ref l) (.list (dataOf Ms)) (l :: as) := Reads.list (N _ hl).1 rfl rfl (by simpa using hr)
  have rb : Reads s.heap (.ref b) (.list []) [b] := Reads.list (N _ hb).1 rfl rfl (by simpa using ReadsAll.nil)
  refine eq_dataH_same ra rb (dataOf_shaped Ms) (by decide) hu ?_ ?_
  · cases Ms <;> simp [dataOf, noMix, noMixAll]
  · cases Ms <;> simpa [dataOf, PySem.Spec.same, PySem.Spec.sameAll] using h
theorem slice_from {value slice : PySem.Expr} {l : Addr} {v0 : Value} {ys : List Value} {k : Nat} {t : Tok} {Q : Value → Shared → Prop} (F : Fr h₀ L s.heap m) (N : News h₀ L s.heap led) (hl : (l, listOf (v0 :: ys).toArray k) ∈ led) (hz : ys.length + 1 ≤ sizeLine)
    (h : ∀ D h', Fr h₀ L h' m → News h₀ L h' ((D, listOf ys.toArray 0) :: led) → (∀ p ∈ led, p.1 < D) → Q (.ref D) { s with heap := h' })
    (hs : subscripted slice false (.ref l) (.ref s.heap.objs.size) = operate [.ref s.heap.objs.size, .ref l] (getItem (.ref l) (.ref s.heap.objs.size))) (ht : ∀ r, letTemporaryGo value (.ref l) r = pure ()) :
    wpAny (model prog w) A (subscriptTail value slice (.ref l) (.ref s.heap.objs.size)) Q E { s with heap := s.heap.push { cls := .type "slice", data := .fields #[.int 1 t, .none, .none] } } := by
  have e : (slicePick (v0 :: ys).toArray (some 1) none none).toList = ys := by
    have eb : sliceBounds (some 1) none none (v0 :: ys).toArray.size = (((min (1 : Int).toNat (v0 :: ys).toArray.size : Nat) : Int), (((v0 :: ys).toArray.size : Nat) : Int), 1) := by
      simp only [sliceBounds, Option.getD_none, show (1 : Int) > 0 by decide, if_true, if_neg (show ¬ ((1 : Int) < 0) by decide)]
      congr 1
      omega
    rw [kmk_pick_nat _ eb, show min (1 : Int).toNat (v0 :: ys).toArray.size = 1 by rw [List.size_toArray, List.length_cons, show (1 : Int).toNat = 1 from rfl]; omega]
    simp
  refine kmk_slice F N (News.isList N hl) (.int 1 t) .none (fun D h' F' N' l1 => h D h' F' ?_ l1) hs ht (by rw [List.size_toArray, List.length_cons]; exact hz)
  have e2 : (slicePick (v0 :: ys).toArray (some 1) none none) = ys.toArray := by
    have := congrArg List.toArray e
    rwa [Array.toArray_toList] at this
  rw [e2] at N'
  exact N'
theorem item_head {value slice : PySem.Expr} {l : Addr} {v : Value} {vs : List Value} {u : Tok} {Q : Value → Shared → Prop}
    (hl : s.heap.IsList l (v :: vs).toArray) (h : Q v s)
    (hs : subscripted slice false (.ref l) (.int 0 u) = operate [.ref l, .int 0 u] (getItem (.ref l) (.int 0 u))) :
    wpAny (model prog w) A (subscriptTail value slice (.ref l) (.int 0 u)) Q E s :=
  tail_any hl.typeIs slot_list_getitem.lookup (wpAny_getItem_list (x := v) hl (by decide) (by decide) (by simp) h) hs
end
def minor (k : Nat) (Ms : List (List Int)) : List (List Int) := Ms.tail.map fun r => r.take k ++ r.drop (k + 1)
def det : Nat → List (List Int) → Int
  | 0, _ => 1
  | n + 1, Ms => ((List.range (n + 1)).map fun (k : Nat) => (1 - 2 * ((0 + (k : Int)).fmod 2)) * (Ms.headD []).getD k 0 * det n (minor k Ms)).sum
end

section
open PyProof.Rows.LCg
theorem walk_off_c_signed : True := by
  w_top off
  trivial
theorem scOk_local {x : Str} {scope : Scope} {cl : List (Str × Addr)} (h : ∀ y ∈ scope.names, y.2 ≠ .cell) : ScOk false x scope cl := h
theorem eq_rows_cons {prog : Program} {w : World} {A : Around} {E : Value → Shared → Prop} {s : Shared} {h₀ : Heap} {L : Addr} {led tl : Led} {l b : Addr} {v : Value} {ys : List Value} {k kb : Nat} {r : List Int} {Ms : List (List Int)} {Q : Value → Shared → Prop} (N : News h₀ L s.heap led) (hl : (l, listOf (v :: ys).toArray k) ∈ led) (hR : RowsIn tl (v :: ys) (r :: Ms)) (ht : ∀ p ∈ tl, p ∈ led) (hb : (b, listOf #[] kb) ∈ led) (hu : A.units + 64 < cLine)
    (h : Q (.bool false) s) : wpAny (model prog w) A (compareOp .Eq (.ref l) (.ref b)) Q E s := eq_rows_nil N hl (hR.mono ht) hb hu (by simpa using h)
local macro_rules | `(tactic| walk_at "my tl") => `(tactic| (intro p hp; repeat (first | exact hp | refine List.mem_cons_of_mem _ ?_)))
local macro_rules | `(tactic| walk_at "compareOp Eq ref ref") => `(tactic| (k_here; (with_reducible show wpAny _ _ (compareOp CmpOp.Eq (Value.ref _) (Value.ref _)) _ _ _); k_dflt (refine eq_rows_cons (by k_asm) (by k_mem) (by assumption) (by walk_at "my tl") (by k_mem) (by ke_room) ?_)))
local macro_rules | `(tactic| walk_at "eval ListComp") => `(tactic| (k_here; (with_reducible show wpAny _ _ (eval (Expr.ListComp (Expr.BinOp (Expr.BinOp _ _ _ _) _ _ _) [⟨Expr.Name _ _, _, [], _⟩] _ _) _) _ _ _); k_dflt (refine ListComp_L (cell := true) (_F₀ := by k_asm) (by with_unfolding_all rfl) ⟨fun _ => rfl, fun _ => rfl⟩ (by rfl) (by decide) (by rfl) ?_)))
local macro_rules | `(tactic| walk_at "eval ListComp") => `(tactic| (k_here; (with_reducible show wpAny _ _ (eval (Expr.ListComp (Expr.BinOp (Expr.Subscript _ _ _) _ _ _) [⟨Expr.Name _ _, _, [], _⟩] _ _) _) _ _ _); k_dflt (refine ListComp_L (cell := false) (_F₀ := by k_asm) (by with_unfolding_all rfl) (scOk_local (by decide)) (by rfl) (by decide) (by rfl) ?_)))
theorem len_eq {prog : Program} {w : World} {A : Around} {E : Value → Shared → Prop} {s : Shared} {l : Addr} {ys : List Value} {n : Nat} {Q : Value → Shared → Prop} (hl : s.heap.IsList l ys.toArray) (hn : ys.length = n) (hfit : n ≤ 100)
    (h : Q (.int (n : Int) (s.toks + 1)) { s with toks := s.toks + 1 + 1 }) : wpAny (model prog w) A (call (.builtin "len") [.ref l]) Q E s :=
  call_len_list hl (by rw [List.size_toArray, hn]; omega) (by rw [List.size_toArray, hn]; exact h)
local macro_rules | `(tactic| walk_at "call builtin:len cons nil") => `(tactic| (k_here; (with_reducible show wpAny _ _ (call (Value.builtin "len") [Value.ref _]) _ _ _); k_dflt (refine len_eq (News.isList (by k_asm) (by k_mem)) (by assumption) (by omega) ?_)))
local macro_rules | `(tactic| walk_at "subscriptTail Name Constant ref int") => `(tactic| (k_here; (with_reducible show wpAny _ _ (subscriptTail _ _ (Value.ref _) (Value.int 0 _)) _ _ _); k_dflt (refine item_head (News.isList (by k_asm) (by k_mem)) ?_ (by with_unfolding_all rfl))))
local macro_rules | `(tactic| walk_at "subscriptTail Subscript Name ref int") => `(tactic| (k_here; k_dflt (refine item_ints (by is_list) (by l_ints) (by omega) (by omega) (by omega) ?_); intro t'))
local macro_rules | `(tactic| walk_at "subscriptTail Name Slice ref ref") => `(tactic| (k_here; (with_reducible show wpAny _ _ (subscriptTail (Expr.Name "rows" _) (PySem.Expr.Slice _ _ none _) (Value.ref _) (Value.ref _)) _ _ _); k_dflt (refine slice_from (by k_asm) (by k_asm) (by k_mem) (by rw [PySem.sizeLine_eq]; omega) ?_ (by with_unfolding_all rfl) (by kmk_pure)); intro D' h' F' N' l1; (try k_lt l1)))
local macro_rules | `(tactic| walk_at "call ref cons nil") => `(tactic| ((with_reducible show wpAny _ _ (call (Value.ref 106) _) _ _ _); refine Stop.at ?_))
theorem fmod2 (a : Int) : (a.fmod 2 = 0 ∨ a.fmod 2 = 1) := by
  have h0 := Int.fmod_nonneg_of_pos a (show (0 : Int) < 2 by decide)
  have h1 := Int.fmod_lt_of_pos a (show (0 : Int) < 2 by decide)
  omega
theorem sgn_bnd (a x : Int) (hx : -1000 ≤ x ∧ x ≤ 1000) : -1000 ≤ (1 - 2 * a.fmod 2) * x ∧ (1 - 2 * a.fmod 2) * x ≤ 1000 := by
  rcases fmod2 a with h | h <;> rw [h] <;> omega
def RowsOk (n : Nat) (Ms : List (List Int)) : Prop := Ms.length = n ∧ ∀ r ∈ Ms, r.length = n ∧ ∀ v ∈ r, -1000 ≤ v ∧ v ≤ 1000
def SgCt (w : World) (n : Nat) : Prop := ∀ (l : Addr) (ys : List Value) (ko : Nat) (Ms : List (List Int)) (tl : Led), RowsIn tl ys Ms → RowsOk n Ms →
  Ct w 106 [.ref l] ((l, listOf ys.toArray ko) :: tl) (6 * n + 4) (fun _ => False) (fun r ext => ext = [] ∧ ∃ t, r = .int (det n Ms) t)
theorem eq_rows_nil0 {prog : Program} {w : World} {A : Around} {E : Value → Shared → Prop} {s : Shared} {h₀ : Heap} {L : Addr} {led : Led} {l b : Addr} {k kb : Nat} {Q : Value → Shared → Prop} (N : News h₀ L s.heap led) (hl : (l, listOf ([] : List Value).toArray k) ∈ led) (hb : (b, listOf #[] kb) ∈ led) (hu : A.units + 64 < cLine)
    (h : Q (.bool true) s) : wpAny (model prog w) A (compareOp .Eq (.ref l) (.ref b)) Q E s := eq_rows_nil (led := led) N hl .nil hb hu (by simpa using h)
section
local macro_rules | `(tactic| walk_at "compareOp Eq ref ref") => `(tactic| (k_here; (with_reducible show wpAny _ _ (compareOp CmpOp.Eq (Value.ref _) (Value.ref _)) _ _ _); k_dflt (refine eq_rows_nil0 (by k_asm) (by k_mem) (by k_mem) (by ke_room) ?_)))
theorem signed_base (w : World) : SgCt w 0 := by
  intro l ys ko Ms tl hR hok
  unfold Ct; k_fill
  intro p loose mean mg mb dp un gd env outer A₀ base h₀ L m s Q E B F X N T c1 c2 hf hk hdp hun hret
  refine wpAny_call ?_
  obtain ⟨hlen, hb⟩ := hok
  cases hR with
  | cons hm hi hR' => simp at hlen
  | nil =>
  walk_at "my enter"
  refine hold_body fun qH qH' => ?_
  rename_i gg LL _ _ Gk' hL' FG F1 B' X' T' l1 l2 o1 d1 N1
  replace d1 : o1.data = .cell (some (.ref l)) := d1
  replace F1 : Fr _ _ _ (fun _ => none) := F1
  k_steps
  rename_i N11 kF kN Tc kX
  exact my_ret Gk' N hL' hret (by assumption) kF kN ⟨rfl, _, rfl⟩ (fun p hp => .inl (by
      rcases List.mem_cons.mp hp with rfl | hp
      · k_mem
      · exact .tail _ (.tail _ (.tail _ hp)))) (by walk_at "my sub") (by walk_at "my new")
end
theorem signed_step (w : World) (n : Nat) (hn3 : n ≤ 3) (ih : SgCt w n) : SgCt w (n + 1) := by
  intro l ys ko Ms tl hR hok
  unfold Ct; k_fill
  intro p loose mean mg mb dp un gd env outer A₀ base h₀ L m s Q E B F X N T c1 c2 hf hk hdp hun hret
  refine wpAny_call ?_
  obtain ⟨hlen, hb⟩ := hok
  cases hR with
  | nil => simp at hlen
  | @cons a ws ka r ys Ms hm hi hR' =>
  have hR : RowsIn tl (.ref a :: ys) (r :: Ms) := .cons hm hi hR'
  have hyl : (Value.ref a :: ys).length = n + 1 := by rw [hR.length, hlen]
  have hyl' : ys.length = n := by simpa using hyl
  have hwl := hi.length
  have hML : Ms.length = n := by simpa using hlen
  have hrl := (hb r (.head _)).1
  walk_at "my enter"
  refine hold_body fun qH qH' => ?_
  rename_i gg LL _ _ Gk' hL' FG F1 B' X' T' l1 l2 o1 d1 N1
  replace d1 : o1.data = .cell (some (.ref l)) := d1
  replace F1 : Fr _ _ _ (fun _ => none) := F1
  k_steps
  have hsz : Builtin.Range.rangeSize 0 ((n + 1 : Nat) : Int) 1 = ((n + 1 : Nat) : Int) := rs_one (by omega)
  have hsm : Builtin.Range.small 0 ((n + 1 : Nat) : Int) 1 = true := sm_one (by omega) (by omega)
  rename Fr _ _ _ _ => F2; with_reducible rename News _ _ _ _ => N2; rename IsRange _ _ _ _ _ _ _ _ => R2
  replace N2 : News _ _ _ ((LL + 1, o1) :: (l, listOf (Value.ref a :: ys).toArray ko) :: (a, listOf ws.toArray ka) :: tl) := fun p hp => N2 p (by
    rcases List.mem_cons.mp hp with rfl | hp
    · k_mem
    rcases List.mem_cons.mp hp with rfl | hp
    · k_mem
    rcases List.mem_cons.mp hp with rfl | hp
    · exact List.mem_cons_of_mem _ (List.mem_cons_of_mem _ (List.mem_cons_of_mem _ hm))
    · exact List.mem_cons_of_mem _ (List.mem_cons_of_mem _ (List.mem_cons_of_mem _ hp)))
  obtain ⟨N0, hN0⟩ : ∃ N0 : Led, N0 = ((LL + 1, o1) :: (l, listOf (Value.ref a :: ys).toArray ko) :: (a, listOf ws.toArray ka) :: tl) := ⟨_, rfl⟩
  refine SrcL.range (n := n + 1) (fun i zs news => news = ((LL + 1, o1) :: (l, listOf (Value.ref a :: ys).toArray ko) :: (a, listOf ws.toArray ka) :: tl) ∧ IntsAre zs ((List.range i).map fun (k : Nat) => (1 - 2 * ((0 + (k : Int)).fmod 2)) * r.getD k 0 * det n (minor k (r :: Ms)))) (fun i v => ∃ t, v = .int (0 + (i : Int)) t) (by rfl) F2 N2 R2 hsm hsz (by rw [PySem.sizeLine_eq]; omega) (fun i t _ => ⟨t, rfl⟩) ⟨rfl, .nil⟩ ?_ ?_
  · unfold EltL
    rintro i v zs news D own I oI h tk E' hin ⟨t, rfl⟩ ⟨rfl, hzI⟩ hzl ⟨oX, oC, mC, rfl, dX, nC⟩ hLD hD0 F3 N3
    simp only [List.cons_append, List.nil_append] at N3 ⊢
    dsimp only [clOf, kOf]
    have hri : -1000 ≤ r.getD (0 + (i : Int)).toNat 0 ∧ r.getD (0 + (i : Int)).toNat 0 ≤ 1000 := by
      have h1 : i < r.length := by omega
      rw [show (0 + (i : Int)).toNat = i by omega, List.getD_eq_getElem?_getD, List.getElem?_eq_getElem h1]
      exact (hb r (.head _)).2 _ (List.getElem_mem h1)
    have hpr := sgn_bnd (0 + (i : Int)) _ hri
    have hf2 := fmod2 (0 + (i : Int))
    k_steps
    rename_i D1 _ F4 N4 l4
    refine SrcL.list (fun i' zs' news => RowsIn news zs' ((Ms.take i').map fun q => q.take i ++ q.drop (i + 1)) ∧ ∀ p ∈ ((D1, listOf ys.toArray 0) :: (D + 1 + 1, oX) :: (D + 1, oC) :: (D, lst zs) :: (I, oI) :: (LL + 1, o1) :: (l, listOf (Value.ref a :: ys).toArray ko) :: (a, listOf ws.toArray ka) :: tl), p ∈ news) (fun i' v => ys[i']? = some v) (by rfl) F4 N4 (by k_mem) (by rw [PySem.sizeLine_eq]; omega) (fun _ _ h => h) ⟨.nil, fun _ h => h⟩ (fun _ _ _ h => h.2 _ (.head _)) ?_ ?_
    · unfold EltL
      rintro i5 v5 zs5 news5 D5 own5 I5 oI5 h5 tk5 E5 hi5 hv5 ⟨hz5, hs5⟩ hl5 ⟨oC5, m5, rfl, nC5, hx5⟩ hLD5 hD5 F5 N5
      simp only [List.cons_append, List.nil_append] at N5 ⊢
      dsimp only [clOf, kOf]
      obtain ⟨b5, w5, k5, r5, rfl, hm5, hI5, hr5⟩ := hR'.at hv5
      have hM5 : r5 ∈ Ms := List.mem_of_getElem? hr5
      have hrl5 := (hb r5 (.tail _ hM5)).1
      have hwl5 := hI5.length
      have N6 : News _ _ h5 ((b5, listOf w5.toArray k5) :: (D + 1 + 1, oX) :: (D5 + 1, oC5) :: (D5, lst zs5) :: (I5, oI5) :: news5) := fun p hp => N5 p (by
        rcases List.mem_cons.mp hp with rfl | hp
        · exact .tail _ (.tail _ (.tail _ (hs5 _ (.tail _ (.tail _ (.tail _ (.tail _ (.tail _ (.tail _ (.tail _ (.tail _ hm5))))))))))) 
        rcases List.mem_cons.mp hp with rfl | hp
        · exact .tail _ (.tail _ (.tail _ (hs5 _ (.tail _ (.head _)))))
        · exact hp)
      k_steps
      rename_i D7 w7 _ F7 N7 hI7 l7
      refine ⟨_, _, _, (D7, listOf w7.toArray 0) :: news5, rfl, F7, N7, by walk_at "my sub", ?_, ?_, ?_, ?_⟩
      · intro p hp
        rcases List.mem_cons.mp hp with rfl | hp
        · exact .head _
        · exact .tail _ (.tail _ (.tail _ (.tail _ (.tail _ (.tail _ (.tail _ (.tail _ hp)))))))
      · intro p hp
        rcases List.mem_cons.mp hp with rfl | hp
        · exact .inr (by dsimp only; omega)
        · exact .inl hp
      · rw [List.take_add_one, hr5, Option.toList_some, List.map_append]
        rw [show (0 + (i : Int)).toNat = i by omega, show (0 + (i : Int) + 1).toNat = i + 1 by omega] at hI7
        exact (hz5.mono fun p hp => .tail _ hp).snoc (.head _) hI7
      · exact fun p hp => .tail _ (hs5 p hp)
    · unfold FinL
      rintro Dm h8 tk8 zs8 news8 ⟨hz8, hs8⟩ hl8 F8 N8 hDm hLDm hoff8
      rw [List.take_of_length_le (by omega)] at hz8
      have hok8 : RowsOk n (minor i (r :: Ms)) := by
        refine ⟨by rw [minor, List.length_map, List.tail_cons]; exact hML, fun q hq => ?_⟩
        obtain ⟨q0, hq0, rfl⟩ := List.mem_map.mp hq
        obtain ⟨hq1, hq2⟩ := hb q0 (.tail _ hq0)
        refine ⟨by rw [List.length_append, List.length_take, List.length_drop, hq1]; clear hq2; omega, fun v hv => ?_⟩
        rcases List.mem_append.mp hv with hv | hv
        · exact hq2 v (List.mem_of_mem_take hv)
        · exact hq2 v (List.mem_of_mem_drop hv)
      k_steps
      with_reducible refine Stop.go ?_
      refine Ct.useN (ih Dm zs8 _ (minor i (r :: Ms)) news8 hz8 hok8) (by k_asm) F8 (by k_asm) N8 (by k_asm) c1 c2 rfl rfl (by walk_at "my room") (by walk_at "my units") (fun p hp => hp) ?_
      rintro r9 ext9 h9 tk9 F9 N9 l9 ⟨rfl, t9, rfl⟩
      simp only [List.nil_append] at N9
      replace N9 : News _ _ h9 ((D1, listOf ys.toArray 0) :: (D + 1 + 1, oX) :: (D + 1, oC) :: (D, lst zs) :: (I, oI) :: (LL + 1, o1) :: (l, listOf (Value.ref a :: ys).toArray ko) :: (a, listOf ws.toArray ka) :: tl) := fun p hp => N9 p (.tail _ (hs8 p hp))
      k_steps
      rw [show (0 + (i : Int)).toNat = i by omega]
      refine ⟨_, _, _, _, rfl, F9, N9, by walk_at "my sub", fun p hp => .tail _ (.tail _ (.tail _ (.tail _ (.tail _ hp)))), fun p hp => .inl hp, ⟨rfl, ?_⟩⟩
      rw [mapRange_succ]
      exact IntsAre.append hzI (.cons _ _ .nil)
  · unfold FinL
    rintro Df h10 tk10 zs10 news10 ⟨rfl, hz10⟩ hl10 F10 N10 hDf hLDf hoff10
    k_steps
    rename_i F11 N11 kF kN Tc kX
    exact my_ret Gk' N hL' hret F11 kF kN ⟨rfl, _, rfl⟩ (fun p hp => .inl (by
      rcases List.mem_cons.mp hp with rfl | hp
      · k_mem
      · exact .tail _ (.tail _ (.tail _ (.tail _ hp))))) (by walk_at "my sub") (by walk_at "my new")
theorem signed_ct (w : World) : ∀ n, n ≤ 4 → SgCt w n
  | 0, _ => signed_base w
  | n + 1, h => signed_step w n (by omega) (signed_ct w n (by omega))
end

section
theorem newton_length : ∀ (n : Nat) (l : List Int), l.length = n → (newton l).length = n
  | 0, l, h => by
    have : l = [] := List.length_eq_zero_iff.mp h
    subst this; simp [newton]
  | n + 1, l, h => by
    cases l with
    | nil => simp at h
    | cons a r => rw [newton, List.length_cons, newton_length n _ (by rw [diffs_length, h]; rfl)]
theorem ways_nums : ∀ g : Nat, g < 10 → waysOf ((g : Int) - 3) 0 = 1 ∧ waysOf ((g : Int) - 3) 1 = (g : Int) - 3 ∧ waysOf ((g : Int) - 3) 1 + 2 * waysOf ((g : Int) - 3) 2 = ((g : Int) - 3) * ((g : Int) - 3) ∧
    waysOf ((g : Int) - 3) 1 + 6 * waysOf ((g : Int) - 3) 2 + 6 * waysOf ((g : Int) - 3) 3 = ((g : Int) - 3) * ((g : Int) - 3) * ((g : Int) - 3) := by decide +kernel
theorem ways_num {n : Int} (hn : -3 ≤ n ∧ n ≤ 6) : waysOf n 0 = 1 ∧ waysOf n 1 = n ∧ waysOf n 1 + 2 * waysOf n 2 = n * n ∧ waysOf n 1 + 6 * waysOf n 2 + 6 * waysOf n 3 = n * n * n := by
  have := ways_nums (n + 3).toNat (by omega)
  rwa [show (((n + 3).toNat : Nat) : Int) - 3 = n by omega] at this
def lag (n : Int) (m p : Nat) : Int := prodX n p m * ((fct (m - 1) * fct (m - 1)).fdiv (prodX p p m))
theorem lag_nums : ∀ g : Nat, g < 10 →
    (lag ((g : Int) - 3) 1 0 = 1) ∧
    (lag ((g : Int) - 3) 2 0 + lag ((g : Int) - 3) 2 1 = 1 ∧ lag ((g : Int) - 3) 2 1 = (g : Int) - 3) ∧
    (lag ((g : Int) - 3) 3 0 + lag ((g : Int) - 3) 3 1 + lag ((g : Int) - 3) 3 2 = 4 ∧ lag ((g : Int) - 3) 3 1 + 2 * lag ((g : Int) - 3) 3 2 = 4 * ((g : Int) - 3) ∧ lag ((g : Int) - 3) 3 1 + 4 * lag ((g : Int) - 3) 3 2 = 4 * (((g : Int) - 3) * ((g : Int) - 3))) ∧
    (lag ((g : Int) - 3) 4 0 + lag ((g : Int) - 3) 4 1 + lag ((g : Int) - 3) 4 2 + lag ((g : Int) - 3) 4 3 = 36 ∧ lag ((g : Int) - 3) 4 1 + 2 * lag ((g : Int) - 3) 4 2 + 3 * lag ((g : Int) - 3) 4 3 = 36 * ((g : Int) - 3) ∧
      lag ((g : Int) - 3) 4 1 + 4 * lag ((g : Int) - 3) 4 2 + 9 * lag ((g : Int) - 3) 4 3 = 36 * (((g : Int) - 3) * ((g : Int) - 3)) ∧ lag ((g : Int) - 3) 4 1 + 8 * lag ((g : Int) - 3) 4 2 + 27 * lag ((g : Int) - 3) 4 3 = 36 * (((g : Int) - 3) * ((g : Int) - 3) * ((g : Int) - 3))) := by decide +kernel
theorem lag_num {n : Int} (hn : -3 ≤ n ∧ n ≤ 6) :
    (lag n 1 0 = 1) ∧ (lag n 2 0 + lag n 2 1 = 1 ∧ lag n 2 1 = n) ∧
    (lag n 3 0 + lag n 3 1 + lag n 3 2 = 4 ∧ lag n 3 1 + 2 * lag n 3 2 = 4 * n ∧ lag n 3 1 + 4 * lag n 3 2 = 4 * (n * n)) ∧
    (lag n 4 0 + lag n 4 1 + lag n 4 2 + lag n 4 3 = 36 ∧ lag n 4 1 + 2 * lag n 4 2 + 3 * lag n 4 3 = 36 * n ∧
      lag n 4 1 + 4 * lag n 4 2 + 9 * lag n 4 3 = 36 * (n * n) ∧ lag n 4 1 + 8 * lag n 4 2 + 27 * lag n 4 3 = 36 * (n * n * n)) := by
  have := lag_nums (n + 3).toNat (by omega)
  rwa [show (((n + 3).toNat : Nat) : Int) - 3 = n by omega] at this
theorem lin {x a b : Int} (h : a = b) : x * a = x * b := by rw [h]
theorem lin4 {x a k n : Int} (h : a = k * n) : x * a = k * (x * n) := by rw [h, Int.mul_left_comm]
theorem wprod_succ (n : Int) (fs : List Int) (S : Int) (p : Nat) : wprod n fs S (p + 1) = wprod n fs S p + fs.getD p 0 * (prodX n p fs.length * ((S * S).fdiv (prodX p p fs.length))) := by
  rw [← Int.mul_assoc]; rfl
theorem rowCases (R : List Int) (m : Nat) (hl : R.length = m) (h1 : 1 ≤ m) (h4 : m ≤ 4) :
    (m = 1 ∧ ∃ a, R = [a]) ∨ (m = 2 ∧ ∃ a b, R = [a, b]) ∨ (m = 3 ∧ ∃ a b c, R = [a, b, c]) ∨ (m = 4 ∧ ∃ a b c d, R = [a, b, c, d]) := by
  match R, hl with
  | [], h => simp at h; omega
  | [a], h => simp at h; exact .inl ⟨h.symm, a, rfl⟩
  | [a, b], h => simp at h; exact .inr (.inl ⟨h.symm, a, b, rfl⟩)
  | [a, b, c], h => simp at h; exact .inr (.inr (.inl ⟨h.symm, a, b, c, rfl⟩))
  | [a, b, c, d], h => simp at h; exact .inr (.inr (.inr ⟨h.symm, a, b, c, d, rfl⟩))
  | _ :: _ :: _ :: _ :: _ :: _, h => simp at h; omega
def tdOf (R : List Int) (m : Nat) : List Int := List.map (fun k => wrt R k) (rangeKs 0 (m + 2))
theorem wrt1 (a n : Int) : wrt [a] n = a := by simp [wrt]
theorem wrt2 (a b n : Int) : wrt [a, b] n = a + b * n := by simp [wrt, List.range_succ, Int.pow_succ]
theorem wrt3 (a b c n : Int) : wrt [a, b, c] n = a + b * n + c * (n * n) := by simp [wrt, List.range_succ, Int.pow_succ]; omega
theorem wrt4 (a b c d n : Int) : wrt [a, b, c, d] n = a + b * n + c * (n * n) + d * (n * n * n) := by simp [wrt, List.range_succ, Int.pow_succ]; omega
theorem td1 (a : Int) : tdOf [a] 1 = [a, a, a] := by simp [tdOf, rangeKs, List.range_succ, wrt1]
theorem td2 (a b : Int) : tdOf [a, b] 2 = [a, a + b, a + b * 2, a + b * 3] := by simp [tdOf, rangeKs, List.range_succ, wrt2]
theorem td3 (a b c : Int) : tdOf [a, b, c] 3 = [a, a + b + c, a + b * 2 + c * 4, a + b * 3 + c * 9, a + b * 4 + c * 16] := by simp [tdOf, rangeKs, List.range_succ, wrt3]
theorem td4 (a b c d : Int) : tdOf [a, b, c, d] 4 = [a, a + b + c + d, a + b * 2 + c * 4 + d * 8, a + b * 3 + c * 9 + d * 27, a + b * 4 + c * 16 + d * 64, a + b * 5 + c * 25 + d * 125] := by simp [tdOf, rangeKs, List.range_succ, wrt4]
theorem fd1 (a : Int) : newton (tdOf [a] 1) = [a, 0, 0] := by rw [td1]; simp [newton, diffs]
theorem cons2 {a b : Int} {l m : List Int} (h : a = b) (k : l = m) : a :: l = b :: m := by rw [h, k]
theorem fd2 (a b : Int) : newton (tdOf [a, b] 2) = [a, b, 0, 0] := by rw [td2]; simp only [newton, diffs]; exact cons2 rfl (cons2 (by omega) (cons2 (by omega) (cons2 (by omega) rfl)))
theorem fd3 (a b c : Int) : newton (tdOf [a, b, c] 3) = [a, b + c, c * 2, 0, 0] := by rw [td3]; simp only [newton, diffs]; exact cons2 rfl (cons2 (by omega) (cons2 (by omega) (cons2 (by omega) (cons2 (by omega) rfl))))
theorem fd4 (a b c d : Int) : newton (tdOf [a, b, c, d] 4) = [a, b + c + d, c * 2 + d * 6, d * 6, 0, 0] := by rw [td4]; simp only [newton, diffs]; exact cons2 rfl (cons2 (by omega) (cons2 (by omega) (cons2 (by omega) (cons2 (by omega) (cons2 (by omega) rfl)))))
theorem plain_drop (R : List Int) (m : Nat) (hl : R.length = m) (h1 : 1 ≤ m) (h4 : m ≤ 4) : (newton (tdOf R m)).drop m = [0, 0] := by
  rcases rowCases R m hl h1 h4 with ⟨rfl, a, rfl⟩ | ⟨rfl, a, b, rfl⟩ | ⟨rfl, a, b, c, rfl⟩ | ⟨rfl, a, b, c, d, rfl⟩
  · rw [fd1]; rfl
  · rw [fd2]; rfl
  · rw [fd3]; rfl
  · rw [fd4]; rfl
theorem plain_last (R : List Int) (m : Nat) (hl : R.length = m) (h1 : 1 ≤ m) (h4 : m ≤ 4) : (newton (tdOf R m)).getD (m - 1) 0 = fct (m - 1) * R.getD (m - 1) 0 := by
  rcases rowCases R m hl h1 h4 with ⟨rfl, a, rfl⟩ | ⟨rfl, a, b, rfl⟩ | ⟨rfl, a, b, c, rfl⟩ | ⟨rfl, a, b, c, d, rfl⟩
  · rw [fd1]; simp [fct]
  · rw [fd2]; simp [fct]
  · rw [fd3]; simp [fct]; omega
  · rw [fd4]; simp [fct]; omega
theorem plain_newton (R : List Int) (m : Nat) (hl : R.length = m) (h1 : 1 ≤ m) (h4 : m ≤ 4) (n : Int) (hn : -3 ≤ n ∧ n ≤ 6) : wsum n 0 ((newton (tdOf R m)).take m) = wrt R n := by
  obtain ⟨e0, e1, e2, e3⟩ := ways_num hn
  rw [e1] at e2 e3
  rcases rowCases R m hl h1 h4 with ⟨rfl, a, rfl⟩ | ⟨rfl, a, b, rfl⟩ | ⟨rfl, a, b, c, rfl⟩ | ⟨rfl, a, b, c, d, rfl⟩
  · rw [fd1, wrt1]; show a * waysOf n 0 + 0 = _; rw [e0]; omega
  · rw [fd2, wrt2]; show a * waysOf n 0 + (b * waysOf n 1 + 0) = _; rw [e0, e1]; omega
  · rw [fd3, wrt3]; show a * waysOf n 0 + ((b + c) * waysOf n 1 + (c * 2 * waysOf n 2 + 0)) = _; rw [e0, e1]
    have f := lin (x := c) e2
    simp only [Int.add_mul, Int.mul_add, Int.mul_assoc] at f ⊢; omega
  · rw [fd4, wrt4]; show a * waysOf n 0 + ((b + c + d) * waysOf n 1 + ((c * 2 + d * 6) * waysOf n 2 + (d * 6 * waysOf n 3 + 0))) = _; rw [e0, e1]
    have f := lin (x := c) e2
    have g := lin (x := d) e3
    simp only [Int.add_mul, Int.mul_add, Int.mul_assoc] at f g ⊢; omega
theorem plain_lagrange (R : List Int) (m : Nat) (hl : R.length = m) (h1 : 1 ≤ m) (h4 : m ≤ 4) (n : Int) (hn : -3 ≤ n ∧ n ≤ 6) : wprod n ((tdOf R m).take m) (fct (m - 1)) m = fct (m - 1) * fct (m - 1) * wrt R n := by
  obtain ⟨l1, ⟨l2, m2⟩, ⟨l3, m3, n3⟩, l4, m4, n4, o4⟩ := lag_num hn
  rcases rowCases R m hl h1 h4 with ⟨rfl, a, rfl⟩ | ⟨rfl, a, b, rfl⟩ | ⟨rfl, a, b, c, rfl⟩ | ⟨rfl, a, b, c, d, rfl⟩
  · rw [td1, wrt1, wprod_succ]; show 0 + a * lag n 1 0 = 1 * a; rw [l1]; omega
  · rw [td2, wrt2, wprod_succ, wprod_succ]; show 0 + a * lag n 2 0 + (a + b) * lag n 2 1 = 1 * (a + b * n)
    have f := lin (x := a) l2
    rw [m2] at f ⊢
    simp only [Int.add_mul, Int.mul_add] at f ⊢; omega
  · rw [td3, wrt3, wprod_succ, wprod_succ, wprod_succ]; show 0 + a * lag n 3 0 + (a + b + c) * lag n 3 1 + (a + b * 2 + c * 4) * lag n 3 2 = 4 * (a + b * n + c * (n * n))
    have f := lin (x := a) l3
    have g := lin4 (x := b) m3
    have h := lin4 (x := c) n3
    simp only [Int.add_mul, Int.mul_add, Int.mul_assoc] at f g h ⊢; omega
  · rw [td4, wrt4, wprod_succ, wprod_succ, wprod_succ, wprod_succ]; show 0 + a * lag n 4 0 + (a + b + c + d) * lag n 4 1 + (a + b * 2 + c * 4 + d * 8) * lag n 4 2 + (a + b * 3 + c * 9 + d * 27) * lag n 4 3 = 36 * (a + b * n + c * (n * n) + d * (n * n * n))
    have f := lin (x := a) l4
    have g := lin4 (x := b) m4
    have h := lin4 (x := c) n4
    have i := lin4 (x := d) o4
    simp only [Int.add_mul, Int.mul_add, Int.mul_assoc] at f g h i ⊢; omega
theorem plain_bound (R : List Int) (m : Nat) (hl : R.length = m) (h1 : 1 ≤ m) (h4 : m ≤ 4) (hb : ∀ v ∈ R, -4 ≤ v ∧ v ≤ 4) (n : Int) (hn : -3 ≤ n ∧ n ≤ 6) : -2000 ≤ wrt R n ∧ wrt R n ≤ 2000 := by
  have B : ∀ v ∈ R, v.natAbs ≤ 4 := fun v hv => abs_of (hb v hv)
  have N : n.natAbs ≤ 6 := by omega
  have big : ∀ {x : Int} {a : Nat}, a ≤ 2000 → x.natAbs ≤ a → -2000 ≤ x ∧ x ≤ 2000 := fun h k => of_abs (a := 2000) (Nat.le_trans k h)
  rcases rowCases R m hl h1 h4 with ⟨rfl, a, rfl⟩ | ⟨rfl, a, b, rfl⟩ | ⟨rfl, a, b, c, rfl⟩ | ⟨rfl, a, b, c, d, rfl⟩
  · rw [wrt1]; exact big (by decide) (B a (by simp))
  · rw [wrt2]; exact big (by decide) (abs_add (B a (by simp)) (abs_mul (B b (by simp)) N))
  · rw [wrt3]; exact big (by decide) (abs_add (abs_add (B a (by simp)) (abs_mul (B b (by simp)) N)) (abs_mul (B c (by simp)) (abs_mul N N)))
  · rw [wrt4]; exact big (by decide) (abs_add (abs_add (abs_add (B a (by simp)) (abs_mul (B b (by simp)) N)) (abs_mul (B c (by simp)) (abs_mul N N))) (abs_mul (B d (by simp)) (abs_mul (abs_mul N N) N)))
theorem plain_div (R : List Int) (m : Nat) (hl : R.length = m) (h1 : 1 ≤ m) (h4 : m ≤ 4) (n o : Int) (ho : o < n) : (wrt R n - wrt R o).fmod (n - o) = 0 := by
  refine Int.fmod_eq_zero_of_dvd ?_
  rcases rowCases R m hl h1 h4 with ⟨rfl, a, rfl⟩ | ⟨rfl, a, b, rfl⟩ | ⟨rfl, a, b, c, rfl⟩ | ⟨rfl, a, b, c, d, rfl⟩
  · rw [wrt1, wrt1]; simp
  · rw [wrt2, wrt2]; exact ⟨b, by rw [Int.sub_mul, Int.mul_comm n b, Int.mul_comm o b]; omega⟩
  · rw [wrt3, wrt3]
    refine ⟨b + c * (n + o), ?_⟩
    simp only [Int.sub_mul, Int.mul_add]
    have e1 : n * (c * n) = c * (n * n) := by rw [← Int.mul_assoc, Int.mul_comm n c, Int.mul_assoc]
    have e2 : o * (c * o) = c * (o * o) := by rw [← Int.mul_assoc, Int.mul_comm o c, Int.mul_assoc]
    have e3 : n * (c * o) = o * (c * n) := by rw [Int.mul_left_comm, Int.mul_comm n o, Int.mul_left_comm]
    rw [Int.mul_comm n b, Int.mul_comm o b, e1, e2, e3]; omega
  · rw [wrt4, wrt4]
    refine ⟨b + c * (n + o) + d * (n * n + n * o + o * o), ?_⟩
    simp only [Int.sub_mul, Int.mul_add]
    have e1 : n * (c * n) = c * (n * n) := by rw [← Int.mul_assoc, Int.mul_comm n c, Int.mul_assoc]
    have e2 : o * (c * o) = c * (o * o) := by rw [← Int.mul_assoc, Int.mul_comm o c, Int.mul_assoc]
    have e3 : n * (c * o) = o * (c * n) := by rw [Int.mul_left_comm, Int.mul_comm n o, Int.mul_left_comm]
    have f1 : n * (d * (n * n)) = d * (n * n * n) := by rw [Int.mul_left_comm, Int.mul_comm n (n * n)]
    have f2 : o * (d * (o * o)) = d * (o * o * o) := by rw [Int.mul_left_comm, Int.mul_comm o (o * o)]
    have f3 : n * (d * (n * o)) = o * (d * (n * n)) := by rw [Int.mul_left_comm, Int.mul_left_comm o d, ← Int.mul_assoc n n o, Int.mul_comm (n * n) o]
    have f4 : n * (d * (o * o)) = o * (d * (n * o)) := by rw [Int.mul_left_comm, Int.mul_left_comm o d, Int.mul_left_comm n o o]
    rw [Int.mul_comm n b, Int.mul_comm o b, e1, e2, e3, f1, f2, f3, f4]; omega
def plc (m : Nat) : List Int := (rangeKs 0 m).map fun k => k * k + k.fdiv 2
def apB (P : List Int) (a : Int) (i : Nat) : Nat → Int
  | 0 => a
  | j + 1 => apB P a i j * (P.getD i 0 - P.getD j 0)
def apA (P : List Int) : Nat → Int
  | 0 => 1
  | i + 1 => apB P (apA P i) i i
theorem plc_length (m : Nat) : (plc m).length = m := by rw [plc, List.length_map, rangeKs_length]
theorem plc_bnd : ∀ m : Nat, m < 5 → ∀ i : Nat, i < m → 0 ≤ (plc m).getD i 0 ∧ (plc m).getD i 0 ≤ 10 := by decide
theorem my_left {a b : Int} (h : -100000 ≤ a ∧ a ≤ 100000) : PySem.IntMulOk a b := PySem.IntMulOk.of_left (PySem.intBits_le_64 (by omega) (by omega))
theorem my_right {a b : Int} (h : -100000 ≤ b ∧ b ≤ 100000) : PySem.IntMulOk a b := PySem.IntMulOk.of_right (PySem.intBits_le_64 (by omega) (by omega))
theorem plain_other (R : List Int) (m : Nat) (hl : R.length = m) (h1 : 1 ≤ m) (h4 : m ≤ 4) (k : Int) (h0 : 0 ≤ k) (hk : k < m) : wrt ([R.getD 0 0 + 1] ++ R.drop 1) k ≠ (tdOf R m).getD k.toNat 0 := by
  rcases rowCases R m hl h1 h4 with ⟨rfl, a, rfl⟩ | ⟨rfl, a, b, rfl⟩ | ⟨rfl, a, b, c, rfl⟩ | ⟨rfl, a, b, c, d, rfl⟩
  · have : k = 0 := by omega
    subst this
    rw [td1]; show wrt [a + 1] _ ≠ _; rw [wrt1]; simp; omega
  · have : k = 0 ∨ k = 1 := by omega
    rw [td2]; show wrt [a + 1, b] _ ≠ _; rw [wrt2]
    rcases this with rfl | rfl <;> simp <;> omega
  · have : k = 0 ∨ k = 1 ∨ k = 2 := by omega
    rw [td3]; show wrt [a + 1, b, c] _ ≠ _; rw [wrt3]
    rcases this with rfl | rfl | rfl <;> simp <;> omega
  · have : k = 0 ∨ k = 1 ∨ k = 2 ∨ k = 3 := by omega
    rw [td4]; show wrt [a + 1, b, c, d] _ ≠ _; rw [wrt4]
    rcases this with rfl | rfl | rfl | rfl <;> simp <;> omega
theorem fold_same : ∀ l : List Int, List.foldl (fun (a : List Int) (_ : Int) => a) [] l = []
  | [] => rfl
  | _ :: r => fold_same r
end

section
open PyProof.Rows.LCg
theorem walk_off_l15466 : True := by
  w_top off
  trivial
theorem mul_small {k b : Int} {m : Nat} (hlo : 0 ≤ k) (hhi : k < 0 + (((m : Int) - 0).toNat : Int)) (hm : 1 ≤ (m : Int) ∧ (m : Int) ≤ 4) : PySem.IntMulOk k b := PySem.IntMulOk.of_left (PySem.intBits_le_64 (by omega) (by omega))
local macro_rules | `(tactic| mul_fits) => `(tactic| exact my_right (by assumption))
local macro_rules | `(tactic| mul_fits) => `(tactic| exact mul_small (by assumption) (by assumption) (by assumption))
local macro_rules | `(tactic| walk_at "call ref cons nil") => `(tactic| refine Stop.at ?_)
local macro_rules | `(tactic| walk_at "pyIter ref") => `(tactic| refine Stop.at ?_)
local macro_rules | `(tactic| walk_at "eval Name") => `(tactic| (k_here; k_dflt (refine ldX (by k_asm) (by assumption) ?_ rfl rfl rfl (by decide))))
local macro_rules | `(tactic| walk_at "UnrEnd") => `(tactic| refine Stop.at ?_)
local macro_rules | `(tactic| walk_at "eval ListComp") => `(tactic| (k_here; (with_reducible show wpAny _ _ (eval (Expr.ListComp (Expr.ListComp _ _ _ _) [⟨Expr.Name _ _, _, [], _⟩] _ _) _) _ _ _); k_dflt (refine ListComp_L (cell := true) (_F₀ := by k_asm) (by with_unfolding_all rfl) ⟨fun _ => rfl, fun _ => rfl⟩ (by rfl) (by decide) (by rfl) ?_)))
def vnd (m : Nat) : List (List Int) := (plc m).map fun k => (rangeKs 0 m).map fun e => k ^ e.toNat
theorem vnd_ok : ∀ m : Nat, m < 5 → RowsOk m (vnd m) := by unfold RowsOk; decide
theorem vnd_det : ∀ m : Nat, m < 5 → det m (vnd m) = apA (plc m) m := by decide
def lawDef : Option Stmt := PySem.Challenge.pw_hr0001_01.main.body.getLast?
def lawBody : List Stmt := match lawDef with
  | some (.FunctionDef _ _ b _ _ _ _ _ _ _) => b
  | _ => []
def lawScope : Scope := match lawDef with
  | some (.FunctionDef _ _ _ _ _ _ s _ _ _) => s
  | _ => default
theorem law_tail {w : World} {p : Program} {loose : List Str} {mean : ExcName → Option Value} {mg mb : Str → Option Value} {fa : Addr} {cd : Value} {g0 : Heap} {L0 : Nat} {R TD : List Int} {m : Nat} {ysT ysR : List Value} {DT DR : Nat} {oO oT oR oM : Obj} {vO : Option Value} {tM : Tok} {ps1 ps2 : Array Value} {mm : Str → Option Value} {s1 : Shared} {h5 : Heap} {tk5 : Nat} {Q' : Flow → Shared → Prop} :
    Top p loose mean mg mb g0 → (hd.heap_39 w.params).In g0 → Below callerA g0 [] g0 → CodeHd g0 55 51 → CodeHd g0 48 44 → (51 < L0 ∧ 44 < L0) → (DR < DT ∧ L0 + 1 + 1 + 1 + 1 < DT) → (L0 + 1 + 1 + 1 + 1 < DR) →
    IntsAre ysR R → (∀ v ∈ R, -4 ≤ v ∧ v ≤ 4) → (1 ≤ (m : Int) ∧ (m : Int) ≤ 4) → R.length = m → tdOf R m = TD → TD.length = m + 2 → IntsAre ysT TD → ysR.length = R.length → ysT.length = TD.length →
    oR.data = .cell (some (.ref DR)) → oT.data = .cell (some (.ref DT)) → oM.data = .cell (some (.int (m : Int) tM)) → oO.data = .cell vO →
    Fr g0 L0 h5 mm → News g0 L0 h5 [(DT, listOf ysT.toArray ysT.length), (DR, listOf ysR.toArray ysR.length), (L0 + 1 + 1 + 1 + 1, oO), (L0 + 1 + 1 + 1, oT), (L0 + 1 + 1, oR), (L0 + 1, oM), (51, tabObj ps1), (44, tabObj ps2)] →
    (∀ (h' : Heap) (tk' : Nat) (m' : Str → Option Value) (ps1 ps2 : Array Value), Fr g0 L0 h' m' → News g0 L0 h' [(51, tabObj ps1), (44, tabObj ps2)] → Q' (.ret (.bool true)) { s1 with heap := h', toks := tk' }) →
    ∀ (body : List Stmt), body = lawBody.drop 9 → ∀ sc : Scope, sc = lawScope →
    wpAny (model PySem.Challenge.rw_hr0001_01.row.prog w) (callerA.deeper (envOfC "law" sc L0 fa cd)) (execs body (envOfC "law" sc L0 fa cd)) Q' (fun _ _ => False) { s1 with heap := h5, toks := tk5 } := by
  k_fill
  intro TT KX KB c1 codeHd l0 lT lR hIR hRb hM hRl hTD hTl hIT hyR hyT dR dT dM dO F5 N5 hret body hb sc hs
  conv at hb => rhs; whnf
  conv at hs => rhs; whnf
  subst hb
  subst hs
  k_steps
  with_reducible refine Stop.go ?_
  rename_i hI8 hL8 DP _ _ oP _ _ _ _ _ _ _ _ R8 F8 N8 _
  rw [show ((m : Int) - 0).toNat = m by omega] at hI8 hL8
  change IntsAre ys (plc m) at hI8
  change ys.length = (plc m).length at hL8
  have hPl := plc_length m
  have hPb := plc_bnd m (by omega)
  generalize hP : plc m = P at *
  clear oP
  have hsz8 : Builtin.Range.rangeSize 0 (m : Int) 1 = ((m : Nat) : Int) := rs_one (by omega)
  have hsm8 : Builtin.Range.small 0 (m : Int) 1 = true := sm_one (by omega) (by omega)
  with_unfolding_all refine iter_rangeUnr (n := m) (by rfl) R8 hsm8 hsz8 F8 N8 ?_
  intro I8 lI8
  k_lt lI8
  refine rangeRest_ind (fun i mm news => Stop (∃ t4, mm "places" = some (.ref DP) ∧ mm "apart" = some (.int (apA P i) t4) ∧ SubL [(DP, LCg.lst ys), (DT, listOf ysT.toArray ysT.length), (DR, listOf ysR.toArray ysR.length), (L0 + 1 + 1 + 1 + 1, oO), (L0 + 1 + 1 + 1, oT), (L0 + 1 + 1, oR), (L0 + 1, oM), (51, tabObj ps1), (44, tabObj ps2)] news)) ?_ ?_ _ _ _ _ (Nat.zero_add _) ?_
  · clear hret
    intro i mm8 news8 hi8 hJ8 t8 h8 tk8 F9 N9
    refine hold_body fun qJ qJ' => ?_
    obtain ⟨t4, ep, ea, hsb8⟩ := Stop.at hJ8
    replace N9 : News g0 L0 h8 [(I8, itR (0 + ((i + 1 : Nat) : Int)) ((m : Int) - ((i + 1 : Nat) : Int))), (DP, LCg.lst ys), (DT, listOf ysT.toArray ysT.length), (DR, listOf ysR.toArray ysR.length), (L0 + 1 + 1 + 1 + 1, oO), (L0 + 1 + 1 + 1, oT), (L0 + 1 + 1, oR), (L0 + 1, oM), (51, tabObj ps1), (44, tabObj ps2)] := fun p hp => N9 p (by
      rcases List.mem_cons.mp hp with rfl | hp
      · exact .head _
      · exact .tail _ (hsb8.mem p hp))
    clear hsb8 hJ8 N8 F8 R8
    k_steps
    with_reducible refine Stop.go ?_
    rename Fr _ _ _ _ => F10; rename News _ _ _ _ => N10; rename IsRange _ _ _ _ _ _ _ _ => R10
    have hszI : Builtin.Range.rangeSize 0 (0 + (i : Int)) 1 = ((i : Nat) : Int) := rs_one (by omega)
    have hsmI : Builtin.Range.small 0 (0 + (i : Int)) 1 = true := sm_one (by omega) (by omega)
    with_unfolding_all refine iter_rangeUnr (n := i) (by rfl) R10 hsmI hszI F10 N10 ?_
    intro I9 lI9
    k_lt lI9
    refine rangeRest_ind (fun j mm news => Stop (∃ t4 t5, mm "places" = some (.ref DP) ∧ mm "k" = some (.int (0 + (i : Int)) t5) ∧ mm "apart" = some (.int (apB P (apA P i) i j) t4) ∧ SubL [(I8, itR (0 + ((i + 1 : Nat) : Int)) ((m : Int) - ((i + 1 : Nat) : Int))), (DP, LCg.lst ys), (DT, listOf ysT.toArray ysT.length), (DR, listOf ysR.toArray ysR.length), (L0 + 1 + 1 + 1 + 1, oO), (L0 + 1 + 1 + 1, oT), (L0 + 1 + 1, oR), (L0 + 1, oM), (51, tabObj ps1), (44, tabObj ps2)] news)) ?_ ?_ _ _ _ _ (Nat.zero_add _) ?_
    · intro j mm9 news9 hj hJ9 t9 h9 tk9 F11 N11
      refine hold_body fun qK qK' => ?_
      obtain ⟨t4, t5, ep, ek, ea, hsb9⟩ := Stop.at hJ9
      replace N11 : News g0 L0 h9 [(I9, itR (0 + ((j + 1 : Nat) : Int)) ((i : Int) - ((j + 1 : Nat) : Int))), (I8, itR (0 + ((i + 1 : Nat) : Int)) ((m : Int) - ((i + 1 : Nat) : Int))), (DP, LCg.lst ys), (DT, listOf ysT.toArray ysT.length), (DR, listOf ysR.toArray ysR.length), (L0 + 1 + 1 + 1 + 1, oO), (L0 + 1 + 1 + 1, oT), (L0 + 1 + 1, oR), (L0 + 1, oM), (51, tabObj ps1), (44, tabObj ps2)] := fun p hp => N11 p (by
        rcases List.mem_cons.mp hp with rfl | hp
        · exact .head _
        · exact .tail _ (hsb9.mem p hp))
      clear hsb9 hJ9 N10 F10 R10
      have b1 := hPb i (by omega)
      have b2 := hPb j (by omega)
      have hbm : -100000 ≤ P.getD (0 + (i : Int)).toNat 0 - P.getD (0 + (j : Int)).toNat 0 ∧ P.getD (0 + (i : Int)).toNat 0 - P.getD (0 + (j : Int)).toNat 0 ≤ 100000 := by
        rw [show (0 + (i : Int)).toNat = i by omega, show (0 + (j : Int)).toNat = j by omega]; omega
      k_steps
      with_reducible refine Stop.go ?_
      rename Fr _ _ _ _ => F12; rename News _ _ _ _ => N12
      refine UnrEnd.intro3 F12 N12 [(I8, itR (0 + ((i + 1 : Nat) : Int)) ((m : Int) - ((i + 1 : Nat) : Int))), (DP, LCg.lst ys), (DT, listOf ysT.toArray ysT.length), (DR, listOf ysR.toArray ysR.length), (L0 + 1 + 1 + 1 + 1, oO), (L0 + 1 + 1 + 1, oT), (L0 + 1 + 1, oR), (L0 + 1, oM), (51, tabObj ps1), (44, tabObj ps2)] (by k_mem) (by k_subL) (by k_offL) ?_
      have f1 : apB P (apA P i) i (j + 1) = apB P (apA P i) i j * (P.getD (0 + (i : Int)).toNat 0 - P.getD (0 + (j : Int)).toNat 0) := by
        rw [show (0 + (i : Int)).toNat = i by omega, show (0 + (j : Int)).toNat = j by omega]; rfl
      exact Stop.go ⟨_, t5, ep, ek, by rw [f1]; rfl, ⟨by k_mem, by k_mem, by k_mem, by k_mem, by k_mem, by k_mem, by k_mem, by k_mem, by k_mem, by k_mem, trivial⟩⟩
    · intro mm9 news9 hJ9 h9 tk9 F11 N11
      obtain ⟨t4, t5, ep, ek, ea, hsb9⟩ := Stop.at hJ9
      replace N11 : News g0 L0 h9 [(I8, itR (0 + ((i + 1 : Nat) : Int)) ((m : Int) - ((i + 1 : Nat) : Int))), (DP, LCg.lst ys), (DT, listOf ysT.toArray ysT.length), (DR, listOf ysR.toArray ysR.length), (L0 + 1 + 1 + 1 + 1, oO), (L0 + 1 + 1 + 1, oT), (L0 + 1 + 1, oR), (L0 + 1, oM), (51, tabObj ps1), (44, tabObj ps2)] := fun p hp => N11 p (hsb9.mem p hp)
      k_steps
      with_reducible refine Stop.go ?_
      rename Fr _ _ _ _ => F12; rename News _ _ _ _ => N12
      refine UnrEnd.intro3 F12 N12 [(DP, LCg.lst ys), (DT, listOf ysT.toArray ysT.length), (DR, listOf ysR.toArray ysR.length), (L0 + 1 + 1 + 1 + 1, oO), (L0 + 1 + 1 + 1, oT), (L0 + 1 + 1, oR), (L0 + 1, oM), (51, tabObj ps1), (44, tabObj ps2)] (by k_mem) (by k_subL) (by k_offL) ?_
      exact Stop.go ⟨_, ep, ea, ⟨by k_mem, by k_mem, by k_mem, by k_mem, by k_mem, by k_mem, by k_mem, by k_mem, by k_mem, trivial⟩⟩
    · exact Stop.go ⟨_, _, ep, rfl, ea, ⟨by k_mem, by k_mem, by k_mem, by k_mem, by k_mem, by k_mem, by k_mem, by k_mem, by k_mem, by k_mem, trivial⟩⟩
  rotate_left
  · exact Stop.go ⟨_, rfl, rfl, ⟨by k_mem, by k_mem, by k_mem, by k_mem, by k_mem, by k_mem, by k_mem, by k_mem, by k_mem, trivial⟩⟩
  intro mm9 news9 hJ9 h9 tk9 F9 N9
  obtain ⟨t4, ep, ea, hsb9⟩ := Stop.at hJ9
  replace N9 : News g0 L0 h9 [(DP, LCg.lst ys), (DT, listOf ysT.toArray ysT.length), (DR, listOf ysR.toArray ysR.length), (L0 + 1 + 1 + 1 + 1, oO), (L0 + 1 + 1 + 1, oT), (L0 + 1 + 1, oR), (L0 + 1, oM), (51, tabObj ps1), (44, tabObj ps2)] := fun p hp => N9 p (hsb9.mem p hp)
  replace F9 : Fr g0 L0 h9 mm9 := F9
  clear hsb9 hJ9 N8 F8 R8 hsm8 hsz8
  k_steps
  rename Fr _ _ _ _ => F10; with_reducible rename News _ _ _ _ => N10
  refine SrcL.list (fun i' zs' news => RowsIn news zs' ((P.take i').map fun k => (rangeKs 0 m).map fun e => k ^ e.toNat) ∧ ∀ p ∈ [(DP, LCg.lst ys), (DT, listOf ysT.toArray ysT.length), (DR, listOf ysR.toArray ysR.length), (L0 + 1 + 1 + 1 + 1, oO), (L0 + 1 + 1 + 1, oT), (L0 + 1 + 1, oR), (L0 + 1, oM), (51, tabObj ps1), (44, tabObj ps2)], p ∈ news) (fun i' v => ys[i']? = some v) (by rfl) F10 N10 (by k_mem) (by rw [PySem.sizeLine_eq]; omega) (fun _ _ h => h) ⟨.nil, fun _ h => h⟩ (fun _ _ _ h => h.2 _ (.head _)) ?_ ?_
  · clear hret
    unfold EltL
    rintro i5 v5 zs5 news5 D5 own5 I5 oI5 h5 tk5 E5 hi5 hv5 ⟨hz5, hs5⟩ hl5 ⟨oX5, oC5, m5, rfl, dX5, nC5⟩ hLD5 hD5 F5 N5
    simp only [List.cons_append, List.nil_append] at N5 ⊢
    dsimp only [clOf, kOf]
    obtain ⟨k5, t5, rfl, hk5⟩ := IntsAre.at hI8 i5 v5 hv5
    have hk5b : 0 ≤ k5 ∧ k5 ≤ 10 := by
      have hi6 : i5 < P.length := (List.getElem?_eq_some_iff.mp hk5).1
      have := hPb i5 (by omega)
      rw [List.getD_eq_getElem?_getD, hk5, Option.getD_some] at this
      exact this
    have N6 : News _ _ h5 ((D5 + 1 + 1, oX5) :: (D5 + 1, oC5) :: (D5, lst zs5) :: (I5, oI5) :: (L0 + 1, oM) :: news5) := fun p hp => N5 p (by
      rcases List.mem_cons.mp hp with rfl | hp
      · exact .head _
      rcases List.mem_cons.mp hp with rfl | hp
      · exact .tail _ (.head _)
      rcases List.mem_cons.mp hp with rfl | hp
      · exact .tail _ (.tail _ (.head _))
      rcases List.mem_cons.mp hp with rfl | hp
      · exact .tail _ (.tail _ (.tail _ (.head _)))
      rcases List.mem_cons.mp hp with rfl | hp
      · exact .tail _ (.tail _ (.tail _ (.tail _ (hs5 _ (by k_mem)))))
      · exact .tail _ (.tail _ (.tail _ (.tail _ hp))))
    replace hs5 := And.intro trivial hs5
    replace hk5 := And.intro trivial hk5
    clear hD5 hv5
    k_steps
    rename Fr _ _ _ _ => F11; with_reducible rename News _ _ _ _ => N11; rename IsRange _ _ _ _ _ _ _ _ => R11
    refine SrcM.range (g := fun e => k5 ^ e.toNat) (n := m) (by rfl) F11 N11 R11 (sm_one (by omega) (by omega)) (rs_one (by omega)) (by walk_at "my sz") (fun k t C oC m₂ h tk E' hlo hhi hC hx F' N' => ?_) ?_
    · k_steps
    k_steps
    rename_i D7 _ _ w7 F7 N7 l7 hI7
    refine ⟨_, _, _, (D7, listOf w7.toArray w7.length) :: news5, rfl, F7, N7, by walk_at "my sub", ?_, ?_, ?_, ?_⟩
    · intro p hp
      rcases List.mem_cons.mp hp with rfl | hp
      · exact .head _
      · exact .tail _ (.tail _ (.tail _ (.tail _ (.tail _ (.tail _ hp)))))
    · intro p hp
      rcases List.mem_cons.mp hp with rfl | hp
      · exact .inr (by dsimp only; omega)
      · exact .inl hp
    · rw [List.take_add_one, hk5.2, Option.toList_some, List.map_append]
      exact (hz5.mono fun p hp => .tail _ hp).snoc (.head _) hI7
    · exact fun p hp => .tail _ (hs5.2 p hp)
  unfold FinL
  rintro Dm h8 tk8 zs8 news8 ⟨hz8, hs8⟩ hl8 F8 N8 hDm hLDm hoff8
  rw [List.take_of_length_le (by omega)] at hz8
  have hz9 : RowsIn news8 zs8 (vnd m) := by rw [← hP] at hz8; exact hz8
  replace hs8 := And.intro trivial hs8
  clear hz8 hoff8 hDm
  k_steps
  with_reducible refine Stop.go ?_
  refine Ct.useN (signed_ct w m (by omega) Dm zs8 _ (vnd m) news8 hz9 (vnd_ok m (by omega))) (by k_asm) F8 (by k_asm) N8 (by k_asm) c1 codeHd rfl rfl (by walk_at "my room") (by walk_at "my units") (fun p hp => hp) ?_
  rintro r12 ext12 h12 tk12 F12 N12 l12 ⟨rfl, t12, rfl⟩
  simp only [List.nil_append] at N12
  replace N12 : News g0 L0 h12 [(DT, listOf ysT.toArray ysT.length), (DR, listOf ysR.toArray ysR.length), (L0 + 1 + 1 + 1 + 1, oO), (L0 + 1 + 1 + 1, oT), (L0 + 1 + 1, oR), (L0 + 1, oM), (51, tabObj ps1), (44, tabObj ps2)] := fun p hp => N12 p (.tail _ (hs8.2 p (.tail _ hp)))
  rw [vnd_det m (by omega), hP]
  clear l12 hs8 hz9 N8 F8 N10 F10
  k_steps
  · exact absurd rfl (by assumption)
  · with_reducible refine Stop.go ?_
    rename_i DO wsO _ hIO _ _ _ _ _ _ _ _ _ _ _ _ _ _ _ _ k20 t20 _ _ _ _ _ _ _ _ _ _ _ hlo hhi _ _ _ F20 N20 ne20 off20 _ zz
    replace ne20 := Stop.go ne20
    replace off20 := Stop.go off20
    have hO : wrt ([R.getD 0 0 + 1] ++ R.drop 1) k20 ≠ TD.getD k20.toNat 0 := by
      rw [← hTD]
      exact plain_other R m hRl (by omega) (by omega) k20 hlo (by omega)
    have hOl : ([R.getD (Int.toNat 0) 0 + 1] ++ List.drop 1 R).length ≤ 4 := by
      rw [List.length_append, List.length_drop]; simp only [List.length_cons, List.length_nil]; omega
    have hOb : ∀ v ∈ ([R.getD (Int.toNat 0) 0 + 1] ++ List.drop 1 R), -10 ≤ v ∧ v ≤ 10 := by
      intro v hv
      rcases List.mem_append.mp hv with hv | hv
      · rw [List.mem_singleton.mp hv]
        have h1 : 0 < R.length := by omega
        have := hRb R[0] (List.getElem_mem h1)
        rw [show Int.toNat 0 = 0 from rfl, List.getD_eq_getElem?_getD, List.getElem?_eq_getElem h1, Option.getD_some]; omega
      · have := hRb v (List.mem_of_mem_drop hv); omega
    refine Ct.useN (worth_w w DO wsO _ 0 k20 t20 hIO hOl (by omega) hOb) (by k_asm) F20 (by k_asm) N20 (by k_asm) c1 codeHd rfl rfl (by walk_at "my room") (by walk_at "my units") (by walk_at "my sub") ?_
    clear hOl hOb
    rintro r21 ext21 h21 tk21 F21 N21 l21 ⟨rfl, t21, rfl⟩
    simp only [List.nil_append] at N21
    k_steps
    · exact absurd (by assumption) hO
    · replace off20 := Stop.at off20
      refine LCg.CompEnd.intro F21 N21 _ ?_ ?_ trivial (kci_no rfl rfl)
      · walk_at "my sub"
      · simp only [LCg.Off3, and_true]; exact off20
  · rename Fr _ _ _ _ => F22; with_reducible rename News _ _ _ _ => N22
    rw [fold_same]
    exact hret _ _ _ ps1 ps2 F22 fun p hp => N22 p (by revert p; walk_at "my sub")
end

section
open PyProof.Rows.LCg
theorem walk_off_l14226 : True := by
  w_top off
  trivial
local macro_rules | `(tactic| walk_at "no line 0") => `(tactic| fail)
local macro_rules | `(tactic| walk_at "call ref cons nil") => `(tactic| refine Stop.at ?_)
local macro_rules | `(tactic| walk_at "pyIter ref") => `(tactic| refine Stop.at ?_)
local macro_rules | `(tactic| walk_at "eval Name") => `(tactic| (k_here; k_dflt (refine ldX (by k_asm) (by assumption) ?_ rfl rfl rfl (by decide))))
local macro_rules | `(tactic| walk_at "UnrEnd") => `(tactic| refine Stop.at ?_)
local macro_rules | `(tactic| walk_at "exec For Name Call cons nil") => `(tactic| ((with_reducible show wpAny _ _ (exec (Stmt.For (Expr.Name "other" _) _ _ _ _) _) _ _ _); (rename Fr _ _ _ _ => lF'); (with_unfolding_all refine' For_turns lF' ?_); k_whole))
inductive LMI (DF DT DR L0 I : Nat) (ysF ysT ysR : List Value) (kF : Nat) (oT oR oM : Obj) (i : Nat) (mm : Str → Option Value) (news : Led) : Prop
  | mk (oO : Obj) (vO : Option Value) (ob1 ob2 : Obj) (x1 : Addr) (y1 : Obj) (x2 : Addr) (y2 : Obj) (ef : mm "firsts" = some (.ref DF)) (dO : oO.data = .cell vO) (hs : SubL [(DF, listOf ysF.toArray kF), (DT, listOf ysT.toArray ysT.length), (DR, listOf ysR.toArray ysR.length), (L0 + 1 + 1 + 1 + 1, oO), (L0 + 1 + 1 + 1, oT), (L0 + 1 + 1, oR), (L0 + 1, oM), (51, ob1), (x2, y2), (44, ob2), (x1, y1)] news) (ht : ((i = 0 ∧ ob1 = tabObj #[] ∧ ob2 = tabObj #[]) ∨ (1 ≤ i ∧ CodeOf y1 inner1 ∧ CodeOf y2 inner2 ∧ ob1 = tabObj #[rawInt 65, rawInt 4, .ref x2] ∧ ob2 = tabObj #[rawInt 50, rawInt 4, .ref x1] ∧ @LT.lt Nat _ I x1 ∧ @LT.lt Nat _ I x2))) : LMI DF DT DR L0 I ysF ysT ysR kF oT oR oM i mm news
inductive LMJ (DF DT DR L0 I : Nat) (ysF ysT ysR : List Value) (kF : Nat) (oT oR oM : Obj) (R : List Int) (C1 C2 : Addr) (q1 q2 : Obj) (i : Nat) (mm : Str → Option Value) (news : Led) : Prop
  | mk (oO : Obj) (vO : Option Value) (tn tw : Tok) (ef : mm "firsts" = some (.ref DF)) (en : mm "number" = some (.int (0 - 3 + (i : Int)) tn)) (ew : mm "worth" = some (.int (wrt R (0 - 3 + (i : Int))) tw)) (dO : oO.data = .cell vO) (hs : SubL [(I, itR (0 - 3 + ((i + 1 : Nat) : Int)) (((10 : Nat) : Int) - ((i + 1 : Nat) : Int))), (DF, listOf ysF.toArray kF), (DT, listOf ysT.toArray ysT.length), (DR, listOf ysR.toArray ysR.length), (L0 + 1 + 1 + 1 + 1, oO), (L0 + 1 + 1 + 1, oT), (L0 + 1 + 1, oR), (L0 + 1, oM), (51, tabObj #[rawInt 65, rawInt 4, .ref C2]), (C2, q2), (44, tabObj #[rawInt 50, rawInt 4, .ref C1]), (C1, q1)] news) : LMJ DF DT DR L0 I ysF ysT ysR kF oT oR oM R C1 C2 q1 q2 i mm news
theorem law_mid {w : World} {p : Program} {loose : List Str} {mean : ExcName → Option Value} {mg mb : Str → Option Value} {fa : Addr} {cd : Value} {g0 : Heap} {L0 : Nat} {R TD FD : List Int} {m : Nat} {ysT ysR ysF : List Value} {kF : Nat} {DT DR DF : Nat} {o1 oT oR oM : Obj} {tM : Tok} {mm : Str → Option Value} {s1 : Shared} {h5 : Heap} {tk5 : Nat} {Q' : Flow → Shared → Prop} :
    Top p loose mean mg mb g0 → (hd.heap_39 w.params).In g0 → Below callerA g0 [] g0 → CodeHd g0 55 51 → CodeHd g0 48 44 → (51 < L0 ∧ 44 < L0) → (DR < DT ∧ L0 + 1 + 1 + 1 + 1 < DT) → (L0 + 1 + 1 + 1 + 1 < DR) → DT < DF →
    IntsAre ysR R → (∀ v ∈ R, -4 ≤ v ∧ v ≤ 4) → (1 ≤ (m : Int) ∧ (m : Int) ≤ 4) → R.length = m → tdOf R m = TD → TD.length = m + 2 → IntsAre ysT TD → ysR.length = R.length → ysT.length = TD.length →
    newton TD = FD → FD.length = m + 2 → IntsAre ysF FD → ysF.length = FD.length →
    oR.data = .cell (some (.ref DR)) → oT.data = .cell (some (.ref DT)) → oM.data = .cell (some (.int (m : Int) tM)) → o1.data = .cell none → mm "firsts" = some (.ref DF) →
    Fr g0 L0 h5 mm → News g0 L0 h5 [(DF, listOf ysF.toArray kF), (DT, listOf ysT.toArray ysT.length), (DR, listOf ysR.toArray ysR.length), (L0 + 1 + 1 + 1 + 1, o1), (L0 + 1 + 1 + 1, oT), (L0 + 1 + 1, oR), (L0 + 1, oM), (51, tabObj #[]), (44, tabObj #[])] →
    (∀ (h' : Heap) (tk' : Nat) (m' : Str → Option Value) (ps1 ps2 : Array Value), Fr g0 L0 h' m' → News g0 L0 h' [(51, tabObj ps1), (44, tabObj ps2)] → Q' (.ret (.bool true)) { s1 with heap := h', toks := tk' }) →
    ∀ (body : List Stmt), body = lawBody.drop 8 → ∀ sc : Scope, sc = lawScope →
    wpAny (model PySem.Challenge.rw_hr0001_01.row.prog w) (callerA.deeper (envOfC "law" sc L0 fa cd)) (execs body (envOfC "law" sc L0 fa cd)) Q' (fun _ _ => False) { s1 with heap := h5, toks := tk5 } := by
  k_fill
  intro TT KX KB c1 codeHd l0 lT lR l9 hIR hRb hM hRl hTD hTl hIT hyR hyT hFD hFl hIF hyF dR dT dM d1' ef F5 N5 hret body hb sc hs
  conv at hb => rhs; whnf
  conv at hs => rhs; whnf
  subst hb
  subst hs
  k_steps
  with_reducible refine Stop.go ?_
  rename Fr _ _ _ _ => F6; with_reducible rename News _ _ _ _ => N6; rename IsRange _ _ _ _ _ _ _ _ => R6
  have lDT : @LT.lt Nat _ DT DF := l9
  have lRT : @LT.lt Nat _ DR DT := lT.1
  have lDF : L0 + 1 + 1 + 1 + 1 < DF := by omega
  with_unfolding_all refine iter_rangeUnr (n := 10) (by rfl) R6 (by decide) (by decide) F6 N6 ?_
  intro I lI
  k_lt lI
  refine rangeRest_ind (fun i mm news => Stop (LMI DF DT DR L0 I ysF ysT ysR kF oT oR oM i mm news)) ?_ ?_ _ _ _ _ (Nat.zero_add _) ?_
  · clear hret
    intro i mm news hi3 hJ t5 h5 tk5 F5 N5
    refine hold_body fun qJ qJ' => ?_
    obtain ⟨oO, vO, ob1, ob2, x1, y1, x2, y2, ef, dO, hsb, htab⟩ := Stop.at hJ
    replace N5 : News _ _ h5 ((I, itR (0 - 3 + ((i + 1 : Nat) : Int)) (((10 : Nat) : Int) - ((i + 1 : Nat) : Int))) :: [(DF, listOf ysF.toArray kF), (DT, listOf ysT.toArray ysT.length), (DR, listOf ysR.toArray ysR.length), (L0 + 1 + 1 + 1 + 1, oO), (L0 + 1 + 1 + 1, oT), (L0 + 1 + 1, oR), (L0 + 1, oM), (51, ob1), (x2, y2), (44, ob2), (x1, y1)]) := fun p hp => N5 p (by
      rcases List.mem_cons.mp hp with rfl | hp
      · exact .head _
      · exact .tail _ (hsb.mem p hp))
    clear hsb
    k_steps
    with_reducible refine Stop.go ?_
    rename Fr _ _ _ _ => F7; rename News _ _ _ _ => N7
    refine Ct.useN (worth_w w DR ysR R _ _ _ hIR (by omega) (by omega) fun v hv => ⟨by have := hRb v hv; omega, by have := hRb v hv; omega⟩) (by k_asm) F7 (by k_asm) N7 (by k_asm) c1 codeHd rfl rfl (by walk_at "my room") (by walk_at "my units") (by walk_at "my sub") ?_
    rintro r8 ext8 h8 tk8 F8 N8 l8 ⟨rfl, t8, rfl⟩
    simp only [List.nil_append] at N8
    k_steps
    rename_i DS wsS _ _ _ hIS hCS _ lS
    with_reducible refine Stop.go ?_
    rename Fr _ _ _ _ => F9; rename News _ _ _ _ => N9
    have hAI : AllLt I [(DF, listOf ysF.toArray kF), (DT, listOf ysT.toArray ysT.length), (DR, listOf ysR.toArray ysR.length), (L0 + 1 + 1 + 1 + 1, oO), (L0 + 1 + 1 + 1, oT), (L0 + 1 + 1, oR), (L0 + 1, oM)] := ⟨lI.1, lI.2.1, lI.2.2.1, lI.2.2.2.1, lI.2.2.2.2.1, lI.2.2.2.2.2.1, lI.2.2.2.2.2.2.1, trivial⟩
    have hn10 : -3 ≤ (0 - 3 + (i : Int)) ∧ (0 - 3 + (i : Int)) ≤ 6 := by omega
    refine byd_use (kk := 0) ((DS, listOf wsS.toArray 0) :: (I, itR (0 - 3 + ((i + 1 : Nat) : Int)) (((10 : Nat) : Int) - ((i + 1 : Nat) : Int))) :: [(DF, listOf ysF.toArray kF), (DT, listOf ysT.toArray ysT.length), (DR, listOf ysR.toArray ysR.length), (L0 + 1 + 1 + 1 + 1, oO), (L0 + 1 + 1 + 1, oT), (L0 + 1 + 1, oR), (L0 + 1, oM)]) I hIS (by omega) (by omega) hn10 (by k_asm) F9 (by k_asm) N9 (by k_asm) c1 codeHd rfl rfl (by walk_at "my room") (by walk_at "my units") (by k_mem) (by omega) (by walk_at "my sub") ?_ ⟨_, by k_mem⟩ ?_ ?_
    · repeat (refine List.forall_mem_cons.mpr ⟨⟨Nat.ne_of_gt (by (try dsimp only); omega), Nat.ne_of_gt (by (try dsimp only); omega)⟩, ?_⟩)
      exact List.forall_mem_nil _
    · rcases htab with ⟨hi0, rfl, rfl⟩ | ⟨hi0, y1', y2', rfl, rfl, g1, g2⟩
      · exact .inl ⟨by omega, by k_mem, by k_mem, trivial⟩
      · exact .inr ⟨x1, x2, y1, y2, y1', y2', ⟨by k_mem, by k_mem, by k_mem, by k_mem, trivial⟩, g1, g2, List.forall_mem_cons.mpr ⟨⟨Nat.ne_of_gt (by omega), Nat.ne_of_gt (by omega)⟩, List.forall_mem_cons.mpr ⟨⟨Nat.ne_of_lt g1, Nat.ne_of_lt g2⟩, fun p hp => ⟨Nat.ne_of_lt (Nat.lt_trans (allLt_at hAI p hp) g1), Nat.ne_of_lt (Nat.lt_trans (allLt_at hAI p hp) g2)⟩⟩⟩⟩
    clear N7 N8 N9 F7 F9
    intro tw9 C1 C2 q1 q2 h9 tk9 F9 N9 lC1 lC2 y1' y2'
    simp only [TabExt, List.cons_append, List.nil_append] at N9
    have hw9 : wsum (0 - 3 + (i : Int)) 0 (List.take m FD) = wrt R (0 - 3 + (i : Int)) := by
      rw [← hFD, ← hTD]; exact plain_newton R m hRl (by omega) (by omega) _ hn10
    rw [hw9]
    k_steps
    · exact absurd rfl (by assumption)
    rename_i DP wsP _ _ _ hIP hCP _ lP
    with_reducible refine Stop.go ?_
    rename Fr _ _ _ _ => F11; rename News _ _ _ _ => N11
    have hPl : (List.take m TD).length = m := by omega
    refine CtM.useN (by_products_ct w C1 C2 DP 0 _ _ wsP _ hIP (by omega) (by omega) hn10 (wrt R (0 - 3 + (i : Int))) (by rw [hPl, ← hTD]; exact plain_lagrange R m hRl (by omega) (by omega) _ hn10) (by have := plain_bound R m hRl (by omega) (by omega) hRb _ hn10; omega)) (by k_asm) F11 (by k_asm) N11 (by k_asm) c1 codeHd
      (TabMade.of_ext (o1 := q1) (o2 := q2) (fun p hp => N11 p (by revert p; unfold TabExt; walk_at "my sub")) y1' y2') rfl rfl (by walk_at "my room") (by walk_at "my units") (by walk_at "my sub") ?_
    rintro r12 ext12 h12 tk12 F12 N12 l12 ⟨rfl, t12, rfl⟩
    simp only [List.nil_append] at N12
    clear F11 N11 l12
    k_steps
    · exact absurd rfl (by assumption)
    with_reducible refine Stop.go ?_
    rename Fr _ _ _ _ => F13; rename News _ _ _ _ => N13; rename IsRange _ _ _ _ _ _ _ _ => R13
    have hszI : Builtin.Range.rangeSize (0 - 3) (0 - 3 + (i : Int)) 1 = ((i : Nat) : Int) := rs_one (by omega)
    have hsmI : Builtin.Range.small (0 - 3) (0 - 3 + (i : Int)) 1 = true := sm_one (by omega) (by omega)
    refine iter_rangeT (n := i) (fun j mm news => Stop (LMJ DF DT DR L0 I ysF ysT ysR kF oT oR oM R C1 C2 q1 q2 i mm news)) (by rfl) R13 hsmI hszI F13 N13 ?_ ?_ ?_
    · exact Stop.go ⟨oO, vO, _, _, ef, rfl, rfl, dO, ⟨by k_mem, by k_mem, by k_mem, by k_mem, by k_mem, by k_mem, by k_mem, by k_mem, by k_mem, by k_mem, by k_mem, by k_mem, trivial⟩⟩
    · clear F13 N13 R13 hszI hsmI
      intro I3 lI3 j mm3 news3 hj hJ3 t14 h14 tk14 F14 N14
      k_lt lI3
      obtain ⟨oO3, vO3, tn, tw, ef3, en3, ew3, dO3, hsb3⟩ := Stop.at hJ3
      replace N14 : News _ _ h14 [(I3, itR (0 - 3 + ((j + 1 : Nat) : Int)) ((i : Int) - ((j + 1 : Nat) : Int))), (I, itR (0 - 3 + ((i + 1 : Nat) : Int)) (((10 : Nat) : Int) - ((i + 1 : Nat) : Int))), (DF, listOf ysF.toArray kF), (DT, listOf ysT.toArray ysT.length), (DR, listOf ysR.toArray ysR.length), (L0 + 1 + 1 + 1 + 1, oO3), (L0 + 1 + 1 + 1, oT), (L0 + 1 + 1, oR), (L0 + 1, oM), (51, tabObj #[rawInt 65, rawInt 4, .ref C2]), (C2, q2), (44, tabObj #[rawInt 50, rawInt 4, .ref C1]), (C1, q1)] := fun p hp => N14 p (by
        rcases List.mem_cons.mp hp with rfl | hp
        · exact .head _
        · exact .tail _ (hsb3.mem p hp))
      clear hsb3 hJ3
      have hdv := plain_div R m hRl (by omega) (by omega) (0 - 3 + (i : Int)) (0 - 3 + (j : Int)) (by omega)
      k_steps
      with_reducible refine Stop.go ?_
      rename_i oO4 F15 N15 dO4
      refine Ct.useN (worth_w w DR ysR R _ _ _ hIR (by omega) (by omega) fun v hv => ⟨by have := hRb v hv; omega, by have := hRb v hv; omega⟩) (by k_asm) F15 (by k_asm) N15 (by k_asm) c1 codeHd rfl rfl (by walk_at "my room") (by walk_at "my units") (by walk_at "my sub") ?_
      rintro r16 ext16 h16 tk16 F16 N16 l16 ⟨rfl, t16, rfl⟩
      simp only [List.nil_append] at N16
      k_steps
      · exact absurd hdv (by assumption)
      with_reducible refine Stop.go ?_
      rename Fr _ _ _ _ => F17; rename News _ _ _ _ => N17
      refine UnrEnd.intro3 F17 N17 [(I, itR (0 - 3 + ((i + 1 : Nat) : Int)) (((10 : Nat) : Int) - ((i + 1 : Nat) : Int))), (DF, listOf ysF.toArray kF), (DT, listOf ysT.toArray ysT.length), (DR, listOf ysR.toArray ysR.length), (L0 + 1 + 1 + 1 + 1, oO4), (L0 + 1 + 1 + 1, oT), (L0 + 1 + 1, oR), (L0 + 1, oM), (51, tabObj #[rawInt 65, rawInt 4, .ref C2]), (C2, q2), (44, tabObj #[rawInt 50, rawInt 4, .ref C1]), (C1, q1)] (by k_mem) (by k_subL) (by k_offL) ?_
      exact Stop.go ⟨oO4, _, tn, tw, ef3, en3, ew3, dO4, ⟨by k_mem, by k_mem, by k_mem, by k_mem, by k_mem, by k_mem, by k_mem, by k_mem, by k_mem, by k_mem, by k_mem, by k_mem, trivial⟩⟩
    · intro mm3 news3 hJ3 h14 tk14 F14 N14
      obtain ⟨oO3, vO3, tn, tw, ef3, en3, ew3, dO3, hsb3⟩ := Stop.at hJ3
      replace N14 : News _ _ h14 [(I, itR (0 - 3 + ((i + 1 : Nat) : Int)) (((10 : Nat) : Int) - ((i + 1 : Nat) : Int))), (DF, listOf ysF.toArray kF), (DT, listOf ysT.toArray ysT.length), (DR, listOf ysR.toArray ysR.length), (L0 + 1 + 1 + 1 + 1, oO3), (L0 + 1 + 1 + 1, oT), (L0 + 1 + 1, oR), (L0 + 1, oM), (51, tabObj #[rawInt 65, rawInt 4, .ref C2]), (C2, q2), (44, tabObj #[rawInt 50, rawInt 4, .ref C1]), (C1, q1)] := fun p hp => N14 p (hsb3.mem p hp)
      k_steps
      with_reducible refine Stop.go ?_
      rename Fr _ _ _ _ => F15; rename News _ _ _ _ => N15
      refine UnrEnd.intro3 F15 N15 [(DF, listOf ysF.toArray kF), (DT, listOf ysT.toArray ysT.length), (DR, listOf ysR.toArray ysR.length), (L0 + 1 + 1 + 1 + 1, oO3), (L0 + 1 + 1 + 1, oT), (L0 + 1 + 1, oR), (L0 + 1, oM), (51, tabObj #[rawInt 65, rawInt 4, .ref C2]), (C2, q2), (44, tabObj #[rawInt 50, rawInt 4, .ref C1]), (C1, q1)] (by k_mem) (by k_subL) (by k_offL) ?_
      exact Stop.go ⟨oO3, vO3, _, _, C1, q1, C2, q2, ef3, dO3, ⟨by k_mem, by k_mem, by k_mem, by k_mem, by k_mem, by k_mem, by k_mem, by k_mem, by k_mem, by k_mem, by k_mem, trivial⟩, .inr ⟨by omega, y1', y2', rfl, rfl, lC1, lC2⟩⟩
  rotate_left
  · exact Stop.go ⟨o1, none, tabObj #[], tabObj #[], 44, tabObj #[], 51, tabObj #[], ef, d1', ⟨by k_mem, by k_mem, by k_mem, by k_mem, by k_mem, by k_mem, by k_mem, by k_mem, by k_mem, by k_mem, by k_mem, trivial⟩, .inl ⟨rfl, rfl, rfl⟩⟩
  intro mm9 news9 hJ9 h9 tk9 F9 N9
  obtain ⟨oO, vO, ob1, ob2, x1, y1, x2, y2, ef, dO, hsb, htab⟩ := Stop.at hJ9
  obtain ⟨ps1, ps2, rfl, rfl⟩ : ∃ ps1 ps2, ob1 = tabObj ps1 ∧ ob2 = tabObj ps2 := by
    rcases htab with ⟨_, e1, e2⟩ | ⟨_, _, _, e1, e2, _⟩
    · exact ⟨_, _, e1, e2⟩
    · exact ⟨_, _, e1, e2⟩
  replace N9 : News g0 L0 h9 [(DT, listOf ysT.toArray ysT.length), (DR, listOf ysR.toArray ysR.length), (L0 + 1 + 1 + 1 + 1, oO), (L0 + 1 + 1 + 1, oT), (L0 + 1 + 1, oR), (L0 + 1, oM), (51, tabObj ps1), (44, tabObj ps2)] := fun p hp => N9 p (hsb.mem p (by revert p; walk_at "my sub"))
  exact law_tail TT KX KB c1 codeHd l0 lT lR hIR hRb hM hRl hTD hTl hIT hyR hyT dR dT dM dO F9 N9 hret _ rfl _ rfl
end

section
open PyProof.Rows.LCg
theorem walk_off_l6583 : True := by
  w_top off
  trivial
local macro_rules | `(tactic| walk_at "no line 0") => `(tactic| fail)
local macro_rules | `(tactic| walk_at "no line 1") => `(tactic| fail)
local macro_rules | `(tactic| walk_at "call ref cons nil") => `(tactic| refine Stop.at ?_)
local macro_rules | `(tactic| walk_at "pyIter ref") => `(tactic| refine Stop.at ?_)
local macro_rules | `(tactic| walk_at "eval Name") => `(tactic| (k_here; k_dflt (refine ldX (by k_asm) (by assumption) ?_ rfl rfl rfl (by decide))))
local macro_rules | `(tactic| walk_at "UnrEnd") => `(tactic| refine Stop.at ?_)
local macro_rules | `(tactic| walk_at "execs cons For cons") => `(tactic| ((with_reducible show wpAny _ _ (execs (Stmt.For (Expr.Name "number" _) _ _ _ _ :: _) _) _ _ _); refine Stop.at ?_))
theorem law_b {w : World} {p : Program} {loose : List Str} {mean : ExcName → Option Value} {mg mb : Str → Option Value} {fa la : Addr} {cd : Value} {g0 : Heap} {L0 : Nat} {R : List Int} {m : Nat} {ysT ysR : List Value} {DT DR : Nat} {o1 oT oR oM : Obj} {tM : Tok} {s1 : Shared} {h5 : Heap} {tk5 : Nat} {Q' : Flow → Shared → Prop} :
    Top p loose mean mg mb g0 → (hd.heap_39 w.params).In g0 → Below callerA g0 [] g0 → CodeHd g0 55 51 → CodeHd g0 48 44 → (51 < L0 ∧ 44 < L0) → (DR < DT ∧ L0 + 1 + 1 + 1 + 1 < DT) → (L0 + 1 + 1 + 1 + 1 < DR) →
    IntsAre ysR R → (∀ v ∈ R, -4 ≤ v ∧ v ≤ 4) → (1 ≤ (m : Int) ∧ (m : Int) ≤ 4) → R.length = m → IntsAre ysT (tdOf R m) →
    oR.data = .cell (some (.ref DR)) → oT.data = .cell (some (.ref DT)) → oM.data = .cell (some (.int (m : Int) tM)) → o1.data = .cell none →
    Fr g0 L0 h5 (fun y => if y = "script" then some (.ref la) else none) → News g0 L0 h5 [(DT, listOf ysT.toArray ysT.length), (DR, listOf ysR.toArray ysR.length), (L0 + 1 + 1 + 1 + 1, o1), (L0 + 1 + 1 + 1, oT), (L0 + 1 + 1, oR), (L0 + 1, oM), (51, tabObj #[]), (44, tabObj #[])] →
    (∀ (h' : Heap) (tk' : Nat) (m' : Str → Option Value) (ps1 ps2 : Array Value), Fr g0 L0 h' m' → News g0 L0 h' [(51, tabObj ps1), (44, tabObj ps2)] → Q' (.ret (.bool true)) { s1 with heap := h', toks := tk' }) →
    ∀ (body : List Stmt), body = lawBody.drop 3 → ∀ sc : Scope, sc = lawScope →
    wpAny (model PySem.Challenge.rw_hr0001_01.row.prog w) (callerA.deeper (envOfC "law" sc L0 fa cd)) (execs body (envOfC "law" sc L0 fa cd)) Q' (fun _ _ => False) { s1 with heap := h5, toks := tk5 } := by
  k_fill
  intro TT KX KB c1 codeHd l0 lT lR hIR hRb hM hRl hIT dR dT dM2 d1' F5 N5 hret body hb sc hs
  conv at hb => rhs; whnf
  conv at hs => rhs; whnf
  subst hb
  subst hs
  k_steps
  with_reducible refine Stop.go ?_
  rename Fr _ _ _ _ => F5
  have hTl : (tdOf R m).length = m + 2 := by rw [tdOf, List.length_map, rangeKs_length]
  have hFl : (newton (tdOf R m)).length = m + 2 := newton_length _ _ hTl
  have hdrop := plain_drop R m hRl (by omega) (by omega)
  have hlast := plain_last R m hRl (by omega) (by omega)
  have hyT := hIT.length
  have hyR := hIR.length
  generalize hTD : tdOf R m = TD at *
  refine Ct.useN (differences_ct w DT ysT TD _ hIT (by omega)) (by k_asm) F5 (by k_asm) N5 (by k_asm) c1 codeHd rfl rfl (by walk_at "my room") (by walk_at "my units") (by walk_at "my sub") ?_
  rintro r9 ext h9 tk9 F9 N9 l9 ⟨DF, ysF, kF, rfl, rfl, hIF⟩
  simp only [List.cons_append, List.nil_append] at N9
  replace l9 := (l9 _ (.head _)).2
  simp only [AllLt, and_true] at l9
  replace l9 : DT < DF := l9.1
  have hyF := hIF.length
  generalize hFD : newton TD = FD at *
  k_steps
  rename News _ _ _ _ => N1
  replace N1 : News _ _ _ [(DF, listOf ysF.toArray kF), (DT, listOf ysT.toArray ysT.length), (DR, listOf ysR.toArray ysR.length), (L0 + 1 + 1 + 1 + 1, o1), (L0 + 1 + 1 + 1, oT), (L0 + 1 + 1, oR), (L0 + 1, oM), (51, tabObj #[]), (44, tabObj #[])] := fun p hp => N1 p (by revert p; walk_at "my sub")
  replace l9 : DT < DF := l9
  with_reducible refine Stop.go ?_
  rename Fr _ _ _ _ => F1; rename IsRange _ _ _ _ _ _ _ _ => R1
  have hsz : Builtin.Range.rangeSize 1 (m : Int) 1 = ((m - 1 : Nat) : Int) := rs_one (by omega)
  have hsm : Builtin.Range.small 1 (m : Int) 1 = true := sm_one (by omega) (by omega)
  with_unfolding_all refine iter_rangeUnr (n := m - 1) (by rfl) R1 hsm hsz F1 N1 ?_
  intro I lI
  k_lt lI
  refine rangeRest_ind (fun i mm news => Stop (∃ t4, mm "firsts" = some (.ref DF) ∧ mm "product" = some (.int (fct i) t4) ∧ SubL [(DF, listOf ysF.toArray kF), (DT, listOf ysT.toArray ysT.length), (DR, listOf ysR.toArray ysR.length), (L0 + 1 + 1 + 1 + 1, o1), (L0 + 1 + 1 + 1, oT), (L0 + 1 + 1, oR), (L0 + 1, oM), (51, tabObj #[]), (44, tabObj #[])] news)) ?_ ?_ _ _ _ _ (Nat.zero_add _) ?_
  · intro i mm news hi3 hJ t5 h5 tk5 F5 N5
    refine hold_body fun qJ qJ' => ?_
    obtain ⟨t4, ef, ep, hsb⟩ := Stop.at hJ
    replace N5 : News _ _ h5 ((I, itR (1 + ((i + 1 : Nat) : Int)) (((m - 1 : Nat) : Int) - ((i + 1 : Nat) : Int))) :: [(DF, listOf ysF.toArray kF), (DT, listOf ysT.toArray ysT.length), (DR, listOf ysR.toArray ysR.length), (L0 + 1 + 1 + 1 + 1, o1), (L0 + 1 + 1 + 1, oT), (L0 + 1 + 1, oR), (L0 + 1, oM), (51, tabObj #[]), (44, tabObj #[])]) := fun p hp => N5 p (by
      rcases List.mem_cons.mp hp with rfl | hp
      · exact .head _
      · exact .tail _ (hsb.mem p hp))
    k_steps
    with_reducible refine Stop.go ?_
    rename Fr _ _ _ _ => F9; rename News _ _ _ _ => N9
    refine UnrEnd.intro3 F9 N9 [(DF, listOf ysF.toArray kF), (DT, listOf ysT.toArray ysT.length), (DR, listOf ysR.toArray ysR.length), (L0 + 1 + 1 + 1 + 1, o1), (L0 + 1 + 1 + 1, oT), (L0 + 1 + 1, oR), (L0 + 1, oM), (51, tabObj #[]), (44, tabObj #[])] (by k_mem) (by k_subL) (by k_offL) ?_
    exact Stop.go ⟨_, ef, rfl, ⟨by k_mem, by k_mem, by k_mem, by k_mem, by k_mem, by k_mem, by k_mem, by k_mem, by k_mem, trivial⟩⟩
  rotate_left
  · exact Stop.go ⟨_, rfl, rfl, ⟨by k_mem, by k_mem, by k_mem, by k_mem, by k_mem, by k_mem, by k_mem, by k_mem, by k_mem, trivial⟩⟩
  intro mm news hJ h5 tk5 F5 N5
  obtain ⟨t4, ef, ep, hsb⟩ := Stop.at hJ
  replace N5 : News _ _ h5 [(DF, listOf ysF.toArray kF), (DT, listOf ysT.toArray ysT.length), (DR, listOf ysR.toArray ysR.length), (L0 + 1 + 1 + 1 + 1, o1), (L0 + 1 + 1 + 1, oT), (L0 + 1 + 1, oR), (L0 + 1, oM), (51, tabObj #[]), (44, tabObj #[])] := fun p hp => N5 p (hsb.mem p hp)
  clear F1 N1 R1 hJ lI
  have hct := fct_bnd (m - 1) (by omega)
  have hlast' : FD.getD ((m : Int) - 1).toNat 0 = fct (m - 1) * R.getD (-1 + (R.length : Int)).toNat 0 := by
    rw [show ((m : Int) - 1).toNat = m - 1 by omega, show (-1 + (R.length : Int)).toNat = m - 1 by omega]; exact hlast
  k_steps
  · exact absurd hlast' (by assumption)
  with_reducible refine Stop.go ?_
  replace F5 : Fr g0 L0 h5 mm := F5
  exact law_mid TT KX KB c1 codeHd l0 lT lR l9 hIR hRb hM hRl hTD hTl hIT hyR hyT hFD hFl hIF hyF dR dT dM2 d1' ef F5 N5 hret _ rfl _ rfl
end

section
open PyProof.Rows.LCg
theorem walk_off_l5398 : True := by
  w_top off
  trivial
local macro_rules | `(tactic| walk_at "call ref cons nil") => `(tactic| refine Stop.at ?_)
local macro_rules | `(tactic| walk_at "pyIter ref") => `(tactic| refine Stop.at ?_)
local macro_rules | `(tactic| walk_at "execs cons Assign cons") => `(tactic| ((with_reducible show wpAny _ _ (execs (Stmt.Assign [Expr.Name "firsts" _] _ _ :: _) _) _ _ _); refine Stop.at ?_))
theorem fmod4 (a : Int) : 1 ≤ 1 + a.fmod 4 ∧ 1 + a.fmod 4 ≤ 4 := by
  have h0 := Int.fmod_nonneg_of_pos a (show (0 : Int) < 4 by decide)
  have h1 := Int.fmod_lt_of_pos a (show (0 : Int) < 4 by decide)
  omega
theorem fmod9 (a : Int) : -4 ≤ a.fmod 9 - 4 ∧ a.fmod 9 - 4 ≤ 4 := by
  have h0 := Int.fmod_nonneg_of_pos a (show (0 : Int) < 9 by decide)
  have h1 := Int.fmod_lt_of_pos a (show (0 : Int) < 9 by decide)
  omega
theorem law_a {w : World} {p : Program} {loose : List Str} {mean : ExcName → Option Value} {mg mb : Str → Option Value} {fa la : Addr} {cd : Value} {g0 : Heap} {L0 : Nat} {ns : List Int} {vs : List Value} {o1 o2 o3 o4 : Obj} {s1 : Shared} {h1 : Heap} {tk1 : Nat} {Q' : Flow → Shared → Prop} :
    Top p loose mean mg mb g0 → (hd.heap_39 w.params).In g0 → Below callerA g0 [] g0 → CodeHd g0 55 51 → CodeHd g0 48 44 → (51 < L0 ∧ 44 < L0) → g0.IsList la vs.toArray → IntsAre vs ns → ns.length ≤ 63 →
    o1.data = .cell none → o2.data = .cell none → o3.data = .cell none → o4.data = .cell none →
    Fr g0 L0 h1 (fun y => if y = "script" then some (.ref la) else none) → News g0 L0 h1 [(L0 + 1 + 1 + 1 + 1, o1), (L0 + 1 + 1 + 1, o2), (L0 + 1 + 1, o3), (L0 + 1, o4), (51, tabObj #[]), (44, tabObj #[])] →
    (∀ (h' : Heap) (tk' : Nat) (m' : Str → Option Value) (ps1 ps2 : Array Value), Fr g0 L0 h' m' → News g0 L0 h' [(51, tabObj ps1), (44, tabObj ps2)] → Q' (.ret (.bool true)) { s1 with heap := h', toks := tk' }) →
    ∀ (body : List Stmt), body = lawBody → ∀ sc : Scope, sc = lawScope →
    wpAny (model PySem.Challenge.rw_hr0001_01.row.prog w) (callerA.deeper (envOfC "law" sc L0 fa cd)) (execs body (envOfC "law" sc L0 fa cd)) Q' (fun _ _ => False) { s1 with heap := h1, toks := tk1 } := by
  k_fill
  intro TT KX KB c1 codeHd l0 lifted hI hlen d1' d2' d3' d4' F0 N0 hret body hb sc hs
  conv at hb => rhs; whnf
  conv at hs => rhs; whnf
  subst hb
  subst hs
  k_steps
  have hM := fmod4 ns.sum
  generalize 1 + ns.sum.fmod 4 = M at *
  rename News _ _ _ _ => N1
  rename Fr _ _ _ _ => F1
  rename IntsAre _ (List.take _ _) => hI1
  rename List.length _ = _ => hC1
  rename List.length _ ≤ _ => hC2
  have hR0 : (List.take M.toNat (ns ++ (List.replicate 4 [(0 : Int)]).flatten)).length = M.toNat := by
    rw [List.length_take, List.length_append]
    have : ((List.replicate 4 [(0 : Int)]).flatten).length = 4 := by decide
    omega
  clear hC1 hC2
  generalize List.take M.toNat (ns ++ (List.replicate 4 [(0 : Int)]).flatten) = R0 at *
  rename_i D2 vs0 _ _ _
  replace N1 : News _ _ _ [(D2, listOf vs0.toArray 0), (L0 + 1 + 1 + 1 + 1, o1), (L0 + 1 + 1 + 1, o2), (L0 + 1 + 1, o3), (L0 + 1, _), (51, tabObj #[]), (44, tabObj #[])] := fun p hp => N1 p (by revert p; walk_at "my sub")
  rename_i lD2 dM
  refine SrcM.list (ks := R0) (g := fun k => k.fmod 9 - 4) (by rfl) F1 N1 (by is_list) hI1 (by rw [PySem.sizeLine_eq]; omega) (fun k t C oC m₂ h tk E' hk hC hx F' N' => ?_) ?_
  · k_steps
  k_steps
  rename_i oM _ _ _ _ _ _ _ _ _ _ _ _ _ _ _ _ _ _ _ DR _ _ ysR hIR lR _ oR F3 N3 dR _ _ _ _ _ _ _ _ kp4
  rename Fr _ _ _ _ => F4; rename News _ _ _ _ => N4; rename IsRange _ _ _ _ _ _ _ _ => IR4
  have hRl : (List.map (fun k : Int => k.fmod 9 - 4) R0).length = M.toNat := by rw [List.length_map, hR0]
  have hRb : ∀ v ∈ List.map (fun k : Int => k.fmod 9 - 4) R0, -4 ≤ v ∧ v ≤ 4 := fun v hv => by
    obtain ⟨k, _, rfl⟩ := List.mem_map.mp hv
    exact fmod9 k
  generalize List.map (fun k : Int => k.fmod 9 - 4) R0 = R at *
  clear hR0
  obtain ⟨m, rfl⟩ : ∃ m : Nat, M = (m : Int) := ⟨M.toNat, by omega⟩
  rw [Int.toNat_natCast] at hRl
  refine SrcM.range (g := fun k => wrt R k) (n := m + 2) (by rfl) F4 N4 IR4 (sm_one (by omega) (by omega)) (rs_one (by omega)) (by walk_at "my sz") (fun k t C oC m₂ h tk E' hlo hhi hC hx F' N' => ?_) ?_
  · k_steps
    with_reducible refine Stop.go ?_
    refine Ct.useK (worth_ct w DR ysR R _ k t hIR (by omega) (by omega) fun v hv => ⟨by have := hRb v hv; omega, by have := hRb v hv; omega⟩) (by k_asm) F' (by k_asm) N' (by k_asm) c1 codeHd rfl rfl (by walk_at "my room") (by walk_at "my units") (by walk_at "my sub") ?_
    rintro r9 ext h9 tk9 F9 N9 l9 kp9 ⟨rfl, t9, rfl⟩
    exact ElEnd.intro rfl kp9
  k_steps
  rename_i DT _ _ ysT hIT lT _ oT F5 N5 dT
  replace N5 : News _ _ _ [(DT, listOf ysT.toArray ysT.length), (DR, listOf ysR.toArray ysR.length), (L0 + 1 + 1 + 1 + 1, o1), (L0 + 1 + 1 + 1, oT), (L0 + 1 + 1, oR), (L0 + 1, oM), (51, tabObj #[]), (44, tabObj #[])] := fun p hp => N5 p (by revert p; walk_at "my sub")
  replace lT : DR < DT ∧ L0 + 1 + 1 + 1 + 1 < DT := ⟨lT.1, lT.2.2.1⟩
  replace lR : L0 + 1 + 1 + 1 + 1 < DR := lR.2.1
  (try clear lD2); (try clear kp4); (try clear IR4); (try clear F0 N0); (try clear d2'); (try clear d3'); (try clear d4'); (try clear hI1); (try clear hI); (try clear hL); (try clear lifted); (try clear hlen)
  with_reducible refine Stop.go ?_
  obtain ⟨tM, dM2⟩ : ∃ tM, oM.data = .cell (some (.int (m : Int) tM)) := ⟨_, dM⟩
  exact law_b TT KX KB c1 codeHd l0 lT lR hIR hRb hM hRl hIT dR dT dM2 d1' F5 N5 hret _ rfl _ rfl
end

section
open PyProof.Rows.LCg
theorem walk_off_l1610 : True := by
  w_top off
  trivial
theorem law_end {M : Model} {A : Around} {tr : Sem Flow} {Q : Flow → Shared → Prop} {E : Value → Shared → Prop} {s : Shared} {g0 : Heap} {L : Addr}
    (hq : ∀ (h' : Heap) (tk' : Nat) (m' : Str → Option Value) (ps1 ps2 : Array Value), Fr g0 L h' m' → News g0 L h' [(51, tabObj ps1), (44, tabObj ps2)] → Q (.ret (.bool true)) { s with heap := h', toks := tk' })
    (h : ∀ (Q' : Flow → Shared → Prop), (∀ (h' : Heap) (tk' : Nat) (m' : Str → Option Value) (ps1 ps2 : Array Value), Fr g0 L h' m' → News g0 L h' [(51, tabObj ps1), (44, tabObj ps2)] → Q' (.ret (.bool true)) { s with heap := h', toks := tk' }) → wpAny M A tr Q' (fun _ _ => False) s) : wpAny M A tr Q E s := wpAny_mono (h Q hq) (fun _ _ x => x) fun _ _ x => x.elim
theorem law_holds : PySem.Challenge.rw_hr0001_01.Holds := by
  refine hd ?_
  k_go0
  rename_i w s0 s1 mg mb G Y fa o pm cd doc ho hcd hg X V T B TE TW ns hs hlay0 hL0 hr0 hl2 w1 w2 la vs w3 hL ra wl r0 hI hr1 hlen htr hD h1 tk1 o1 o2 o3 o4 d1 d2 d3 d4 X0 KX TT KB FF c1 NN l0
  have d1' : o1.data = .cell none := d1
  have d2' : o2.data = .cell none := d2
  have d3' : o3.data = .cell none := d3
  have d4' : o4.data = .cell none := d4
  have FF' : Fr (ghostOf s1.heap [(55, 51), (48, 44)]) s1.heap.objs.size h1 (fun y => if y = "script" then some (.ref la) else none) := FF
  clear d1 d2 d3 d4 FF
  refine law_end (g0 := ghostOf s1.heap [(55, 51), (48, 44)]) (L := s1.heap.objs.size) ?_ ?_
  · clear NN FF'
    intro h' tk' m' ps1 ps2 F' N'
    dsimp only
    k_steps
  intro Q' hret
  exact law_a TT KX KB c1 codeHd l0 lifted hI (by omega) d1' d2' d3' d4' FF' NN hret _ rfl _ rfl
end

end Mine

theorem PySem.Challenge.cw_hr0001_01_holds : PySem.Challenge.rw_hr0001_01.Holds :=
  Mine.law_holds
