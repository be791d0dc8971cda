import PyProof.Rows.All
import Wide.All
import OpenK.AllK
import Wide.FinOn
import Lean
import PySem.Challenge.RW_pu0001_02
set_option Elab.async false
namespace Mine
section
open PySem PySem.W PyProof.Rows
set_option Elab.async false
set_option maxRecDepth 100000
set_option maxHeartbeats 8000000
open_top hd02 for PySem.Challenge.rw_pu0001_02
end
section
open PySem PySem.W PyProof.Rows PySem.Calls PySem.Spec
abbrev Led := List (Addr × Obj)
abbrev cxA (hd : Option Value) (dp un : Nat) (gd : Option (List Code)) (env : Env) (outer : List Env) : Around := { handled := hd, depth := dp, frames := some (env :: outer), guards := gd, units := un }
def flowVal : Flow → Value
  | .ret v => v
  | _ => .none
/-- how a def's body ends: it hands back a value, the frame's ground stands, the ledger is told -/
def RetPost (g : Heap) (L : Addr) (s : Shared) (Ret : Value → Led → Prop) (f : Flow) (s' : Shared) : Prop :=
  ∃ m' news' h' tk', s' = { s with heap := h', toks := tk' } ∧ Fr g L h' m' ∧ News g L h' news' ∧ Ret (flowVal f) news'
theorem retPost {g : Heap} {L : Addr} {s : Shared} {Ret : Value → Led → Prop} {v : Value} {h' : Heap} {tk' : Nat} {m' : Str → Option Value} {news' : Led} (F : Fr g L h' m') (N : News g L h' news') (R : Ret v news') :
    RetPost g L s Ret (.ret v) { s with heap := h', toks := tk' } := ⟨m', news', h', tk', rfl, F, N, R⟩
theorem nwSub {h₀ h : Heap} {L : Addr} {n n' : Led} (N : News h₀ L h n) (hs : ∀ p ∈ n', p ∈ n) : News h₀ L h n' := fun p hp => N p (hs p hp)
theorem nwL {h₀ h : Heap} {L : Addr} {n n' : Led} (N : News h₀ L h (n ++ n')) : News h₀ L h n := fun p hp => N p (List.mem_append_left _ hp)
theorem nwR {h₀ h : Heap} {L : Addr} {n n' : Led} (N : News h₀ L h (n ++ n')) : News h₀ L h n' := fun p hp => N p (List.mem_append_right _ hp)
theorem nwApp {h₀ h : Heap} {L : Addr} {n n' : Led} (N : News h₀ L h n) (N' : News h₀ L h n') : News h₀ L h (n ++ n') := fun p hp => (List.mem_append.mp hp).elim (N p) (N' p)
section
variable (prog : Program) (w : World) (K : Frag) (p : Program) (loose : List Str)
/-- a call that hands back: touch is what it may change, ro what it reads, the rest stays -/
def CallsTo (hd : Option Value) (room : Nat) (f : Addr) (vs : List Value) (touch ro : Led) (Ret : Value → Led → Prop) : Prop :=
  ∀ (mean : ExcName → Option Value) (mg mb : Str → Option Value) (dp un : Nat) (gd : Option (List Code)) (env : Env) (outer : List Env) (A₀ : Around) (base h₀ : Heap) (L : Addr) (m : Str → Option Value) (s : Shared) (Q E : Value → Shared → Prop) (rest : Led),
    Below A₀ base outer h₀ → Fr h₀ L s.heap m → K.In h₀ → News h₀ L s.heap (touch ++ rest) → (∀ p ∈ touch, ∀ q ∈ rest, p.1 ≠ q.1) → (∀ q ∈ ro, s.heap.get? q.1 = some q.2 ∧ ∀ p ∈ touch, p.1 ≠ q.1) →
    Top p loose mean mg mb h₀ → env.frame = some L → env.scope.kind = .function → dp + room < recursionLimit →
    (∀ v news' h' tk', Ret v news' → Fr h₀ L h' m → News h₀ L h' (news' ++ rest) → (∀ p ∈ news', ∀ q ∈ rest, p.1 ≠ q.1) → Q v { s with heap := h', toks := tk' }) →
    wpAny (model prog w) (cxA hd dp un gd env outer) (call (.ref f) vs) Q E s
def BodyTo (hd : Option Value) (room : Nat) (qual : Str) (scope : Scope) (f : Addr) (cdv : Value) (body : List Stmt) (m : Str → Option Value) (touch ro : Led) (Ret : Value → Led → Prop) : Prop :=
  ∀ (mean : ExcName → Option Value) (mg mb : Str → Option Value) (dp un : Nat) (gd : Option (List Code)) (outer : List Env) (A₀ : Around) (base g : Heap) (L : Addr) (s : Shared),
    Below A₀ base outer g → Fr g L s.heap m → K.In g → News g L s.heap touch → Top p loose mean mg mb g → (∀ q ∈ ro, g.get? q.1 = some q.2) → dp + room ≤ recursionLimit →
    wpAny (model prog w) (cxA hd dp un gd (envOf qual scope L f cdv) outer) (execs body (envOf qual scope L f cdv)) (RetPost g L s Ret) (fun _ _ => False) s
/-- the same for a def with cells -/
def BodyToC (hd : Option Value) (room : Nat) (qual : Str) (scope : Scope) (f : Addr) (cdv : Value) (body : List Stmt) (binds : List (Str × Value)) (touch ro : Led) (Ret : Value → Led → Prop) : Prop :=
  ∀ (mean : ExcName → Option Value) (mg mb : Str → Option Value) (dp un : Nat) (gd : Option (List Code)) (outer : List Env) (A₀ : Around) (base g : Heap) (L : Addr) (s : Shared) (cells : Led),
    Below A₀ base outer g → Fr g L s.heap (bindL (envOfC qual scope L f cdv).kindOf binds fun _ => none) → K.In g → News g L s.heap (cells ++ touch) →
    CellsAre (bindC (envOfC qual scope L f cdv).kindOf binds fun _ => none) (cellsFrom (L + 1) scope.names []) cells → (∀ p ∈ touch, p.1 < L) →
    Top p loose mean mg mb g → (∀ q ∈ ro, g.get? q.1 = some q.2) → dp + room ≤ recursionLimit →
    wpAny (model prog w) (cxA hd dp un gd (envOfC qual scope L f cdv) outer) (execs body (envOfC qual scope L f cdv)) (RetPost g L s Ret) (fun _ _ => False) s
/-- the call raises: what the caller finds -/
def RaisesTo (room : Nat) (f : Addr) (vs : List Value) (touch ro : Led) (cls : String) : Prop :=
  ∀ (mean : ExcName → Option Value) (mg mb : Str → Option Value) (dp un : Nat) (gd : Option (List Code)) (env : Env) (outer : List Env) (A₀ : Around) (base h₀ : Heap) (L : Addr) (m : Str → Option Value) (s : Shared) (Q E : Value → Shared → Prop) (rest : Led),
    Below A₀ base outer h₀ → Fr h₀ L s.heap m → K.In h₀ → News h₀ L s.heap (touch ++ rest) → (∀ p ∈ touch, ∀ q ∈ rest, p.1 ≠ q.1) → (∀ q ∈ ro, s.heap.get? q.1 = some q.2 ∧ ∀ p ∈ touch, p.1 ≠ q.1) →
    Top p loose mean mg mb h₀ → env.frame = some L → env.scope.kind = .function → dp + room < recursionLimit →
    (∀ G e h' tk', Fr h₀ L G m → RaisedSN base G (env :: outer) e (.type cls) rest h' → G.UpToSlots h' → E (.ref e) { s with heap := h', toks := tk' }) →
    wpAny (model prog w) (cxA none dp un gd env outer) (call (.ref f) vs) Q E s
def BodyRaises (room : Nat) (qual : Str) (scope : Scope) (f : Addr) (cdv : Value) (body : List Stmt) (m : Str → Option Value) (touch ro : Led) (cls : String) : Prop :=
  ∀ (mean : ExcName → Option Value) (mg mb : Str → Option Value) (dp un : Nat) (gd : Option (List Code)) (env : Env) (outer : List Env) (base g : Heap) (L : Addr) (s : Shared) (E : Value → Shared → Prop),
    Below (cxA none dp un gd env outer) base (env :: outer) g → Fr g L s.heap m → K.In g → News g L s.heap touch → Top p loose mean mg mb g → (∀ q ∈ ro, g.get? q.1 = some q.2) → dp + room < recursionLimit →
    (∀ e h' tk', RaisedSN base g (env :: outer) e (.type cls) [] h' → g.UpToSlots h' → E (.ref e) { s with heap := h', toks := tk' }) →
    wpAny (model prog w) ((cxA none dp un gd env outer).deeper (envOf qual scope L f cdv)) (execs body (envOf qual scope L f cdv)) (fun _ _ => False)
      (fun e s' => wpAny (model prog w) ((cxA none dp un gd env outer).deeper (envOf qual scope L f cdv)) (leaving (envOf qual scope L f cdv) e) (fun _ s'' => E e s'') (fun e' s'' => E e' s'') s') s
/-- as RetPost, the ground's frames may have turned their marks -/
def RetPostS (fs : List Addr) (g : Heap) (L : Addr) (s : Shared) (Ret : Value → Led → Prop) (f : Flow) (s' : Shared) : Prop :=
  ∃ g' m' news' h' tk', s' = { s with heap := h', toks := tk' } ∧ KtsTurn fs g g' ∧ Fr g' L h' m' ∧ News g' L h' news' ∧ Ret (flowVal f) news'
def CallsToS (room : Nat) (f : Addr) (vs : List Value) (touch ro : Led) (Ret : Value → Led → Prop) : Prop :=
  ∀ (mean : ExcName → Option Value) (mg mb : Str → Option Value) (dp un : Nat) (gd : Option (List Code)) (env : Env) (outer : List Env) (A₀ : Around) (base h₀ : Heap) (L : Addr) (m : Str → Option Value) (s : Shared) (Q E : Value → Shared → Prop) (rest : Led),
    Below A₀ base outer h₀ → Fr h₀ L s.heap m → K.In h₀ → News h₀ L s.heap (touch ++ rest) → (∀ p ∈ touch, ∀ q ∈ rest, p.1 ≠ q.1) → (∀ q ∈ ro, s.heap.get? q.1 = some q.2 ∧ q.1 ∉ (env :: outer).filterMap (·.frame) ∧ ∀ p ∈ touch, p.1 ≠ q.1) →
    Top p loose mean mg mb h₀ → K.In base → Top p loose mean mg mb base → KtsDicts (outer.filterMap (·.frame)) h₀ → env.frame = some L → env.scope.kind = .function → dp + room < recursionLimit →
    (∀ v news' h₀' h' tk', Ret v news' → KtsTurn (outer.filterMap (·.frame)) h₀ h₀' → Fr h₀' L h' m → News h₀' L h' (news' ++ rest) → (∀ p ∈ news', ∀ q ∈ rest, p.1 ≠ q.1) → Below A₀ base outer h₀' → K.In h₀' → Top p loose mean mg mb h₀' → KtsDicts (outer.filterMap (·.frame)) h₀' → Q v { s with heap := h', toks := tk' }) →
    wpAny (model prog w) (cxA none dp un gd env outer) (call (.ref f) vs) Q E s
def BodyToS (room : Nat) (qual : Str) (scope : Scope) (f : Addr) (cdv : Value) (body : List Stmt) (m : Str → Option Value) (touch ro : Led) (Ret : Value → Led → Prop) : Prop :=
  ∀ (mean : ExcName → Option Value) (mg mb : Str → Option Value) (dp un : Nat) (gd : Option (List Code)) (env : Env) (outer : List Env) (base g : Heap) (L : Addr) (s : Shared),
    Below (cxA none dp un gd env outer) base (env :: outer) g → Fr g L s.heap m → K.In g → News g L s.heap touch → Top p loose mean mg mb g → (∀ q ∈ ro, g.get? q.1 = some q.2 ∧ q.1 ∉ (env :: outer).filterMap (·.frame)) → K.In base → Top p loose mean mg mb base →
    KtsDicts ((env :: outer).filterMap (·.frame)) g → dp + room < recursionLimit →
    wpAny (model prog w) ((cxA none dp un gd env outer).deeper (envOf qual scope L f cdv)) (execs body (envOf qual scope L f cdv)) (RetPostS ((env :: outer).filterMap (·.frame)) g L s Ret) (fun _ _ => False) s
end
theorem retPostS {fs : List Addr} {g g' : Heap} {L : Addr} {s : Shared} {Ret : Value → Led → Prop} {v : Value} {h' : Heap} {tk' : Nat} {m' : Str → Option Value} {news' : Led} (T : KtsTurn fs g g') (F : Fr g' L h' m') (N : News g' L h' news') (R : Ret v news') :
    RetPostS fs g L s Ret (.ret v) { s with heap := h', toks := tk' } := ⟨g', m', news', h', tk', rfl, T, F, N, R⟩
theorem fs_mem {env : Env} {outer : List Env} {L b : Addr} (hf : env.frame = some L) (hm : b ∈ (env :: outer).filterMap (·.frame)) : b = L ∨ b ∈ outer.filterMap (·.frame) := by
  obtain ⟨e, he, hfe⟩ := List.mem_filterMap.mp hm
  rcases List.mem_cons.mp he with rfl | he
  · rw [hf] at hfe; exact .inl (Option.some.inj hfe).symm
  · exact .inr (List.mem_filterMap.mpr ⟨e, he, hfe⟩)
theorem hide_rest {h : Heap} {touch : Led} {q : Addr × Obj} (hq : h.get? q.1 = some q.2) (hne : ∀ p ∈ touch, p.1 ≠ q.1) : (hideAll h (touch.map (·.1))).get? q.1 = some q.2 :=
  hideAll_get _ hq fun hm => by
    obtain ⟨p, hp, e⟩ := List.mem_map.mp hm
    exact hne p hp e
section
variable {prog : Program} {w : World} {K : Frag} {p : Program} {loose : List Str} {hd : Option Value} {room : Nat} {f : Addr} {vs : List Value} {touch ro : Led} {Ret : Value → Led → Prop} {cls : String}
  {name qual : Str} {params : Arguments} {body : List Stmt} {scope : Scope} {dV kV doc pm cdv ct oc : Value} {an od : Option Addr} {osl : Array (Option Value)} {binds : List (Str × Value)}
theorem calls_of_body (ho : K.lookup f = some ⟨oc, od, .func (fnOf name qual params body scope dV kV doc pm an cdv ct), osl⟩) (hcd : codeIn K cdv qual = true)
    (hbind : bindArgs (fnOf name qual params body scope dV kV doc pm an cdv ct) ⟨vs, []⟩ = pure binds) (hloc : (binds.all fun x => decide (scope.names.lookup x.1 = some .local)) = true)
    (hco : scope.isCoroutine = false) (hgen : scope.isGenerator = false) (hk : scope.kind = .function) (hcell : ∀ x ∈ scope.names, x.2 ≠ .cell)
    {m : Str → Option Value} (hm : (fun y => binds.reverse.lookup y) = m)
    (hb : BodyTo prog w K p loose hd room qual scope f cdv body m touch ro Ret) : CallsTo prog w K p loose hd room f vs touch ro Ret := by
  intro mean mg mb dp un gd env outer A₀ base h₀ L m₀ s Q E rest B F X₀ N Ap Ro T hf hke hroom hret
  refine wpAny_call ?_
  have X := X₀.keeps F.keep
  refine codeAny_call_def (fd := fnOf name qual params body scope dV kV doc pm an cdv ct) (body := body) (binds := binds) (by show dp < recursionLimit; omega) (X _ _ ho) rfl (T.nolimit.keeps F.keep) (codeRec_of X hcd) rfl (BindsTo.of_eq hbind) hcell (locs hloc) (fun h₁ hns hk₁ => ?_) hco hgen hk
  obtain ⟨FG, BG, st, lv⟩ := groundX (A := cxA hd dp un gd env outer) (R := fun r s' => match r with | .ok (.ret v) => Q v s' | .ok _ => False | .error e => E e s') B F (nwL N) rfl hf hke
  rw [hm] at hns
  refine wpAny_mono (hb mean mg mb (dp + 1) (un + 3) gd (env :: outer) _ base _ s.heap.objs.size _ BG ⟨hns, fun b o e => hk₁ b o (of_hideAll _ e), Nat.le_of_eq (hideAll_size _ _)⟩ (X₀.keeps st)
    (fun p hp => ⟨hk₁ _ _ ((nwL N) p hp).1, Nat.ne_of_lt (Heap.lt_size ((nwL N) p hp).1), hideAll_none _ (List.mem_map_of_mem hp)⟩) (T.keeps st) (fun q hq => hide_rest (Ro q hq).1 (Ro q hq).2) (by omega)) (fun fl s' hl => ?_) fun _ _ y => y.elim
  obtain ⟨m', news', h', tk', rfl, F', N', hR⟩ := hl
  refine lv _ _ ⟨_, m', news', F', N', fun F3 N3 => ?_⟩
  refine hret _ _ _ _ hR F3 (nwApp N3 fun q hq => ⟨F'.keep _ _ (hide_rest ((nwR N) q hq).1 fun p hp => Ap p hp q hq), ((nwR N) q hq).2⟩) fun p hp q hq e => ?_
  have h1 := (N' p hp).2.2
  rw [e, hide_rest ((nwR N) q hq).1 fun p hp => Ap p hp q hq] at h1
  cases h1
theorem callsC_of_body (ho : K.lookup f = some ⟨oc, od, .func (fnOf name qual params body scope dV kV doc pm an cdv ct), osl⟩) (hcd : codeIn K cdv qual = true)
    (hbind : bindArgs (fnOf name qual params body scope dV kV doc pm an cdv ct) ⟨vs, []⟩ = pure binds) (hkind : (binds.all fun y => scope.names.lookup y.1 == some .local || scope.names.lookup y.1 == some .cell) = true)
    (hnd : ((cellsFrom 0 scope.names []).map (·.1)).Nodup)
    (hco : scope.isCoroutine = false) (hgen : scope.isGenerator = false) (hk : scope.kind = .function)
    (hb : BodyToC prog w K p loose hd room qual scope f cdv body binds touch ro Ret) : CallsTo prog w K p loose hd room f vs touch ro Ret := by
  intro mean mg mb dp un gd env outer A₀ base h₀ L m₀ s Q E rest B F X₀ N Ap Ro T hf hke hroom hret
  refine wpAny_call ?_
  have X := X₀.keeps F.keep
  obtain ⟨FG, BG, st, lv⟩ := groundX (A := cxA hd dp un gd env outer) (R := fun r s' => match r with | .ok (.ret v) => Q v s' | .ok _ => False | .error e => E e s') B F (nwL N) rfl hf hke
  refine codeAny_call_function (by show dp < recursionLimit; omega) (X _ _ ho) rfl hco hgen rfl (codeRec_of X hcd) (BindsTo.of_eq hbind _ _ _ _ ?_)
  refine wpAny_newFunctionEnv_cells hk (kindsX hkind _) fun env' he s' x => ?_
  subst he
  refine ⟨(T.nolimit.keeps F.keep).keeps x.toInCall.keep, codeAny_func ?_⟩
  obtain ⟨h₁, tk, rfl, _⟩ := x.done
  have hk₁ := x.toInCall.keep
  obtain ⟨cells, NC, Y⟩ := Cl.news (h₀ := s.heap) (Nat.le_refl _) fun n c hm => ⟨x.cell n c (lookup_of_mem_nodup (cellsFrom_names scope.names 0 (s.heap.objs.size + 1) [] [] rfl ▸ hnd) hm), x.above n c hm⟩
  refine wpAny_mono (hb mean mg mb (dp + 1) (un + 3) gd (env :: outer) _ base _ s.heap.objs.size _ cells BG ⟨x.toInCall.ns, fun b o e => hk₁ b o (of_hideAll _ e), Nat.le_of_eq (hideAll_size _ _)⟩ (X₀.keeps st)
    (nwApp (fun p hp => ⟨(NC p hp).1, (NC p hp).2.1, ?_⟩) (fun p hp => ⟨hk₁ _ _ ((nwL N) p hp).1, Nat.ne_of_lt (Heap.lt_size ((nwL N) p hp).1), hideAll_none _ (List.mem_map_of_mem hp)⟩)) Y
    (fun p hp => Heap.lt_size ((nwL N) p hp).1) (T.keeps st) (fun q hq => hide_rest (Ro q hq).1 (Ro q hq).2) (by omega)) (fun fl s' hl => ?_) fun _ _ y => y.elim
  · cases q : (hideAll s.heap (touch.map (·.1))).get? p.1 with
    | none => rfl
    | some o => have := of_hideAll _ q; rw [(NC p hp).2.2] at this; cases this
  obtain ⟨m', news', h', tk', rfl, F', N', hR⟩ := hl
  refine lv _ _ ⟨_, m', news', F', N', fun F3 N3 => ?_⟩
  refine hret _ _ _ _ hR F3 (nwApp N3 fun q hq => ⟨F'.keep _ _ (hide_rest ((nwR N) q hq).1 fun p hp => Ap p hp q hq), ((nwR N) q hq).2⟩) fun p hp q hq e => ?_
  have h1 := (N' p hp).2.2
  rw [e, hide_rest ((nwR N) q hq).1 fun p hp => Ap p hp q hq] at h1
  cases h1
theorem raises_of_body (ho : K.lookup f = some ⟨oc, od, .func (fnOf name qual params body scope dV kV doc pm an cdv ct), osl⟩) (hcd : codeIn K cdv qual = true)
    (hbind : bindArgs (fnOf name qual params body scope dV kV doc pm an cdv ct) ⟨vs, []⟩ = pure binds) (hloc : (binds.all fun x => decide (scope.names.lookup x.1 = some .local)) = true)
    (hco : scope.isCoroutine = false) (hgen : scope.isGenerator = false) (hk : scope.kind = .function) (hcell : ∀ x ∈ scope.names, x.2 ≠ .cell)
    {m : Str → Option Value} (hm : (fun y => binds.reverse.lookup y) = m)
    (hb : BodyRaises prog w K p loose room qual scope f cdv body m touch ro cls) : RaisesTo prog w K p loose room f vs touch ro cls := by
  intro mean mg mb dp un gd env outer A₀ base h₀ L m₀ s Q E rest B F X₀ N Ap Ro T hf hke hroom hret
  refine wpAny_call ?_
  have X := X₀.keeps F.keep
  refine codeAny_call_def (fd := fnOf name qual params body scope dV kV doc pm an cdv ct) (body := body) (binds := binds) (by show dp < recursionLimit; omega) (X _ _ ho) rfl (T.nolimit.keeps F.keep) (codeRec_of X hcd) rfl (BindsTo.of_eq hbind) hcell (locs hloc) (fun h₁ hns hk₁ => ?_) hco hgen hk
  obtain ⟨FG, BG, st, lv⟩ := groundX (A := cxA none dp un gd env outer) (R := fun _ _ => True) B F (nwL N) rfl hf hke
  rw [hm] at hns
  refine wpAny_mono (hb mean mg mb dp un gd env outer base _ s.heap.objs.size _ E BG ⟨hns, fun b o e => hk₁ b o (of_hideAll _ e), Nat.le_of_eq (hideAll_size _ _)⟩ (X₀.keeps st)
    (fun p hp => ⟨hk₁ _ _ ((nwL N) p hp).1, Nat.ne_of_lt (Heap.lt_size ((nwL N) p hp).1), hideAll_none _ (List.mem_map_of_mem hp)⟩) (T.keeps st) (fun q hq => hide_rest (Ro q hq).1 (Ro q hq).2) hroom ?_) (fun _ _ x => x.elim) (fun _ _ x => x)
  intro e h' tk' R U
  obtain ⟨Bh, a0, hB, hBG, _, hfl⟩ := R
  have hrest : ∀ q ∈ rest, (hideAll s.heap (touch.map (·.1))).get? q.1 = some q.2 := fun q hq => hide_rest ((nwR N) q hq).1 fun p hp => Ap p hp q hq
  have hnf : ∀ q ∈ rest, q.1 ∉ (env :: outer).filterMap (·.frame) := fun q hq hm => by
    rcases fs_mem hf hm with z | z
    · exact ((nwR N) q hq).2.1 z
    · obtain ⟨_, o, ho', _⟩ := B.frames.mem z
      rw [((nwR N) q hq).2.2] at ho'
      cases ho'
  have nr : ∀ b o, h₀.get? b = some o → b ∉ rest.map (·.1) := fun b o q hm => by
    obtain ⟨x, hx, rfl⟩ := List.mem_map.mp hm
    rw [((nwR N) x hx).2.2] at q
    cases q
  refine hret (hideAll (hideAll s.heap (touch.map (·.1))) (rest.map (·.1))) e h' tk' ⟨?_, fun b o q => hideAll_get _ (FG.keep b o q) (nr b o q), F.above⟩ ⟨Bh, a0, hB, fun b o q nm => hBG b o (of_hideAll _ q) nm, fun q hq => ⟨hBG _ _ (hrest q hq) (hnf q hq), hideAll_none _ (List.mem_map_of_mem hq), fresh_of_stays B.stays ((nwR N) q hq).2.2⟩, hfl⟩ (fun b o q hd => U b o (of_hideAll _ q) hd)
  obtain ⟨oL, es, ep, hLg, r⟩ := FG.ns
  exact ⟨oL, es, ep, hideAll_get _ hLg fun hm => by
    obtain ⟨x, hx, e⟩ := List.mem_map.mp hm
    exact ((nwR N) x hx).2.1 e, r⟩
theorem callsS_of_body (ho : K.lookup f = some ⟨oc, od, .func (fnOf name qual params body scope dV kV doc pm an cdv ct), osl⟩) (hcd : codeIn K cdv qual = true)
    (hbind : bindArgs (fnOf name qual params body scope dV kV doc pm an cdv ct) ⟨vs, []⟩ = pure binds) (hloc : (binds.all fun x => decide (scope.names.lookup x.1 = some .local)) = true)
    (hco : scope.isCoroutine = false) (hgen : scope.isGenerator = false) (hk : scope.kind = .function) (hcell : ∀ x ∈ scope.names, x.2 ≠ .cell)
    {m : Str → Option Value} (hm : (fun y => binds.reverse.lookup y) = m)
    (hb : BodyToS prog w K p loose room qual scope f cdv body m touch ro Ret) : CallsToS prog w K p loose room f vs touch ro Ret := by
  intro mean mg mb dp un gd env outer A₀ base h₀ L m₀ s Q E rest B F X₀ N Ap Ro T XB TB D hf hke hroom hret
  refine wpAny_call ?_
  have X := X₀.keeps F.keep
  refine codeAny_call_def (fd := fnOf name qual params body scope dV kV doc pm an cdv ct) (body := body) (binds := binds) (by show dp < recursionLimit; omega) (X _ _ ho) rfl (T.nolimit.keeps F.keep) (codeRec_of X hcd) rfl (BindsTo.of_eq hbind) hcell (locs hloc) (fun h₁ hns hk₁ => ?_) hco hgen hk
  obtain ⟨FG, BG, st, _⟩ := groundX (A := cxA none dp un gd env outer) (R := fun _ _ => True) B F (nwL N) rfl hf hke
  obtain ⟨oL, es, ep, hLg, hLd, hLk, hLf⟩ := FG.ns
  have hNs : ∀ (sl : Array (Option Value)) h', h'.get? L = some { oL with slots := sl } → Heap.Ns h' L m₀ := fun sl h' e => ⟨_, es, ep, e, hLd, hLk, hLf⟩
  rw [hm] at hns
  refine wpAny_mono (hb mean mg mb dp un gd env outer base _ s.heap.objs.size _ BG ⟨hns, fun b o e => hk₁ b o (of_hideAll _ e), Nat.le_of_eq (hideAll_size _ _)⟩ (X₀.keeps st)
    (fun p hp => ⟨hk₁ _ _ ((nwL N) p hp).1, Nat.ne_of_lt (Heap.lt_size ((nwL N) p hp).1), hideAll_none _ (List.mem_map_of_mem hp)⟩) (T.keeps st) (fun q hq => ⟨hide_rest (Ro q hq).1 (Ro q hq).2.2, (Ro q hq).2.1⟩) XB TB (fun b hb => ?_) hroom) (fun fl s' hl => ?_) fun _ _ y => y.elim
  · rcases fs_mem hf hb with rfl | hb
    · exact ⟨oL, es, ep, hLg, hLd⟩
    · obtain ⟨o, es', n', ho', hd'⟩ := D b hb
      exact ⟨o, es', n', st b o ho', hd'⟩
  have nL₀ : h₀.get? L = none := kts_self F
  obtain ⟨g', m', news', h', tk', rfl, T', F', N', hR⟩ := hl
  obtain ⟨sl, hs⟩ := T'.up hLg
  obtain ⟨T₁, S₁⟩ := kts_turn_at (h := h') (fs := outer.filterMap (·.frame)) (g := h₀)
    (fun b hb => by
      obtain ⟨_, o, ho', _⟩ := B.frames.mem hb
      exact ⟨o, ho'⟩)
    (fun b o e nmem => F'.keep b o (T'.other b o (st b o e) (fun q => by
      rcases fs_mem hf q with z | z
      · rw [z, nL₀] at e
        cases e
      · exact nmem z)))
    (fun b o e hm => by
      obtain ⟨sl', hs'⟩ := T'.up (st b o e)
      exact ⟨sl', F'.keep _ _ hs'⟩)
  have B₃ : Below A₀ base outer (ktsHeap h' (outer.filterMap (·.frame)) h₀) := ⟨B.stack, fun b o e => T₁.other b o (B.stays b o e) (fun hm => by
    rw [(B.frames.mem hm).1] at e
    cases e), B.frames.of_keeps fun b o e _ => by
    obtain ⟨sl', hs'⟩ := T₁.up e
    exact ⟨_, hs', rfl⟩⟩
  have hrest : ∀ q ∈ rest, (hideAll s.heap (touch.map (·.1))).get? q.1 = some q.2 := fun q hq => hide_rest ((nwR N) q hq).1 fun p hp => Ap p hp q hq
  have hnf : ∀ q ∈ rest, q.1 ∉ (env :: outer).filterMap (·.frame) := fun q hq hm => by
    rcases fs_mem hf hm with z | z
    · exact ((nwR N) q hq).2.1 z
    · obtain ⟨_, o, ho', _⟩ := B.frames.mem z
      rw [((nwR N) q hq).2.2] at ho'
      cases ho'
  have hrest' : ∀ q ∈ rest, g'.get? q.1 = some q.2 := fun q hq => T'.other _ _ (hrest q hq) (hnf q hq)
  refine hret _ news' _ h' tk' hR T₁ ⟨hNs sl _ (F'.keep _ _ hs), S₁, by rw [T₁.size]; exact F.above⟩ (nwApp (fun p hp => ⟨(N' p hp).1, fun q => ?_, ?_⟩) fun q hq => ⟨F'.keep _ _ (hrest' q hq), ((nwR N) q hq).2.1, T₁.none_ _ ((nwR N) q hq).2.2⟩)
    (fun p hp q hq e => by
      have h1 := (N' p hp).2.2
      rw [e, hrest' q hq] at h1
      cases h1) B₃ (XB.keeps B₃.stays) (TB.keeps B₃.stays) (D.turn T₁)
  · have := (N' p hp).2.2
    rw [q, hs] at this
    cases this
  · refine T₁.none_ _ ?_
    cases q : h₀.get? p.1 with
    | none => rfl
    | some o =>
      obtain ⟨sl', hs'⟩ := T'.up (st _ _ q)
      have := (N' p hp).2.2
      rw [hs'] at this
      cases this
theorem calls_use {mean : ExcName → Option Value} {mg mb : Str → Option Value} {dp un : Nat} {gd : Option (List Code)} {env : Env} {outer : List Env} {A₀ : Around} {base h₀ : Heap} {L : Addr} {m : Str → Option Value} {s : Shared} {Q E : Value → Shared → Prop} {rest : Led}
    (C : CallsTo prog w K p loose hd room f vs touch ro Ret)
    (B : Below A₀ base outer h₀) (F : Fr h₀ L s.heap m) (X : K.In h₀) (N : News h₀ L s.heap (touch ++ rest)) (T : Top p loose mean mg mb h₀) (Ap : ∀ p ∈ touch, ∀ q ∈ rest, p.1 ≠ q.1) (Ro : ∀ q ∈ ro, s.heap.get? q.1 = some q.2 ∧ ∀ p ∈ touch, p.1 ≠ q.1)
    (hf : env.frame = some L) (hk : env.scope.kind = .function) (hr : dp + room < recursionLimit)
    (ret : ∀ v news' h' tk', Ret v news' → Fr h₀ L h' m → News h₀ L h' (news' ++ rest) → (∀ p ∈ news', ∀ q ∈ rest, p.1 ≠ q.1) → Q v { s with heap := h', toks := tk' }) :
    wpAny (model prog w) (cxA hd dp un gd env outer) (call (.ref f) vs) Q E s := C _ _ _ _ _ _ _ _ _ _ _ _ _ _ _ _ _ B F X N Ap Ro T hf hk hr ret
theorem raises_use {mean : ExcName → Option Value} {mg mb : Str → Option Value} {dp un : Nat} {gd : Option (List Code)} {env : Env} {outer : List Env} {A₀ : Around} {base h₀ : Heap} {L : Addr} {m : Str → Option Value} {s : Shared} {Q E : Value → Shared → Prop} {rest : Led}
    (C : RaisesTo prog w K p loose room f vs touch ro cls)
    (B : Below A₀ base outer h₀) (F : Fr h₀ L s.heap m) (X : K.In h₀) (N : News h₀ L s.heap (touch ++ rest)) (T : Top p loose mean mg mb h₀) (Ap : ∀ p ∈ touch, ∀ q ∈ rest, p.1 ≠ q.1) (Ro : ∀ q ∈ ro, s.heap.get? q.1 = some q.2 ∧ ∀ p ∈ touch, p.1 ≠ q.1)
    (hf : env.frame = some L) (hk : env.scope.kind = .function) (hr : dp + room < recursionLimit)
    (ret : ∀ G e h' tk', Fr h₀ L G m → RaisedSN base G (env :: outer) e (.type cls) rest h' → G.UpToSlots h' → E (.ref e) { s with heap := h', toks := tk' }) :
    wpAny (model prog w) (cxA none dp un gd env outer) (call (.ref f) vs) Q E s := C _ _ _ _ _ _ _ _ _ _ _ _ _ _ _ _ _ B F X N Ap Ro T hf hk hr ret
theorem callsS_use {mean : ExcName → Option Value} {mg mb : Str → Option Value} {dp un : Nat} {gd : Option (List Code)} {env : Env} {outer : List Env} {A₀ : Around} {base h₀ : Heap} {L : Addr} {m : Str → Option Value} {s : Shared} {Q E : Value → Shared → Prop} {rest : Led}
    (C : CallsToS prog w K p loose room f vs touch ro Ret)
    (B : Below A₀ base outer h₀) (F : Fr h₀ L s.heap m) (X : K.In h₀) (N : News h₀ L s.heap (touch ++ rest)) (T : Top p loose mean mg mb h₀) (Ap : ∀ p ∈ touch, ∀ q ∈ rest, p.1 ≠ q.1) (Ro : ∀ q ∈ ro, s.heap.get? q.1 = some q.2 ∧ q.1 ∉ (env :: outer).filterMap (·.frame) ∧ ∀ p ∈ touch, p.1 ≠ q.1)
    (XB : K.In base) (TB : Top p loose mean mg mb base) (D : KtsDicts (outer.filterMap (·.frame)) h₀) (hf : env.frame = some L) (hk : env.scope.kind = .function) (hr : dp + room < recursionLimit)
    (ret : ∀ v news' h₀' h' tk', Ret v news' → KtsTurn (outer.filterMap (·.frame)) h₀ h₀' → Fr h₀' L h' m → News h₀' L h' (news' ++ rest) → (∀ p ∈ news', ∀ q ∈ rest, p.1 ≠ q.1) → Below A₀ base outer h₀' → K.In h₀' → Top p loose mean mg mb h₀' → KtsDicts (outer.filterMap (·.frame)) h₀' → Q v { s with heap := h', toks := tk' }) :
    wpAny (model prog w) (cxA none dp un gd env outer) (call (.ref f) vs) Q E s := C _ _ _ _ _ _ _ _ _ _ _ _ _ _ _ _ _ B F X N Ap Ro T XB TB D hf hk hr ret
end
theorem turn_nil {h₀ h₀' h : Heap} {L : Addr} {m : Str → Option Value} {news : Led} (T : KtsTurn [] h₀ h₀') (F : Fr h₀' L h m) (N : News h₀' L h news) : Fr h₀ L h m ∧ News h₀ L h news := by
  have e : ∀ b o, h₀.get? b = some o → h₀'.get? b = some o := fun b o q => T.other b o q (by simp)
  refine ⟨⟨F.ns, fun b o q => F.keep b o (e b o q), by rw [← T.size]; exact F.above⟩, fun p hp => ⟨(N p hp).1, (N p hp).2.1, ?_⟩⟩
  cases q : h₀.get? p.1 with
  | none => rfl
  | some o => have := e _ _ q; rw [(N p hp).2.2] at this; cases this
/-- a call of the turning kind out of the lowest frame -/
theorem callsS_use0 {prog : Program} {w : World} {K : Frag} {p : Program} {loose : List Str} {room : Nat} {f : Addr} {vs : List Value} {touch ro : Led} {Ret : Value → Led → Prop}
    {mean : ExcName → Option Value} {mg mb : Str → Option Value} {dp un : Nat} {gd : Option (List Code)} {env : Env} {A₀ : Around} {h₀ : Heap} {L : Addr} {m : Str → Option Value} {s : Shared} {Q E : Value → Shared → Prop} {rest : Led}
    (C : CallsToS prog w K p loose room f vs touch ro Ret)
    (B : Below A₀ h₀ [] h₀) (F : Fr h₀ L s.heap m) (X : K.In h₀) (N : News h₀ L s.heap (touch ++ rest)) (T : Top p loose mean mg mb h₀) (Ap : ∀ p ∈ touch, ∀ q ∈ rest, p.1 ≠ q.1) (Ro : ∀ q ∈ ro, s.heap.get? q.1 = some q.2 ∧ q.1 ≠ L ∧ ∀ p ∈ touch, p.1 ≠ q.1)
    (hf : env.frame = some L) (hk : env.scope.kind = .function) (hr : dp + room < recursionLimit)
    (ret : ∀ v news' h' tk', Ret v news' → Fr h₀ L h' m → News h₀ L h' (news' ++ rest) → (∀ p ∈ news', ∀ q ∈ rest, p.1 ≠ q.1) → Q v { s with heap := h', toks := tk' }) :
    wpAny (model prog w) (cxA none dp un gd env []) (call (.ref f) vs) Q E s := by
  refine callsS_use C B F X N T Ap (fun q hq => ⟨(Ro q hq).1, ?_, (Ro q hq).2.2⟩) X T ktsDicts_nil hf hk hr ?_
  · simpa [hf] using (Ro q hq).2.1
  · intro v news' h₀' h' tk' hR T' F' N' Ap' _ _ _ _
    obtain ⟨F2, N2⟩ := turn_nil T' F' N'
    exact ret v news' h' tk' hR F2 N2 Ap'
theorem apart1 {a : Addr} {o : Obj} {rest : Led} (h : ∀ q ∈ rest, q.1 < a) : ∀ p ∈ [(a, o)], ∀ q ∈ rest, p.1 ≠ q.1 := by
  intro p hp q hq
  rw [List.mem_singleton] at hp
  subst hp
  exact Nat.ne_of_gt (h q hq)
theorem look_cons (y x : Str) (v : Value) (r : List (Str × Value)) : List.lookup y ((x, v) :: r) = if y = x then some v else List.lookup y r := by
  rw [List.lookup_cons]
  by_cases h : y = x
  · subst h; simp
  · have e : (y == x) = false := by simpa using h
    rw [e, if_neg h]
theorem look1 (x : Str) (v : Value) : (fun y => ([(x, v)] : List (Str × Value)).reverse.lookup y) = fun y => if y = x then some v else none := by
  funext y
  simp only [List.reverse_cons, List.reverse_nil, List.nil_append, look_cons, List.lookup_nil]
theorem look2 (x z : Str) (v u : Value) : (fun y => ([(x, v), (z, u)] : List (Str × Value)).reverse.lookup y) = fun y => if y = z then some u else if y = x then some v else none := by
  funext y
  simp only [List.reverse_cons, List.reverse_nil, List.nil_append, List.cons_append, look_cons, List.lookup_nil]
theorem look3 (x z q : Str) (v u r : Value) : (fun y => ([(x, v), (z, u), (q, r)] : List (Str × Value)).reverse.lookup y) = fun y => if y = q then some r else if y = z then some u else if y = x then some v else none := by
  funext y
  simp only [List.reverse_cons, List.reverse_nil, List.nil_append, List.cons_append, look_cons, List.lookup_nil]
end
section
open PySem PySem.W PyProof.Rows PySem.Calls PySem.Spec
def vval (l : List UInt8) : Nat := l.foldl (fun a x => a * 64 + x.toNat % 64) 0
theorem vval_snoc (l : List UInt8) (x : UInt8) : vval (l ++ [x]) = vval l * 64 + x.toNat % 64 := by
  simp [vval, List.foldl_append]
theorem vval_lt (l : List UInt8) : vval l < 2 ^ (6 * l.length) := by
  have h : ∀ (l : List UInt8) (a k : Nat), a < 2 ^ k → l.foldl (fun a x => a * 64 + x.toNat % 64) a < 2 ^ (k + 6 * l.length) := by
    intro l
    induction l with
    | nil => intro a k h; simpa using h
    | cons x l ih =>
      intro a k h
      rw [List.foldl_cons, List.length_cons, show k + 6 * (l.length + 1) = (k + 6) + 6 * l.length by omega]
      refine ih _ _ ?_
      rw [Nat.pow_add]
      have : x.toNat % 64 < 64 := Nat.mod_lt _ (by decide)
      have h2 : (a + 1) * 64 ≤ 2 ^ k * 64 := Nat.mul_le_mul_right _ h
      omega
  simpa [vval] using h l 0 0 (by decide)
theorem and64 : ∀ x : Fin 256, Builtin.bitAnd ((x.val : Nat) : Int) 64 = ((x.val / 64 % 2 * 64 : Nat) : Int) := by decide +kernel
theorem and64_octet (c : UInt8) : Builtin.bitAnd (c.toNat : Int) 64 = ((c.toNat / 64 % 2 * 64 : Nat) : Int) := and64 ⟨c.toNat, c.toNat_lt⟩
theorem and63_octet (c : UInt8) : Builtin.bitAnd (c.toNat : Int) 63 = ((c.toNat % 64 : Nat) : Int) := by
  rw [bitAnd_m6]; omega
theorem bitNot_bitNot (x : Int) : Builtin.bitNot (Builtin.bitNot x) = x := by
  unfold Builtin.bitNot; omega
theorem bitOr_nat (x y : Nat) : Builtin.bitOr (x : Int) (y : Int) = ((x ||| y : Nat) : Int) := by
  unfold Builtin.bitOr Builtin.bitAnd
  have hx : decide (0 ≤ Builtin.bitNot (x : Int)) = false := by unfold Builtin.bitNot; simp; omega
  have hy : decide (0 ≤ Builtin.bitNot (y : Int)) = false := by unfold Builtin.bitNot; simp; omega
  rw [hx, hy]
  simp only [bitNot_bitNot, Int.toNat_natCast]
theorem shl6 (a m : Nat) (hm : m < 64) : Builtin.bitOr ((a : Int) * 2 ^ (6 : Int).toNat) (m : Int) = ((a * 64 + m : Nat) : Int) := by
  rw [show ((a : Int) * 2 ^ (6 : Int).toNat) = ((a * 64 : Nat) : Int) by simp, bitOr_nat]
  have h := Nat.shiftLeft_add_eq_or_of_lt (i := 6) (b := m) (by simpa using hm) a
  rw [Nat.shiftLeft_eq] at h
  rw [← h]
end
section
open PySem PySem.W PyProof.Rows PySem.Calls PySem.Spec
set_option maxRecDepth 100000
abbrev itO (b : Array UInt8) (t : Tok) (i : Nat) : Obj := { cls := .type "bytes_iterator", data := .fields #[.bytes b t, .int i 0] }
theorem isIt {h : Heap} {a : Addr} {b : Array UInt8} {t : Tok} {i : Nat} (e : h.get? a = some (itO b t i)) : KBw.IsBytesIter h a b t i := ⟨_, e, rfl, rfl⟩
section
variable {prog : Program} {w : World} {A : Around} {E : Value → Shared → Prop} {s : Shared} {h₀ : Heap} {L it : Addr} {m : Str → Option Value} {news : Led} {b : Array UInt8} {t : Tok} {i : Nat}
theorem iter_bytes {Q : Value → Shared → Prop} (F : Fr h₀ L s.heap m) (N : News h₀ L s.heap news)
    (h : ∀ (I : Addr) h', Fr h₀ L h' m → News h₀ L h' ((I, itO b t 0) :: news) → (∀ p ∈ news, p.1 < I) → Q (.ref I) { s with heap := h' }) :
    wpAny (model prog w) A (call (.builtin "iter") [.bytes b t]) Q E s := by
  refine call_function_entry (by decide +kernel) (by decide +kernel) kdk_entry_iter (kdk_args_iter _) ?_
  unfold Builtin.«iter»
  refine wpAny_bind (m := someArgs "iter" 1 2 _) (wpAny_of_eq (a := [Value.bytes b t]) (by first | rfl | kernel_rfl!) ?_)
  show wpAny _ _ (pyIter (.bytes b t) >>= _) _ _ _
  refine wpAny_bind (KBw.pyIter_bytes ?_)
  exact wpAny_pure ⟨_, rfl, h _ _ (F.push _) (News.push F N _ rfl) fun q hq => Heap.lt_size (N q hq).1⟩
theorem next_item {c : UInt8} {Q : Value → Shared → Prop} (F : Fr h₀ L s.heap m) (N : News h₀ L s.heap ((it, itO b t i) :: news)) (Ap : ∀ p ∈ news, p.1 ≠ it) (hx : b[i]? = some c)
    (h : ∀ h' u tk, Fr h₀ L h' m → News h₀ L h' ((it, itO b t (i + 1)) :: news) → Q (.int (c.toNat : Int) u) { s with heap := h', toks := tk }) :
    wpAny (model prog w) A (call (.builtin "next") [.ref it]) Q E s := by
  have hm := N (it, itO b t i) (.head _)
  have hit := isIt hm.1
  obtain ⟨o, ho, hc, hd⟩ := id hit
  refine call_function_entry (by decide +kernel) (by decide +kernel) kdk_entry_next (kdk_args_next _) ?_
  unfold Builtin.«next»
  refine wpAny_bind (m := someArgs "next" 1 2 _) (wpAny_of_eq (a := [Value.ref it]) (by first | rfl | kernel_rfl!) ?_)
  dsimp only
  refine wpAny_bind (wpAny_specialOf (name := Str.ofString "__next__") (KBw.iter_typeIs hit) KBw.slot_next.lookup ?_)
  refine wpAny_ite_split (fun hab => absurd hab (by decide)) (fun _ => ?_)
  refine wpAny_bind ?_
  refine wpAny_callSpecial?_slot (name := PySem.Str.ofString "__next__") (KBw.iter_typeIs hit) KBw.slot_next
    (wpAny_call_entry KBw.slot_next (KBw.iter_typeIs hit) KBw.entry_next ?_ (KBw.args_next _))
  show wpAny _ _ (field (.ref it) 0 >>= _) _ _ s
  refine wpAny_bind (wpAny_field ho hd (x := .bytes b t) rfl ?_)
  show wpAny _ _ (if (Value.bytes b t == Value.none) = true then _ else _) _ _ s
  rw [if_neg (show ¬ ((Value.bytes b t == Value.none) = true) from Bool.false_ne_true)]
  show wpAny _ _ (field (.ref it) 1 >>= _) _ _ s
  refine wpAny_bind (wpAny_field ho hd (x := .int i 0) rfl ?_)
  refine wpAny_bind (wpAny_of_eq (a := b) rfl ?_)
  simp only [Int.toNat_natCast, hx]
  refine wpAny_bind (wpAny_setField ho hd (by simp) (wpAny_bind (wpAny_mkInt (wpAny_pure ⟨_, rfl, wpAny_pure ⟨_, rfl, h _ _ _ (F.change (Heap.SameBut.update ..) hm.2.1 hm.2.2) ?_⟩⟩))))
  refine News.setIn (own := []) N (fun _ hp => nomatch hp) Ap (Heap.SameBut.update ..) ?_
  rw [Heap.get?_update_self _ hm.1 rfl]
  rfl
theorem next_stop {Q : Value → Shared → Prop} (hh : A.handled = none) (F : Fr h₀ L s.heap m) (N : News h₀ L s.heap ((it, itO b t i) :: news)) (Ap : ∀ p ∈ news, p.1 ≠ it) (hx : b[i]? = none)
    (h : ∀ h₁ h' e, Fr h₀ L h₁ m → News h₀ L h₁ news → Heap.NewExc h₁ h' e "StopIteration" → E (.ref e) { s with heap := h' }) :
    wpAny (model prog w) A (call (.builtin "next") [.ref it]) Q E s := by
  have hm := N (it, itO b t i) (.head _)
  have hit := isIt hm.1
  obtain ⟨o, ho, hc, hd⟩ := id hit
  refine call_function_entry (by decide +kernel) (by decide +kernel) kdk_entry_next (kdk_args_next _) ?_
  unfold Builtin.«next»
  refine wpAny_bind (m := someArgs "next" 1 2 _) (wpAny_of_eq (a := [Value.ref it]) (by first | rfl | kernel_rfl!) ?_)
  dsimp only
  refine wpAny_bind (wpAny_specialOf (name := Str.ofString "__next__") (KBw.iter_typeIs hit) KBw.slot_next.lookup ?_)
  refine wpAny_ite_split (fun hab => absurd hab (by decide)) (fun _ => ?_)
  refine wpAny_bind ?_
  refine wpAny_callSpecial?_slot (name := PySem.Str.ofString "__next__") (KBw.iter_typeIs hit) KBw.slot_next
    (wpAny_call_entry KBw.slot_next (KBw.iter_typeIs hit) KBw.entry_next ?_ (KBw.args_next _))
  show wpAny _ _ (field (.ref it) 0 >>= _) _ _ s
  refine wpAny_bind (wpAny_field ho hd (x := .bytes b t) rfl ?_)
  show wpAny _ _ (if (Value.bytes b t == Value.none) = true then _ else _) _ _ s
  rw [if_neg (show ¬ ((Value.bytes b t == Value.none) = true) from Bool.false_ne_true)]
  show wpAny _ _ (field (.ref it) 1 >>= _) _ _ s
  refine wpAny_bind (wpAny_field ho hd (x := .int i 0) rfl ?_)
  refine wpAny_bind (wpAny_of_eq (a := b) rfl ?_)
  simp only [Int.toNat_natCast, hx]
  refine wpAny_bind (wpAny_rule (wpAny_bind (wpAny_setField ho hd (by simp) ?_)))
  show wpAny _ _ (newExc (.type "StopIteration") [] >>= _) _ _ _
  refine wpAny_bind ?_
  simp only [newExc, newTuple]
  refine wpAny_bind (wpAny_newObj_type ?_ (by size_fits))
  refine wpAny_bind (m := firstArgMember _ _) (wpAny_of_eq (a := Value.none) (by first | rfl | (simp only [firstArgMember]; rfl)) ?_)
  refine wpAny_newObj_type ?_ (by size_fits)
  simp only [raiseNew]
  refine wpAny_bind (wpAny_handled ?_)
  rw [show A.in1.in1.handled = none from hh]
  refine wpAny_bind (wpAny_pure (wpAny_throw ?_))
  refine h (s.heap.update it _) _ _ (F.change (Heap.SameBut.update ..) hm.2.1 hm.2.2) (fun p hp => ?_) ⟨fun b o e => Heap.get?_push_of_some _ (Heap.get?_push_of_some _ e), ?_, ?_⟩
  · have hq := N p (.tail _ hp)
    exact ⟨(Heap.get?_update_ne _ _ _ _ (Ap p hp)).trans hq.1, hq.2⟩
  · exact Heap.get?_none_of_le (by rw [Heap.size_push]; exact Nat.le_succ _)
  · exact ⟨_, _, Heap.get?_push_size _ rfl, rfl, rfl⟩
end
end
section
open PySem PySem.W PyProof.Rows PySem.Calls PySem.Spec
/-- the letters of a number -/
def apL (n : Nat) : List UInt8 := if n = 0 then [] else apL (n / 16) ++ [(65 + n % 16).toUInt8]
termination_by n
decreasing_by omega
def apOct (m : Nat) : UInt8 := (65 + m).toUInt8
theorem ap_pick : ∀ m : Fin 16, KBy.picked #[65, 66, 67, 68, 69, 70, 71, 72, 73, 74, 75, 76, 77, 78, 79, 80] (some (m.val : Int)) (some ((m.val : Int) + 1)) = #[(65 + m.val).toUInt8] := by decide +kernel
theorem ap_pick' {k : Int} (hk : 0 ≤ k) : KBy.picked #[65, 66, 67, 68, 69, 70, 71, 72, 73, 74, 75, 76, 77, 78, 79, 80] (some (k.fmod 16)) (some (k.fmod 16 + 1)) = #[(65 + k.toNat % 16).toUInt8] := by
  have h := ap_pick ⟨k.toNat % 16, by omega⟩
  have e : k.fmod 16 = ((k.toNat % 16 : Nat) : Int) := by rw [Int.fmod_eq_emod_of_nonneg _ (by decide)]; omega
  rw [e]; exact h
local macro_rules | `(tactic| walk_at "mine step") => `(tactic| first | (k_unfold; (try dsimp only)) | (k_end; wrow_close) | walk1 | (dsimp only; walk1) | (leave1; walk_say "STEP leave1"; try dsimp only))
local macro_rules | `(tactic| walk_at "mine while") => `(tactic| repeat' ((fail_if_success (with_reducible show wpAny _ _ (exec (Stmt.While _ _ _ _) _) _ _ _)); (fail_if_success (with_reducible show RetPost _ _ _ _ _ _)); (fail_if_success (with_reducible show KswEnd _ _ _ _ _ _ _ _ _ _ _ _)); (fail_if_success (with_reducible show wpAny _ _ (subscriptTail _ _ (Value.bytes _ _) _) _ _ _)); (fail_if_success (with_reducible show wpAny _ _ (binaryOp Operator.Add (Value.bytes _ _) (Value.bytes _ _)) _ _ _)); walk_at "mine step"))
set_option maxRecDepth 100000
set_option maxHeartbeats 8000000
theorem apL_pos {n : Nat} (h : n ≠ 0) : apL n = apL (n / 16) ++ [(65 + n % 16).toUInt8] := by
  rw [apL, if_neg h]
theorem apL_zero : apL 0 = [] := by
  rw [apL, if_pos rfl]
theorem int2ap (w : World) (n : Int) (t : Tok) (hsz : (apL n.natAbs).length ≤ 10000) : CallsTo Challenge.rw_pu0001_02.row.prog w (hd02.heap_39 w.params) hd02.view_39 (looseW hd02.view_39 []) none 1 21 [.int n t] [] [] (fun v news' => (∃ u, v = .bytes (apL n.natAbs).toArray u) ∧ news' = []) := by
  k_fill
  refine calls_of_body (binds := [(Str.ofString "num", .int n t)]) (by k_is) (by k_is) rfl rfl rfl rfl rfl (by decide) (look1 _ _) ?_
  intro mean mg mb dp un gd outer A₀ base g L s B F X N T Ro hr
  walk_at "mine while"
  refine' ksw_while (σ := Int × Array UInt8 × Tok × Tok) (fun _ => []) (fun c => [(Str.ofString "num", .int c.1 c.2.2.1), (Str.ofString "val", .bytes c.2.1 c.2.2.2)]) (fun _ => True) [Str.ofString "mod"] (fun c => 0 ≤ c.1 ∧ apL c.1.toNat ++ c.2.1.toList = apL n.natAbs) (fun c => c.1.toNat) (_, _, _, _) (by assumption) (by assumption) trivial ?kk ?kp ?turn
  case kk => kst_all
  case kp => 
    refine ⟨?_, ?_⟩
    · show 0 ≤ (if n < 0 then -n else n)
      omega
    · show apL (if n < 0 then -n else n).toNat ++ [] = _
      rw [show (if n < 0 then -n else n).toNat = n.natAbs by omega]; simp
  case turn =>
    intro c u h tk _ hc F2 N2
    obtain ⟨k, v, t1, t2⟩ := c
    dsimp only [kstB] at F2 hc ⊢
    obtain ⟨hk0, hc⟩ := hc
    walk_at "mine while"
    · have hk : k.toNat ≠ 0 := by omega
      rw [apL_pos hk] at hc
      have hl := congrArg List.length hc
      simp only [List.length_append, List.length_cons, List.length_nil, Array.length_toList] at hl
      refine KBc.slice_K (s := ⟨_, _, _, _, _⟩) (by assumption) (by assumption) rfl (by constructor) (by constructor) (by decide) ?_
      intro h3 t3 k3 F3 N3 _
      rw [ap_pick' hk0]
      walk_at "mine while"
      refine KBy.add_bytes (by simp; omega) ?_
      intro t4 k4
      walk_at "mine while"
      refine' ksw_end (_, _, _, _) (by assumption) (by assumption) (fun p hp => nomatch hp) trivial ?kk (by ksw_same) ?kp ?km
      case kk => kst_all
      case kp =>
        dsimp only
        have e : (k.fdiv 16).toNat = k.toNat / 16 := by rw [Int.fdiv_eq_ediv_of_nonneg _ (by decide)]; omega
        refine ⟨by rw [Int.fdiv_eq_ediv_of_nonneg _ (by decide)]; omega, ?_⟩
        rw [e, ← hc]; simp
      case km =>
        show (k.fdiv 16).toNat < k.toNat
        rw [Int.fdiv_eq_ediv_of_nonneg _ (by decide)]; omega
    · refine retPost (by assumption) (by assumption) ⟨?_, rfl⟩
      have hk : k = 0 := by omega
      subst hk
      rw [Int.toNat_zero, apL_zero, List.nil_append] at hc
      exact ⟨_, by rw [← hc, Array.toArray_toList]⟩
end
section
open PySem PySem.W PyProof.Rows PySem.Calls PySem.Spec
/-- where the reader stands: j octets of q are read, the last one is bb, their value v -/
def PvAt (q : List UInt8) (bb v : Int) (j : Nat) : Prop := 1 ≤ j ∧ j ≤ q.length ∧ bb = ((q[j - 1]?.getD 0).toNat : Int) ∧ v = (vval (q.take j) : Int)
theorem pvAt_one {q : List UInt8} (h : 1 ≤ q.length) : PvAt q ((q[0]?.getD 0).toNat : Int) (Builtin.bitAnd ((q[0]?.getD 0).toNat : Int) 63) 1 := by
  refine ⟨Nat.le_refl _, h, rfl, ?_⟩
  rw [and63_octet]
  cases q with
  | nil => simp at h
  | cons x r => simp [vval]
theorem pvAt_more {l : List UInt8} {c : UInt8} {bb v : Int} {j : Nat} (hc : c.toNat / 64 % 2 = 0) (h : PvAt (l ++ [c]) bb v j) (hb : Builtin.bitAnd bb 64 ≠ 0) : j < (l ++ [c]).length := by
  obtain ⟨h1, h2, h3, _⟩ := h
  rcases Nat.lt_or_ge j (l ++ [c]).length with h | h
  · exact h
  · have e : j = l.length + 1 := by simp at h2 h; omega
    subst e
    rw [h3] at hb
    simp only [Nat.add_sub_cancel, List.getElem?_concat_length, Option.getD_some] at hb
    rw [and64_octet, hc] at hb
    exact absurd rfl hb
theorem pvAt_end {l : List UInt8} {c : UInt8} {bb v : Int} {j : Nat} (hl : ∀ x ∈ l, x.toNat / 64 % 2 = 1) (h : PvAt (l ++ [c]) bb v j) (hb : Builtin.bitAnd bb 64 = 0) : j = l.length + 1 ∧ v = (vval (l ++ [c]) : Int) := by
  obtain ⟨h1, h2, h3, h4⟩ := h
  simp only [List.length_append, List.length_cons, List.length_nil] at h2
  rcases Nat.lt_or_ge (j - 1) l.length with h | h
  · rw [List.getElem?_append_left h, List.getElem?_eq_getElem h, Option.getD_some] at h3
    have := hl _ (List.getElem_mem h)
    rw [h3, and64_octet, this] at hb
    exact absurd hb (by decide)
  · have e : j = l.length + 1 := by omega
    subst e
    refine ⟨rfl, ?_⟩
    rw [h4, List.take_of_length_le (by simp)]
theorem pvAt_bits {q : List UInt8} {bb v : Int} {j : Nat} (h : PvAt q bb v j) (hq : q.length ≤ 10000) : (Builtin.Int.intBits v : Int) + 6 ≤ 2 ^ 27 := by
  obtain ⟨h1, h2, h3, h4⟩ := h
  have hv := vval_lt (q.take j)
  have hb : Builtin.Int.intBits v ≤ 6 * (q.take j).length := intBits_le_iff.mpr (by rw [h4]; simpa using hv)
  have hlen : (q.take j).length ≤ 10000 := by rw [List.length_take]; omega
  omega
theorem pvAt_next {q : List UInt8} {bb v : Int} {j : Nat} (h : PvAt q bb v j) (hj : j < q.length) : PvAt q ((q[j]?.getD 0).toNat : Int) (Builtin.bitOr (v * 2 ^ (6 : Int).toNat) (Builtin.bitAnd ((q[j]?.getD 0).toNat : Int) 63)) (j + 1) := by
  obtain ⟨h1, h2, h3, h4⟩ := h
  refine ⟨by omega, hj, rfl, ?_⟩
  rw [h4, and63_octet, shl6 _ _ (Nat.mod_lt _ (by decide)), List.take_add_one, List.getElem?_eq_getElem hj]
  simp only [Option.getD_some, Option.toList_some]
  rw [vval_snoc]
theorem at_of_drop {b : Array UInt8} {i j : Nat} {q rest : List UInt8} (hb : b.toList.drop i = q ++ rest) (hj : j < q.length) : b[i + j]? = some (q[j]?.getD 0) := by
  have h : (b.toList.drop i)[j]? = (q ++ rest)[j]? := by rw [hb]
  rw [List.getElem?_drop, List.getElem?_append_left hj, Array.getElem?_toList] at h
  rw [h, List.getElem?_eq_getElem hj]
  rfl
local macro_rules | `(tactic| walk_at "mine step") => `(tactic| first | (k_unfold; (try dsimp only)) | (k_end; wrow_close) | walk1 | (dsimp only; walk1) | (leave1; walk_say "STEP leave1"; try dsimp only))
local macro_rules | `(tactic| walk_at "mine while") => `(tactic| repeat' ((fail_if_success (with_reducible show wpAny _ _ (exec (Stmt.While _ _ _ _) _) _ _ _)); (fail_if_success (with_reducible show RetPost _ _ _ _ _ _)); (fail_if_success (with_reducible show KswEnd _ _ _ _ _ _ _ _ _ _ _ _));  (fail_if_success (with_reducible show wpAny _ _ (call (Value.builtin "next") _) _ _ _)); (fail_if_success (with_reducible show wpAny _ _ (inplaceOp Operator.LShift _ _) _ _ _)); walk_at "mine step"))
set_option maxRecDepth 100000
set_option maxHeartbeats 8000000
theorem parse_ok (w : World) (hd : Option Value) (it : Addr) (b : Array UInt8) (t : Tok) (i : Nat) (l rest : List UInt8) (c : UInt8) (hb : b.toList.drop i = (l ++ [c]) ++ rest) (hl : ∀ x ∈ l, x.toNat / 64 % 2 = 1) (hc : c.toNat / 64 % 2 = 0) (hsz : (l ++ [c]).length ≤ 10000) :
    CallsTo Challenge.rw_pu0001_02.row.prog w (hd02.heap_39 w.params) hd02.view_39 (looseW hd02.view_39 []) hd 1 28 [.ref it] [(it, itO b t i)] [] (fun v news' => (∃ u, v = .int (vval (l ++ [c])) u) ∧ news' = [(it, itO b t (i + (l.length + 1)))]) := by
  k_fill
  refine calls_of_body (binds := [(Str.ofString "iterator", .ref it)]) (by k_is) (by k_is) rfl rfl rfl rfl rfl (by decide) (look1 _ _) ?_
  intro mean mg mb dp un gd outer A₀ base g L s B F X N T Ro hr
  walk_at "mine while"
  refine next_item (c := (l ++ [c])[0]?.getD 0) (by assumption) (by assumption) (by simp) (at_of_drop (j := 0) hb (by simp)) ?_
  intro h' u tk F1 N1
  walk_at "mine while"
  refine' ksw_while (σ := Int × Int × Nat × Tok × Tok) (fun c => [(it, itO b t (i + c.2.2.1))]) (fun c => [(Str.ofString "b", .int c.1 c.2.2.2.1), (Str.ofString "val", .int c.2.1 c.2.2.2.2)]) (fun _ => True) [] (fun x => PvAt (l ++ [c]) x.1 x.2.1 x.2.2.1) (fun c => (l.length + 1) - c.2.2.1) (_, _, 1, _, _) (by assumption) (by assumption) trivial ?kk ?kp ?turn
  case kk => kst_all
  case kp => exact pvAt_one (by simp)
  case turn =>
    intro x u h tk _ hx F2 N2
    obtain ⟨bb, v, j, t1, t2⟩ := x
    dsimp only [kstB] at F2 hx N2 ⊢
    walk_at "mine while"
    · have hj := pvAt_more hc hx (by assumption)
      refine ilshift_int (by decide) (pvAt_bits hx hsz) ?_
      walk_at "mine while"
      refine next_item (c := (l ++ [c])[j]?.getD 0) (by assumption) (by assumption) (by simp) (at_of_drop hb hj) ?_
      intro h3 u3 tk3 F3 N3
      walk_at "mine while"
      refine' ksw_end (_, _, j + 1, _, _) (by assumption) (by assumption) (fun p hp => hp) trivial ?kk (by ksw_same) ?kp ?km
      case kk => kst_all
      case kp => exact pvAt_next hx hj
      case km => show l.length + 1 - (j + 1) < l.length + 1 - j; simp at hj; omega
    · obtain ⟨e1, e2⟩ := pvAt_end hl hx (by assumption)
      subst e1 e2
      exact retPost (by assumption) (by assumption) ⟨⟨_, rfl⟩, rfl⟩
end
section
open PySem PySem.W PyProof.Rows PySem.Calls PySem.Spec
local macro_rules | `(tactic| walk_at "mine step") => `(tactic| first | (k_unfold; (try dsimp only)) | (k_end; wrow_close) | walk1 | (dsimp only; walk1) | (leave1; walk_say "STEP leave1"; try dsimp only))
local macro_rules | `(tactic| walk_at "mine while") => `(tactic| repeat' ((fail_if_success (with_reducible show wpAny _ _ (exec (Stmt.While _ _ _ _) _) _ _ _)); (fail_if_success (with_reducible show RetPost _ _ _ _ _ _)); (fail_if_success (with_reducible show KswEnd _ _ _ _ _ _ _ _ _ _ _ _));  (fail_if_success (with_reducible show wpAny _ _ (call (Value.builtin "next") _) _ _ _)); (fail_if_success (with_reducible show wpAny _ _ (inplaceOp Operator.LShift _ _) _ _ _)); walk_at "mine step"))
set_option maxRecDepth 100000
set_option maxHeartbeats 8000000
theorem none_of_drop {b : Array UInt8} {i : Nat} {q : List UInt8} (hb : b.toList.drop i = q) : b[i + q.length]? = none := by
  have h : (b.toList.drop i)[q.length]? = q[q.length]? := by rw [hb]
  rw [List.getElem?_drop, Array.getElem?_toList] at h
  rw [h]; simp
theorem pvAt_bit {q : List UInt8} {bb v : Int} {j : Nat} (hl : ∀ x ∈ q, x.toNat / 64 % 2 = 1) (h : PvAt q bb v j) : Builtin.bitAnd bb 64 ≠ 0 := by
  obtain ⟨h1, h2, h3, h4⟩ := h
  have h : j - 1 < q.length := by omega
  rw [List.getElem?_eq_getElem h, Option.getD_some] at h3
  have := hl _ (List.getElem_mem h)
  rw [h3, and64_octet, this]
  decide
theorem parse_stop (w : World) (it : Addr) (b : Array UInt8) (t : Tok) (i : Nat) (q : List UInt8) (hb : b.toList.drop i = q) (hl : ∀ x ∈ q, x.toNat / 64 % 2 = 1) (hsz : q.length ≤ 10000) :
    RaisesTo Challenge.rw_pu0001_02.row.prog w (hd02.heap_39 w.params) hd02.view_39 (looseW hd02.view_39 []) 1 28 [.ref it] [(it, itO b t i)] [] "StopIteration" := by
  k_fill
  refine raises_of_body (binds := [(Str.ofString "iterator", .ref it)]) (by k_is) (by k_is) rfl rfl rfl rfl rfl (by decide) (look1 _ _) ?_
  intro mean mg mb dp un gd env outer base g L s E B F X N T Ro hr hE
  have hb' : b.toList.drop i = q ++ [] := by simpa using hb
  walk_at "mine while"
  rcases Nat.eq_zero_or_pos q.length with h0 | h0
  · refine next_stop rfl (by assumption) (by assumption) (by simp) ?_ ?_
    · have := none_of_drop hb; rwa [h0] at this
    · intro h₁ h' e F1 N1 hx
      exact leave_newS B hx F1 N1 (fun h2 R1 _ U1 => hE _ _ _ R1 U1)
  refine next_item (c := q[0]?.getD 0) (by assumption) (by assumption) (by simp) (at_of_drop (j := 0) hb' h0) ?_
  intro h' u tk F1 N1
  walk_at "mine while"
  refine' ksw_while (σ := Int × Int × Nat × Tok × Tok) (fun c => [(it, itO b t (i + c.2.2.1))]) (fun c => [(Str.ofString "b", .int c.1 c.2.2.2.1), (Str.ofString "val", .int c.2.1 c.2.2.2.2)]) (fun _ => True) [] (fun x => PvAt q x.1 x.2.1 x.2.2.1) (fun c => q.length - c.2.2.1) (_, _, 1, _, _) (by assumption) (by assumption) trivial ?kk ?kp ?turn
  case kk => kst_all
  case kp => exact pvAt_one (by omega)
  case turn =>
    intro x u h tk _ hx F2 N2
    obtain ⟨bb, v, j, t1, t2⟩ := x
    dsimp only [kstB] at F2 hx N2 ⊢
    walk_at "mine while"
    · refine ilshift_int (by decide) (pvAt_bits hx hsz) ?_
      walk_at "mine while"
      rcases Nat.lt_or_ge j q.length with hj | hj
      · refine next_item (c := q[j]?.getD 0) (by assumption) (by assumption) (by simp) (at_of_drop hb' hj) ?_
        intro h3 u3 tk3 F3 N3
        walk_at "mine while"
        refine' ksw_end (_, _, j + 1, _, _) (by assumption) (by assumption) (fun p hp => hp) trivial ?kk (by ksw_same) ?kp ?km
        case kk => kst_all
        case kp => exact pvAt_next hx hj
        case km => show q.length - (j + 1) < q.length - j; omega
      · have e : j = q.length := Nat.le_antisymm hx.2.1 hj
        refine next_stop rfl (by assumption) (by assumption) (by simp) (by rw [e]; exact none_of_drop hb) ?_
        intro h₁ h' e F1 N1 hx
        exact leave_newS B hx F1 N1 (fun h2 R1 _ U1 => hE _ _ _ R1 U1)
    · exact absurd (by assumption) (pvAt_bit hl hx)
end
section
open PySem PySem.W PyProof.Rows PySem.Calls PySem.Spec
set_option maxRecDepth 100000
def IsLit (o : Obj) (l : Addr) (i : Nat) : Prop := o.cls = .type "list_iterator" ∧ o.data = .fields #[.ref l, .int i 0]
abbrev ritO (x left step : Int) : Obj := { cls := .type "range_iterator", data := .fields #[rawInt x, rawInt left, rawInt step] }
/-- how a turn of a loop ends: io is the iterator's object, J what holds between the turns -/
def ForPost (L : Addr) (s : Shared) (J : Heap → (Str → Option Value) → Led → Prop) (I : Addr) (io : Obj) (Q : Flow → Shared → Prop) (f : Flow) (s₃ : Shared) : Prop :=
  match f with
  | .next | .cont => ∃ g' m' news' h' tk', s₃ = { s with heap := h', toks := tk' } ∧ Fr g' L h' m' ∧ News g' L h' ((I, io) :: news') ∧ (∀ p ∈ news', p.1 ≠ I) ∧ J g' m' news'
  | .brk => Q .next s₃
  | .ret v => Q (.ret v) s₃
theorem forPost {L : Addr} {s : Shared} {J : Heap → (Str → Option Value) → Led → Prop} {I : Addr} {io : Obj} {Q : Flow → Shared → Prop} {g' : Heap} {m' : Str → Option Value} {news' : Led} {h' : Heap} {tk' : Nat}
    (F : Fr g' L h' m') (N : News g' L h' ((I, io) :: news')) (Ap : ∀ p ∈ news', p.1 ≠ I) (j : J g' m' news') : ForPost L s J I io Q .next { s with heap := h', toks := tk' } := ⟨g', m', news', h', tk', rfl, F, N, Ap, j⟩
theorem news_keep {g h h' : Heap} {L I : Addr} {news : Led} (N : News g L h news) (Ap : ∀ p ∈ news, p.1 ≠ I) (he : Heap.ExtBut I h h') : News g L h' news := fun p hp => ⟨he _ _ (Ap p hp) (N p hp).1, (N p hp).2⟩
theorem fr_keep {g h h' : Heap} {L I : Addr} {m : Str → Option Value} (F : Fr g L h m) (hL : I ≠ L) (hn : g.get? I = none) (he : Heap.ExtBut I h h') : Fr g L h' m := by
  obtain ⟨oL, es, ep, e, r⟩ := F.ns
  refine ⟨⟨oL, es, ep, he _ _ (Ne.symm hL) e, r⟩, fun b o q => he _ _ (fun z => ?_) (F.keep b o q), F.above⟩
  rw [z, hn] at q
  cases q
theorem map_ext {m m' : Str → Option Value} (ns : List Str) (h : ∀ x ∈ ns, m x = m' x) (h2 : ∀ y, (∀ x ∈ ns, y ≠ x) → m y = m' y) : m = m' := by
  funext y
  by_cases hy : y ∈ ns
  · exact h y hy
  · exact h2 y fun x hx e => hy (e ▸ hx)
section
variable {prog : Program} {w : World} {A : Around} {E : Value → Shared → Prop} {s : Shared} {env : Env} {g : Heap} {L : Addr} {m : Str → Option Value} {news : Led} {target : Expr} {body : List Stmt} {Q : Flow → Shared → Prop}
theorem for_list {l : Addr} {items : Array Value} (J : Nat → Heap → (Str → Option Value) → Led → Prop) (hh : A.handled = none) (F : Fr g L s.heap m) (N : News g L s.heap news) (hJ : J 0 g m news)
    (hl : ∀ i g m news h, J i g m news → Fr g L h m → News g L h news → h.IsList l items)
    (turn : ∀ i g m news h tk I io v, items[i]? = some v → J i g m news → Fr g L h m → News g L h ((I, io) :: news) → (∀ p ∈ news, p.1 ≠ I) →
      wpAny (model prog w) A (assign target env v) (fun _ s₂ => wpAny (model prog w) A (execs body env) (ForPost L s (J (i + 1)) I io Q) E s₂) E { s with heap := h, toks := tk })
    (done : ∀ g m news h tk, J items.size g m news → Fr g L h m → News g L h news → Q .next { s with heap := h, toks := tk })
    (ht : ∀ it v, letOwnedTupleGo target it v = pure () := by intro _ _; rfl)
    (hE : PassesOwn (model prog w) A env E := by passes_own) :
    wpAny (model prog w) A (pyIter (.ref l)) (fun it s₂ => codeAny (model prog w) A (.forLoop target it body [] env) (fun r s' => match r with | .ok f => Q f s' | .error e => cameBackBy (model prog w) A env E e s') s₂) E s := by
  refine wpAny_pyIter_list (hl 0 g m news _ hJ F N) ?_
  have hsz := fun p hp => Heap.lt_size (N p hp).1
  refine codeAny_forLoop (fun k s' => ∃ i g' m' news' h' tk' io, k = items.size - i ∧ i ≤ items.size ∧ s' = { s with heap := h', toks := tk' } ∧ J i g' m' news' ∧ Fr g' L h' m' ∧ News g' L h' ((s.heap.objs.size, io) :: news') ∧ (∀ p ∈ news', p.1 ≠ s.heap.objs.size) ∧ IsLit io l i) ?_ (items.size - 0)
    ⟨0, g, m, news, _, s.toks, _, rfl, Nat.zero_le _, rfl, hJ, F.push _, News.push F N _ rfl, fun p hp => Nat.ne_of_lt (hsz p hp), rfl, rfl⟩ (ht _)
  rintro k s' ⟨i, g', m', news', h', tk', io, rfl, hi, rfl, hj, F', N', Ap, hio⟩
  have hit := N' (s.heap.objs.size, io) (.head _)
  have hN := nwSub N' (fun p hp => List.mem_cons_of_mem _ hp)
  have hlist := hl i g' m' news' _ hj F' hN
  rcases Nat.lt_or_ge i items.size with h | h
  · refine wpAny_pyNext_list_item (x := items[i]) ⟨_, hit.1, hio⟩ hlist (by simp [h]) fun h₁ hit₁ hs₁ => ?_
    obtain ⟨io₁, hit₂, hio₁⟩ := hit₁
    have he := hs₁.extBut
    refine wpAny_mono (turn i g' m' news' h₁ tk' s.heap.objs.size io₁ items[i] (by simp [h]) hj (fr_keep F' hit.2.1 hit.2.2 he) (fun p hp => ?_) Ap) (fun _ s₂ h₂ => wpAny_mono h₂ (fun f s₃ h₃ => ?_) hE) hE
    · rcases List.mem_cons.mp hp with rfl | hp
      · exact ⟨hit₂, hit.2⟩
      · exact news_keep hN Ap he p hp
    · cases f with
      | next =>
        obtain ⟨g₂, m₂, news₂, h₂, tk₂, rfl, F₂, N₂, Ap₂, j₂⟩ := h₃
        exact ⟨items.size - (i + 1), by omega, i + 1, g₂, m₂, news₂, h₂, tk₂, io₁, rfl, h, rfl, j₂, F₂, N₂, Ap₂, hio₁⟩
      | cont =>
        obtain ⟨g₂, m₂, news₂, h₂, tk₂, rfl, F₂, N₂, Ap₂, j₂⟩ := h₃
        exact ⟨items.size - (i + 1), by omega, i + 1, g₂, m₂, news₂, h₂, tk₂, io₁, rfl, h, rfl, j₂, F₂, N₂, Ap₂, hio₁⟩
      | brk => exact h₃
      | ret v => exact h₃
  · have e : i = items.size := Nat.le_antisymm hi h
    subst e
    refine wpAny_pyNext_list_end hh ⟨_, hit.1, hio⟩ hlist (by simp) fun h₁ he => ?_
    exact wpAny_execs_nil (done g' m' news' h₁ tk' hj (fr_keep F' hit.2.1 hit.2.2 he) (news_keep hN Ap he))
theorem for_range {r : Addr} {a b c : Int} {t u v : Tok} {n : Nat} (J : Nat → Heap → (Str → Option Value) → Led → Prop) (hh : A.handled = none) (F : Fr g L s.heap m) (N : News g L s.heap news) (hJ : J 0 g m news)
    (hr : IsRange s.heap r a b c t u v) (hsmall : Builtin.Range.small a b c = true) (hn : Builtin.Range.rangeSize a b c = (n : Int))
    (turn : ∀ i g m news h tk I io t, i < n → J i g m news → Fr g L h m → News g L h ((I, io) :: news) → (∀ p ∈ news, p.1 ≠ I) →
      wpAny (model prog w) A (assign target env (.int (a + c * i) t)) (fun _ s₂ => wpAny (model prog w) A (execs body env) (ForPost L s (J (i + 1)) I io Q) E s₂) E { s with heap := h, toks := tk })
    (done : ∀ g m news h tk, J n g m news → Fr g L h m → News g L h news → Q .next { s with heap := h, toks := tk })
    (ht : ∀ it v, letOwnedTupleGo target it v = pure () := by intro _ _; rfl)
    (hE : PassesOwn (model prog w) A env E := by passes_own) :
    wpAny (model prog w) A (pyIter (.ref r)) (fun it s₂ => codeAny (model prog w) A (.forLoop target it body [] env) (fun r s' => match r with | .ok f => Q f s' | .error e => cameBackBy (model prog w) A env E e s') s₂) E s := by
  refine wpAny_pyIter_range hr hsmall ?_
  have hsz := fun p hp => Heap.lt_size (N p hp).1
  rw [hn]
  refine codeAny_forLoop (fun k s' => ∃ i g' m' news' h' tk', k = n - i ∧ i ≤ n ∧ s' = { s with heap := h', toks := tk' } ∧ J i g' m' news' ∧ Fr g' L h' m' ∧ News g' L h' ((s.heap.objs.size, ritO (a + c * i) ((n : Int) - i) c) :: news') ∧ (∀ p ∈ news', p.1 ≠ s.heap.objs.size)) ?_ (n - 0)
    ⟨0, g, m, news, _, s.toks, rfl, Nat.zero_le _, rfl, hJ, F.push _, by simpa using News.push F N { cls := .type "range_iterator", data := .fields #[rawInt a, rawInt n, rawInt c] } rfl, fun p hp => Nat.ne_of_lt (hsz p hp)⟩ (ht _)
  rintro k s' ⟨i, g', m', news', h', tk', rfl, hi, rfl, hj, F', N', Ap⟩
  have hit := N' (s.heap.objs.size, ritO (a + c * i) ((n : Int) - i) c) (.head _)
  have hN := nwSub N' (fun p hp => List.mem_cons_of_mem _ hp)
  rcases Nat.lt_or_ge i n with h | h
  · refine wpAny_pyNext_range_item hit.1 (by omega) fun h₁ hit₂ hs₁ => ?_
    have he := hs₁.extBut
    have e1 : a + c * (i : Int) + c = a + c * ((i + 1 : Nat) : Int) := by rw [Int.natCast_add, Int.mul_add]; simp [Int.add_assoc]
    have e2 : (n : Int) - i - 1 = (n : Int) - ((i + 1 : Nat) : Int) := by omega
    rw [e1, e2] at hit₂
    refine wpAny_mono (turn i g' m' news' h₁ (tk' + 1) s.heap.objs.size (ritO (a + c * ((i + 1 : Nat) : Int)) ((n : Int) - ((i + 1 : Nat) : Int)) c) tk' h hj (fr_keep F' hit.2.1 hit.2.2 he) (fun p hp => ?_) Ap) (fun _ s₂ h₂ => wpAny_mono h₂ (fun f s₃ h₃ => ?_) hE) hE
    · rcases List.mem_cons.mp hp with rfl | hp
      · exact ⟨hit₂, hit.2⟩
      · exact news_keep hN Ap he p hp
    · cases f with
      | next =>
        obtain ⟨g₂, m₂, news₂, h₂, tk₂, rfl, F₂, N₂, Ap₂, j₂⟩ := h₃
        exact ⟨n - (i + 1), by omega, i + 1, g₂, m₂, news₂, h₂, tk₂, rfl, h, rfl, j₂, F₂, N₂, Ap₂⟩
      | cont =>
        obtain ⟨g₂, m₂, news₂, h₂, tk₂, rfl, F₂, N₂, Ap₂, j₂⟩ := h₃
        exact ⟨n - (i + 1), by omega, i + 1, g₂, m₂, news₂, h₂, tk₂, rfl, h, rfl, j₂, F₂, N₂, Ap₂⟩
      | brk => exact h₃
      | ret v => exact h₃
  · have e : i = n := Nat.le_antisymm hi h
    subst e
    refine wpAny_pyNext_range_end hh hit.1 (by omega) fun h₁ he => ?_
    exact wpAny_execs_nil (done g' m' news' h₁ tk' hj (fr_keep F' hit.2.1 hit.2.2 he) (news_keep hN Ap he))
end
section
variable {prog : Program} {w : World} {A : Around} {E : Value → Shared → Prop} {s : Shared} {g : Heap} {L : Addr} {m : Str → Option Value} {news : Led}
/-- a list's slice is a new list -/
theorem slice_L {value slice : PySem.Expr} {ops : List Value} {l : Addr} {items : Array Value} {vl vu vst : Value} {lo hi st : Option Int} {Q : Value → Shared → Prop} (F : Fr g L s.heap m) (N : News g L s.heap news) (hl : s.heap.IsList l items) (pl : IsPart vl lo) (pu : IsPart vu hi) (ps : IsPart vst st) (h0 : st ≠ some 0)
    (h : ∀ (D : Addr) h', Fr g L h' m → News g L h' ((D, listOf (slicePick items lo hi st) 0) :: news) → (∀ p ∈ news, p.1 < D) → Q (.ref D) { s with heap := h' }) (hsz : items.size ≤ 16777216)
    (hs : subscripted slice false (.ref l) (.ref s.heap.objs.size) = operate ops (getItem (.ref l) (.ref s.heap.objs.size)) := by with_unfolding_all rfl) :
    wpAny (model prog w) A (subscriptTail value slice (.ref l) (.ref s.heap.objs.size)) Q E { s with heap := s.heap.push { cls := .type "slice", data := .fields #[vl, vu, vst] } } := by
  have hl' : ({ s with heap := s.heap.push { cls := .type "slice", data := .fields #[vl, vu, vst] } } : Shared).heap.IsList l items := hl.push _
  refine tail_any hl'.typeIs slot_list_getitem.lookup (wpAny_getItem_list_slice hl' (Heap.IsSliceOf.new _ _ _ _) pl pu ps h0 ?_ (by rw [sizeLine_eq]; exact hsz)) hs
  have F1 := F.push { cls := .type "slice", data := .fields #[vl, vu, vst] }
  have N1 := News.push F N { cls := .type "slice", data := .fields #[vl, vu, vst] } rfl
  refine h _ _ (F1.push _) (nwSub (News.push F1 N1 _ rfl) ?_) fun p hp => ?_
  · intro p hp
    rcases List.mem_cons.mp hp with rfl | hp
    · exact .head _
    · exact .tail _ (.tail _ hp)
  · show p.1 < (s.heap.push _).objs.size
    rw [Heap.size_push]
    exact Nat.lt_succ_of_lt (Heap.lt_size (N p hp).1)
/-- two lists joined are a new one -/
theorem add_L {l b : Addr} {vs ws : List Value} {Q : Value → Shared → Prop} (F : Fr g L s.heap m) (N : News g L s.heap news) (hl : s.heap.IsList l vs.toArray) (hb : s.heap.IsList b ws.toArray)
    (h : ∀ (D : Addr) h', Fr g L h' m → News g L h' ((D, listOf (vs ++ ws).toArray 0) :: news) → (∀ p ∈ news, p.1 < D) → Q (.ref D) { s with heap := h' }) (hsz : vs.length + ws.length ≤ 16777216) :
    wpAny (model prog w) A (binaryOp .Add (.ref l) (.ref b)) Q E s :=
  add_lists F N hl hb (fun h' F' N' => h _ h' F' N' fun p hp => Heap.lt_size (N p hp).1) (by rw [sizeLine_eq]; exact hsz)
theorem ints6 {vs : List Value} {ns : List Int} (h : IntsAre vs ns) (hl : ns.length = 6) : ∃ d0 d1 d2 d3 d4 d5 t0 t1 t2 t3 t4 t5, vs = [Value.int d0 t0, .int d1 t1, .int d2 t2, .int d3 t3, .int d4 t4, .int d5 t5] := by
  match ns, hl with
  | [d0, d1, d2, d3, d4, d5], _ =>
    obtain ⟨t0, v0, rfl, h0⟩ := h.cons_inv
    obtain ⟨t1, v1, rfl, h1⟩ := h0.cons_inv
    obtain ⟨t2, v2, rfl, h2⟩ := h1.cons_inv
    obtain ⟨t3, v3, rfl, h3⟩ := h2.cons_inv
    obtain ⟨t4, v4, rfl, h4⟩ := h3.cons_inv
    obtain ⟨t5, v5, rfl, h5⟩ := h4.cons_inv
    obtain rfl := h5.nil_inv
    exact ⟨d0, d1, d2, d3, d4, d5, t0, t1, t2, t3, t4, t5, rfl⟩
end
end
section
open PySem PySem.W PyProof.Rows PySem.Calls PySem.Spec
local macro_rules | `(tactic| walk_at "mine step") => `(tactic| first | (k_unfold; (try dsimp only)) | (k_end; wrow_close) | walk1 | (dsimp only; walk1) | (leave1; walk_say "STEP leave1"; try dsimp only))
local macro_rules | `(tactic| walk_at "mine go") => `(tactic| repeat' ((fail_if_success (with_reducible show wpAny _ _ (exec (Stmt.While _ _ _ _) _) _ _ _)); (fail_if_success (with_reducible show RetPostS _ _ _ _ _ _ _)); (fail_if_success (with_reducible show KswEnd _ _ _ _ _ _ _ _ _ _ _ _));  (fail_if_success (with_reducible show wpAny _ _ (call (Value.ref _) _) _ _ _)); (fail_if_success (with_reducible show wpAny _ _ (call (Value.builtin "iter") _) _ _ _)); (fail_if_success (with_reducible show wpAny _ _ (call (Value.builtin "list.append") _) _ _ _)); walk_at "mine step"))
set_option maxRecDepth 100000
set_option maxHeartbeats 8000000
abbrev zs (l : List Nat) : List Int := l.map Int.ofNat
theorem apOct_toNat (n : Nat) : ((65 + n % 16).toUInt8).toNat = 65 + n % 16 := by
  simp only [Nat.toUInt8, UInt8.toNat_ofNat']
  omega
theorem isExc_stop : isSubtype (.type "StopIteration") (.type "BaseException") = pure true := by rw [isSubtype_type]; kernel_rfl
theorem notTuple_stop : isSubtype (.type ((Manifest.find? "StopIteration").elim "type" fun y => y.metatype)) (.type "tuple") = pure false := by
  rw [show ((Manifest.find? "StopIteration").elim "type" fun x => x.metatype) = "type" from by kernel_rfl, isSubtype_type]; kernel_rfl
def segL (segs : List (List UInt8 × UInt8)) : List UInt8 := segs.flatMap fun p => p.1 ++ [p.2]
def segAt (segs : List (List UInt8 × UInt8)) (i : Nat) : Nat := (segL (segs.take i)).length
def segV (segs : List (List UInt8 × UInt8)) : List Nat := segs.map fun p => vval (p.1 ++ [p.2])
theorem seg_succ {segs : List (List UInt8 × UInt8)} {i : Nat} {p : List UInt8 × UInt8} (h : segs[i]? = some p) : segAt segs (i + 1) = segAt segs i + (p.1.length + 1) := by
  simp [segAt, segL, List.take_add_one, h, List.flatMap_append]
theorem seg_drop {b : Array UInt8} {segs : List (List UInt8 × UInt8)} {tail : List UInt8} (hb : b.toList = segL segs ++ tail) (i : Nat) : b.toList.drop (segAt segs i) = segL (segs.drop i) ++ tail := by
  have e : segL segs = segL (segs.take i) ++ segL (segs.drop i) := by rw [segL, segL, segL, ← List.flatMap_append, List.take_append_drop]
  rw [hb, e, List.append_assoc, segAt, List.drop_left]
theorem seg_len (segs : List (List UInt8 × UInt8)) : segs.length ≤ (segL segs).length := by
  induction segs with
  | nil => exact Nat.le_refl _
  | cons p r ih => simp only [segL, List.flatMap_cons, List.length_append, List.length_cons, List.length_nil] at ih ⊢; omega
theorem segV_succ {segs : List (List UInt8 × UInt8)} {i : Nat} {p : List UInt8 × UInt8} (h : segs[i]? = some p) : segV (segs.take (i + 1)) = segV (segs.take i) ++ [vval (p.1 ++ [p.2])] := by
  simp [segV, List.take_add_one, h]
theorem law_read (w : World) (b : Array UInt8) (t : Tok) (segs : List (List UInt8 × UInt8)) (tail : List UInt8) (hb : b.toList = segL segs ++ tail)
    (hseg : ∀ p ∈ segs, (∀ x ∈ p.1, x.toNat / 64 % 2 = 1) ∧ p.2.toNat / 64 % 2 = 0) (htail : ∀ x ∈ tail, x.toNat / 64 % 2 = 1) (hsz : b.toList.length ≤ 10000) :
    CallsToS Challenge.rw_pu0001_02.row.prog w (hd02.heap_39 w.params) hd02.view_39 (looseW hd02.view_39 []) 2 35 [.bytes b t] [] [] (fun v news' => ∃ r vs e, v = .ref r ∧ news' = [(r, listOf vs.toArray e)] ∧ IntsAre vs (zs (segV segs))) := by
  k_fill
  refine callsS_of_body (binds := [(Str.ofString "row", .bytes b t)]) (by k_is) (by k_is) rfl rfl rfl rfl rfl (by decide) (look1 _ _) ?_
  intro mean mg mb dp un gd env outer base g L s B F X N T Ro XB TB D hr
  walk_at "mine go"
  refine iter_bytes (by assumption) (by assumption) ?_
  intro I1 h3 F3 N3 l3
  walk_at "mine go"
  rename Fr _ _ _ _ => F4
  rename News _ _ _ _ => N4
  rename_i num hx4 hlt tk4
  have hne : num ≠ I1 := Nat.ne_of_gt hlt
  refine' ksw_while (σ := Nat × List Value × Nat) (fun c => [(num, listOf c.2.1.toArray c.2.2), (I1, itO b t (segAt segs c.1))]) (fun _ => []) (fun _ => True) [] (fun c => c.1 ≤ segs.length ∧ IntsAre c.2.1 (zs (segV (segs.take c.1)))) (fun c => segs.length - c.1) (0, [], 0) F4 N4 trivial (by simp) ⟨Nat.zero_le _, .nil⟩ ?turn
  case turn =>
    rintro ⟨i, vs, e⟩ u h tk _ ⟨hi, hvs⟩ F5 N5
    dsimp only [kstB] at F5 N5 hi hvs ⊢
    clear F4 N4
    walk_at "mine go"
    have N6 : News g L h ([(I1, itO b t (segAt segs i))] ++ [(num, listOf vs.toArray e)]) := nwSub N5 (by intro p hp; simp only [List.cons_append, List.nil_append, List.mem_cons, List.not_mem_nil, or_false] at hp ⊢; rcases hp with rfl | rfl <;> simp)
    have hbd := seg_drop hb i
    have hvl : vs.length ≤ 10000 := by
      have e1 := hvs.length
      have e2 := seg_len segs
      have e3 := congrArg List.length hb
      simp only [List.length_map, segV, List.length_take, List.length_append] at e1 e2 e3
      omega
    rcases Nat.lt_or_ge i segs.length with hil | hil
    · obtain ⟨p, hp⟩ : ∃ p, segs[i]? = some p := ⟨segs[i], by simp [hil]⟩
      have hpm := hseg p (List.mem_of_getElem? hp)
      have hdr : segs.drop i = p :: segs.drop (i + 1) := by rw [List.drop_eq_getElem_cons hil]; congr 1; rw [List.getElem?_eq_getElem hil] at hp; exact Option.some.inj hp
      rw [hdr, segL, List.flatMap_cons, List.append_assoc] at hbd
      refine calls_use (parse_ok w none I1 b t (segAt segs i) p.1 _ p.2 hbd hpm.1 hpm.2 ?_) B F5 X N6 T (by simpa using Ne.symm hne) (by simp) rfl rfl (by show dp + 1 + 1 < recursionLimit; omega) ?_
      · have := congrArg List.length hbd
        simp only [List.length_drop, List.length_append] at this hsz ⊢
        omega
      rintro v7 news7 h7 tk7 ⟨⟨u7, rfl⟩, rfl⟩ F7 N7 _
      clear N5 N6 F5
      simp only [List.cons_append, List.nil_append] at N7
      walk_at "mine go"
      refine append_K F7 N7 (Upd.tail (Ne.symm hne) (Upd.head (by simp))) ?_ (by rw [sizeLine_eq]; simp; omega)
      intro h8 F8 N8
      rw [List.push_toArray] at N8
      walk_at "mine go"
      refine' ksw_end (i + 1, (vs ++ [Value.int (vval (p.1 ++ [p.2]) : Nat) u7], e + 1)) F8 N8 ?_ trivial (by simp) (by ksw_same) ?_ ?_
      · intro q hq
        rw [seg_succ hp] at hq
        simp only [List.mem_cons, List.not_mem_nil, or_false] at hq ⊢
        rcases hq with rfl | rfl <;> simp
      · refine ⟨hil, ?_⟩
        show IntsAre (vs ++ [_]) _
        rw [segV_succ hp, zs, List.map_append]
        exact hvs.append (.cons _ _ .nil)
      · show segs.length - (i + 1) < segs.length - i
        omega
    · refine raises_use (parse_stop w I1 b t (segAt segs i) tail (by rw [hbd, List.drop_of_length_le hil]; rfl) htail ?_) B F5 X N6 T (by simpa using Ne.symm hne) (by simp) rfl rfl (by show dp + 1 + 1 < recursionLimit; omega) ?_
      · have := congrArg List.length hb
        simp only [List.length_append] at this
        omega
      intro G e h5 tk5 FG R U
      refine caught_SN0 (T' := "StopIteration") R FG B U XB TB D KtsTurn.refl (by k_is) PyProof.Rows.Boot.«StopIteration» (by decide) isExc_stop notTuple_stop isSubtype_stop ?_
      intro h6 g' T6 F6 N6 B6 X6 P6 D6
      clear R FG B X T D
      walk_at "mine go"
      rw [List.take_of_length_le hil] at hvs
      exact retPostS T6 F6 N6 ⟨_, _, _, rfl, rfl, hvs⟩
end
section
open PySem PySem.W PyProof.Rows PySem.Calls PySem.Spec
local macro_rules | `(tactic| walk_at "mine step") => `(tactic| first | (k_unfold; (try dsimp only)) | (k_end; wrow_close) | walk1 | (dsimp only; walk1) | (leave1; walk_say "STEP leave1"; try dsimp only))
local macro_rules | `(tactic| walk_at "mine go") => `(tactic| repeat' ((fail_if_success (with_reducible show wpAny _ _ (exec (Stmt.For _ _ _ _ _) _) _ _ _)); (fail_if_success (with_reducible show RetPost _ _ _ _ _ _)); (fail_if_success (with_reducible show ForPost _ _ _ _ _ _ _ _));  (fail_if_success (with_reducible show wpAny _ _ (call (Value.ref _) _) _ _ _)); (fail_if_success (with_reducible show wpAny _ _ (binaryOp Operator.Pow _ _) _ _ _)); (fail_if_success (with_reducible show wpAny _ _ (binaryOp Operator.Add (Value.ref _) (Value.ref _)) _ _ _)); (fail_if_success (with_reducible show wpAny _ _ (call (Value.builtin "max") _) _ _ _)); (fail_if_success (with_reducible show wpAny _ _ (pyIter _) _ _ _)); walk_at "mine step"))
set_option maxRecDepth 100000
set_option maxHeartbeats 8000000
def powS (ss : List Nat) : Nat := (ss.map fun p => 64 ^ (p + 1)).sum
def topN (ss : List Nat) : Nat := ss.foldl (fun a p => max a (p + 1)) 0
def gapS (n : Nat) : Nat := ((List.range n).map fun j => 64 ^ (j + 1)).sum
def dueN (c : Nat) (ss : List Nat) : Nat := c % 64 + powS ss + gapS (topN ss)
theorem fmod64 (k : Nat) : (k : Int).fmod 64 = ((k % 64 : Nat) : Int) := by rw [Int.fmod_eq_emod_of_nonneg _ (by decide)]; omega
theorem powS_snoc (l : List Nat) (p : Nat) : powS (l ++ [p]) = powS l + 64 ^ (p + 1) := by simp [powS]
theorem gapS_succ (n : Nat) : gapS (n + 1) = gapS n + 64 ^ (n + 1) := by simp [gapS, List.range_succ]
theorem take_succ_at {α : Type} {l : List α} {j : Nat} {b : α} (h : l[j]? = some b) : l.take (j + 1) = l.take j ++ [b] := by
  rw [List.take_add_one, h]
  rfl
theorem pow64 {p : Nat} : (64 : Int) ^ ((p : Int) + 1).toNat = ((64 ^ (p + 1) : Nat) : Int) := by
  rw [show ((p : Int) + 1).toNat = p + 1 by omega]; simp
theorem map2 {m m' : Str → Option Value} (a b : Str) (h1 : m a = m' a) (h2 : m b = m' b) (h : ∀ y, y ≠ a → y ≠ b → m y = m' y) : m = m' := by
  funext y
  by_cases k1 : y = a
  · subst k1; exact h1
  by_cases k2 : y = b
  · subst k2; exact h2
  exact h y k1 k2
theorem topN_snoc (l : List Nat) (p : Nat) : topN (l ++ [p]) = max (topN l) (p + 1) := by simp [topN]
theorem topN_ub (l : List Nat) : ∀ p ∈ l, p + 1 ≤ topN l := by
  have h : ∀ (l : List Nat) (a : Nat), a ≤ l.foldl (fun a p => max a (p + 1)) a ∧ ∀ p ∈ l, p + 1 ≤ l.foldl (fun a p => max a (p + 1)) a := by
    intro l
    induction l with
    | nil => intro a; exact ⟨Nat.le_refl _, by simp⟩
    | cons x r ih =>
      intro a
      have := ih (max a (x + 1))
      rw [List.foldl_cons]
      refine ⟨by omega, ?_⟩
      intro p hp
      rcases List.mem_cons.mp hp with rfl | hp
      · omega
      · exact this.2 p hp
  exact (h l 0).2
theorem topN_le {l : List Nat} {b : Nat} (h : ∀ p ∈ l, p + 1 ≤ b) : topN l ≤ b := by
  have h : ∀ (l : List Nat) (a : Nat), a ≤ b → (∀ p ∈ l, p + 1 ≤ b) → l.foldl (fun a p => max a (p + 1)) a ≤ b := by
    intro l
    induction l with
    | nil => intro a h _; exact h
    | cons x r ih => intro a h hl; exact ih _ (by have := hl x (.head _); show max a (x + 1) ≤ b; omega) fun p hp => hl p (.tail _ hp)
  exact h l 0 (Nat.zero_le _) ‹_›
theorem topN_max {ss : List Nat} {M : Int} (h1 : M ∈ zs ss ++ [-1]) (h2 : ∀ a ∈ zs ss ++ [-1], a ≤ M) : M + 1 = (topN ss : Nat) := by
  have h3 : ∀ p ∈ ss, (p : Int) ≤ M := fun p hp => h2 _ (List.mem_append_left _ (List.mem_map_of_mem (f := Int.ofNat) hp))
  have h4 := h2 (-1) (by simp)
  have u1 := topN_le (l := ss) (b := (M + 1).toNat) (fun p hp => by have := h3 p hp; omega)
  rcases List.mem_append.mp h1 with h | h
  · obtain ⟨p, hp, rfl⟩ := List.mem_map.mp h
    have u2 := topN_ub ss p hp
    simp only [Int.ofNat_eq_natCast] at u1 ⊢
    omega
  · simp only [List.mem_cons, List.not_mem_nil, or_false] at h
    omega
theorem rsmall1 {n : Nat} (h : n ≤ 1001) : Builtin.Range.small 0 ((n : Nat) : Int) 1 = true := by
  unfold Builtin.Range.small
  rw [rangeSize_nat]
  simp [Builtin.Range.rangeFitsLong]
  omega
theorem law_due (w : World) (c : Nat) (t : Tok) (ss : List Nat) (sl : Addr) (svs : List Value) (ep : Nat) (hs : IntsAre svs (zs ss)) (hb : ∀ p ∈ ss, p ≤ 1000) (hlen : ss.length ≤ 1000) :
    CallsTo Challenge.rw_pu0001_02.row.prog w (hd02.heap_39 w.params) hd02.view_39 (looseW hd02.view_39 []) none 1 68 [.int c t, .ref sl] [] [(sl, listOf svs.toArray ep)] (fun v news' => (∃ u, v = .int (dueN c ss : Nat) u) ∧ news' = []) := by
  k_fill
  refine calls_of_body (binds := [(Str.ofString "closing", .int c t), (Str.ofString "sums", .ref sl)]) (by k_is) (by k_is) rfl rfl rfl rfl rfl (by decide) (look2 _ _ _ _) ?_
  intro mean mg mb dp un gd outer A₀ base g L s B F X N T Ro hr
  have hsl : g.IsList sl svs.toArray := ⟨_, Ro _ (.head _), rfl, _, rfl⟩
  have hsle : svs.length = ss.length := by rw [hs.length, List.length_map]
  walk_at "mine go"
  refine wpAny_For ?_
  walk_at "mine go"
  rename Fr _ _ _ _ => F1
  rename News _ _ _ _ => N1
  rw [fmod64] at F1
  refine for_list (items := svs.toArray) (fun i g' m' news' => ∃ td pv, g' = g ∧ i ≤ ss.length ∧ news' = [] ∧ m' = (fun y => if y = Str.ofString "due" then some (.int (c % 64 + powS (ss.take i) : Nat) td) else if y = Str.ofString "power" then pv else if y = Str.ofString "sums" then some (.ref sl) else if y = Str.ofString "closing" then some (.int c t) else none)) rfl F1 N1 ?_ ?_ ?_ ?_
  · refine ⟨s.toks + 1, none, rfl, Nat.zero_le _, rfl, ?_⟩
    refine map_ext [Str.ofString "due", Str.ofString "power"] ?_ ?_
    · (repeat' first | exact List.forall_mem_nil _ | refine List.forall_mem_cons.mpr ⟨rfl, ?_⟩)
    · intro y hy
      simp only [List.forall_mem_cons, List.not_mem_nil, false_implies, implies_true, and_true, ne_eq] at hy
      simp [hy]
  · rintro _ g' m' news' h ⟨td, pv, rfl, _, rfl, rfl⟩ F N
    exact stays_list F.keep hsl
  · rintro i g' m' news' h tk' I io v hv ⟨td, pv, rfl, hi, rfl, rfl⟩ F' N' Ap
    clear F1 N1
    obtain ⟨n, tn, rfl, hn⟩ := hs.at i v (by simpa using hv)
    obtain ⟨p, hpi, rfl⟩ : ∃ p, ss[i]? = some p ∧ n = (p : Int) := by
      rw [List.getElem?_map] at hn
      obtain ⟨c, h1, h2⟩ := Option.map_eq_some_iff.mp hn
      exact ⟨c, h1, h2.symm⟩
    have hil : i < ss.length := by
      rcases Nat.lt_or_ge i ss.length with h | h
      · exact h
      · rw [List.getElem?_eq_none h] at hpi; cases hpi
    have hp1 := hb p (List.mem_of_getElem? hpi)
    walk_at "mine go"
    refine pow_int_small (by omega) (by omega) (by decide) ?_
    dsimp only
    rw [pow64]
    walk_at "mine go"
    rename Fr _ _ _ _ => F3
    rename News _ _ _ _ => N3
    rw [show ((c % 64 + powS (List.take i ss) : Nat) : Int) + ((64 ^ (p + 1) : Nat) : Int) = ((c % 64 + powS (ss.take (i + 1)) : Nat) : Int) by rw [take_succ_at hpi, powS_snoc, ← Nat.add_assoc, Int.natCast_add (c % 64 + powS (List.take i ss))]] at F3
    exact forPost F3 N3 (by simp) ⟨_, _, rfl, hil, rfl, map2 (Str.ofString "due") (Str.ofString "power") rfl rfl (by intro y h1 h2; simp [h1, h2])⟩
  · rintro g' m' news' h tk' ⟨td, pv, rfl, _, rfl, rfl⟩ F' N'
    clear F1 N1
    rw [show svs.toArray.size = ss.length by simpa using hsle, List.take_length] at F'
    walk_at "mine go"
    refine wpAny_For ?_
    walk_at "mine go"
    rename Fr _ _ _ _ => F5
    rename News _ _ _ _ => N5
    refine add_L F5 N5 (vs := svs) (ws := [_]) (stays_list F5.keep hsl) (News.isList N5 (.head _)) ?_ (by simp; omega)
    intro D5 h9 F9 N9 l9
    walk_at "mine go"
    walk_at "mine step"
    rename _ ∈ zs ss ++ [-1] => hM1
    rename ∀ a ∈ zs ss ++ [-1], _ => hM2
    have hM := topN_max hM1 hM2
    walk_at "mine go"
    rename IsRange _ _ _ _ _ _ _ _ => hR
    rename Fr _ _ _ _ => F11
    rename News _ _ _ _ => N11
    rw [hM] at hR
    have htop : topN ss ≤ 1001 := topN_le fun p hp => by have := hb p hp; omega
    refine for_range (n := topN ss) (fun i g₂ m' news' => ∃ td pv qv, g₂ = g' ∧ i ≤ topN ss ∧ news' = [] ∧ m' = (fun y => if y = Str.ofString "due" then some (.int (c % 64 + powS ss + gapS i : Nat) td) else if y = Str.ofString "place" then qv else if y = Str.ofString "power" then pv else if y = Str.ofString "sums" then some (.ref sl) else if y = Str.ofString "closing" then some (.int c t) else none)) rfl F11 (nwSub N11 (n' := []) (by simp)) ?_ hR (rsmall1 htop) (rangeSize_nat _ _) ?_ ?_
    · exact ⟨td, pv, none, rfl, Nat.zero_le _, rfl, map2 (Str.ofString "due") (Str.ofString "place") rfl rfl (by intro y h1 h2; simp [h1, h2])⟩
    · rintro i g' m' news' h tk' I io t' hi ⟨td, pv, qv, rfl, _, rfl, rfl⟩ F' N' Ap
      clear F11 N11
      rw [show (0 : Int) + 1 * (i : Int) = ((i : Nat) : Int) by omega]
      walk_at "mine go"
      refine pow_int_small (by omega) (by omega) (by decide) ?_
      dsimp only
      rw [pow64]
      walk_at "mine go"
      rename Fr _ _ _ _ => F3
      rename News _ _ _ _ => N3
      rw [show ((c % 64 + powS ss + gapS i : Nat) : Int) + ((64 ^ (i + 1) : Nat) : Int) = ((c % 64 + powS ss + gapS (i + 1) : Nat) : Int) by rw [gapS_succ, ← Nat.add_assoc, Int.natCast_add (c % 64 + powS ss + gapS i)]] at F3
      exact forPost F3 N3 (by simp) ⟨_, pv, _, rfl, hi, rfl, map2 (Str.ofString "due") (Str.ofString "place") rfl rfl (by intro y h1 h2; simp [h1, h2])⟩
    · rintro g' m' news' h tk' ⟨td, pv, qv, rfl, _, rfl, rfl⟩ F' N'
      clear F11 N11
      walk_at "mine go"
      exact retPost F' News.nil ⟨⟨_, rfl⟩, rfl⟩
end
section
open PySem PySem.W PyProof.Rows PySem.Calls PySem.Spec
local macro_rules | `(tactic| walk_at "mine step") => `(tactic| first | (k_unfold; (try dsimp only)) | (k_end; wrow_close) | walk1 | (dsimp only; walk1) | (leave1; walk_say "STEP leave1"; try dsimp only))
local macro_rules | `(tactic| walk_at "mine rfls") => `(tactic| (repeat' first | exact List.forall_mem_nil _ | refine List.forall_mem_cons.mpr ⟨rfl, ?_⟩))
local macro_rules | `(tactic| walk_at "mine rest") => `(tactic| (intro y hy; simp only [List.forall_mem_cons, List.not_mem_nil, false_implies, implies_true, and_true, ne_eq] at hy; simp [hy]))
local macro_rules | `(tactic| walk_at "mine if") => `(tactic| (walk_at "mine step"; walk_at "mine go"))
local macro_rules | `(tactic| walk_at "mine go") => `(tactic| repeat' ((fail_if_success (with_reducible show wpAny _ _ (exec (Stmt.For _ _ _ _ _) _) _ _ _)); (fail_if_success (with_reducible show RetPost _ _ _ _ _ _)); (fail_if_success (with_reducible show wpAny _ _ (exec (Stmt.If _ _ _ _) _) _ _ _)); (fail_if_success (with_reducible show IfEnd _ _ _ _ _ _)); (fail_if_success (with_reducible show ForPost _ _ _ _ _ _ _ _));  (fail_if_success (with_reducible show wpAny _ _ (call (Value.ref _) _) _ _ _)); (fail_if_success (with_reducible show wpAny _ _ (subscriptTail _ _ (Value.ref _) (Value.int _ _)) _ _ _)); (fail_if_success (with_reducible show wpAny _ _ (call (Value.builtin "list.append") _) _ _ _)); (fail_if_success (with_reducible show wpAny _ _ (pyIter _) _ _ _)); walk_at "mine step"))
set_option maxRecDepth 100000
set_option maxHeartbeats 8000000
structure Tup where (a : Addr) (o p c : Nat) (t1 t2 t3 : Tok)
structure RowR where (h : Addr) (e : Nat) (ts : List Tup)
def tupObj (x : Tup) : Obj := { cls := .type "tuple", data := .seq #[.int x.o x.t1, .int x.p x.t2, .int x.c x.t3] 0 }
def tupLed (ts : List Tup) : Led := ts.map fun x => (x.a, tupObj x)
def rowLed (r : RowR) : Led := (r.h, listOf (r.ts.map fun x => Value.ref x.a).toArray r.e) :: tupLed r.ts
def stLed (S : Addr) (e : Nat) (rs : List RowR) : Led := (S, listOf (rs.map fun r => Value.ref r.h).toArray e) :: rs.flatMap rowLed
def rowV (r : RowR) : List (Nat × Nat × Nat) := r.ts.map fun x => (x.o, x.p, x.c)
def dmN (ds : List Int) (k : Nat) : Nat := ((ds.getD k 0).fmod 5).toNat
def othN (i : Nat) : List Nat := (if i % 4 < 3 then [i + 1] else []) ++ (if i < 8 then [i + 4] else [])
def baseN (i : Nat) : Nat := ((List.range i).map fun c => (othN c).length).sum
def hereN (dm : Nat → Nat) : Nat → List Nat → List (Nat × Nat × Nat)
  | _, [] => []
  | b, o :: r => (if dm b < 4 then [(o, dm b, b)] else []) ++ hereN dm (b + 1) r
def stonesN (dm : Nat → Nat) (n : Nat) : List (List (Nat × Nat × Nat)) := (List.range n).map fun i => hereN dm (baseN i) (othN i)
/-- the end of an if whose ways meet -/
def IfEnd (g : Heap) (L : Addr) (s : Shared) (J : (Str → Option Value) → Led → Prop) (f : Flow) (s' : Shared) : Prop :=
  f = .next ∧ ∃ m' news' h' tk', s' = { s with heap := h', toks := tk' } ∧ Fr g L h' m' ∧ News g L h' news' ∧ J m' news'
theorem ifEnd {g : Heap} {L : Addr} {s : Shared} {J : (Str → Option Value) → Led → Prop} {m' : Str → Option Value} {news' : Led} {h' : Heap} {tk' : Nat} (F : Fr g L h' m') (N : News g L h' news') (j : J m' news') : IfEnd g L s J .next { s with heap := h', toks := tk' } := ⟨rfl, m', news', h', tk', rfl, F, N, j⟩
theorem if_meets {M : Model} {A : Around} {E : Value → Shared → Prop} {s : Shared} {t : Sem Flow} {Q : Flow → Shared → Prop} (g : Heap) (L : Addr) (J : (Str → Option Value) → Led → Prop)
    (h1 : wpAny M A t (IfEnd g L s J) E s) (h2 : ∀ m' news' h' tk', Fr g L h' m' → News g L h' news' → J m' news' → Q .next { s with heap := h', toks := tk' }) : wpAny M A t Q E s :=
  wpAny_mono h1 (fun f s' hf => by obtain ⟨rfl, m', news', h', tk', rfl, F, N, j⟩ := hf; exact h2 m' news' h' tk' F N j) (fun _ _ x => x)
theorem allLt {d : Addr} : ∀ {l : Led}, AllLt d l → ∀ p ∈ l, p.1 < d
  | [], _, p, hp => nomatch hp
  | q :: r, h, p, hp => by
    rcases List.mem_cons.mp hp with rfl | hp
    · exact h.1
    · exact allLt h.2 p hp
theorem base_le {i : Nat} (hi : i < 12) : baseN i + (othN i).length ≤ 17 := by
  have h : ∀ i : Fin 12, baseN i.val + (othN i.val).length ≤ 17 := by decide
  exact h ⟨i, hi⟩
theorem base_succ (i : Nat) : baseN (i + 1) = baseN i + (othN i).length := by
  simp [baseN, List.range_succ]
theorem dm_eq (ds : List Int) (k : Nat) : (ds.getD k 0).fmod 5 = (dmN ds k : Nat) := by
  have := Int.emod_nonneg (ds.getD k 0) (show (5 : Int) ≠ 0 by decide)
  rw [dmN, Int.fmod_eq_emod_of_nonneg _ (by decide)]
  omega
theorem hereN_snoc (dm : Nat → Nat) (o : Nat) : ∀ (l : List Nat) (b : Nat), hereN dm b (l ++ [o]) = hereN dm b l ++ (if dm (b + l.length) < 4 then [(o, dm (b + l.length), b + l.length)] else [])
  | [], b => by simp [hereN]
  | x :: r, b => by
    rw [List.cons_append, hereN, hereN, hereN_snoc dm o r (b + 1), List.append_assoc, List.length_cons, show b + 1 + r.length = b + (r.length + 1) by omega]
theorem hereN_len (dm : Nat → Nat) : ∀ (l : List Nat) (b : Nat), (hereN dm b l).length ≤ l.length
  | [], _ => Nat.le_refl _
  | x :: r, b => by
    have := hereN_len dm r (b + 1)
    rw [hereN, List.length_append, List.length_cons]
    split <;> simp <;> omega
theorem law_stones (w : World) (ds : List Int) (dl : Addr) (dvs : List Value) (ep : Nat) (hs : IntsAre dvs ds) (hlen : ds.length = 18) :
    CallsTo Challenge.rw_pu0001_02.row.prog w (hd02.heap_39 w.params) hd02.view_39 (looseW hd02.view_39 []) none 1 42 [.ref dl] [] [(dl, listOf dvs.toArray ep)] (fun v news' => ∃ S e rs, v = .ref S ∧ news' = stLed S e rs ∧ rs.map rowV = stonesN (dmN ds) 12) := by
  k_fill
  refine calls_of_body (binds := [(Str.ofString "drawn", .ref dl)]) (by k_is) (by k_is) rfl rfl rfl rfl rfl (by decide) (look1 _ _) ?_
  intro mean mg mb dp un gd outer A₀ base g L s B F X N T Ro hr
  have hdl : g.IsList dl dvs.toArray := ⟨_, Ro _ (.head _), rfl, _, rfl⟩
  have hdle : dvs.length = 18 := by rw [hs.length, hlen]
  have hsg : ∀ k, k < 18 → ∃ t : Tok, dvs[k]? = some (Value.int (ds.getD k 0) t) := fun k hk => hs.get k (ds.getD k 0) (by rw [List.getD_eq_getElem?_getD, List.getElem?_eq_getElem (by omega)]; rfl)
  walk_at "mine go"
  refine wpAny_For ?_
  walk_at "mine go"
  rename Fr _ _ _ _ => F1
  rename News _ _ _ _ => N1
  rename IsRange _ _ _ _ _ _ _ _ => hR
  refine for_range (n := 12) (fun i g' m' news' => ∃ S e rs tc cv ov hv uv, g' = g ∧ i ≤ 12 ∧ news' = stLed S e rs ∧ (∀ p ∈ rs.flatMap rowLed, S < p.1) ∧ rs.map rowV = stonesN (dmN ds) i ∧
    m' = (fun y => if y = Str.ofString "count" then some (.int (baseN i : Nat) tc) else if y = Str.ofString "cell" then cv else if y = Str.ofString "others" then ov else if y = Str.ofString "here" then hv else if y = Str.ofString "other" then uv else if y = Str.ofString "stones" then some (.ref S) else if y = Str.ofString "drawn" then some (.ref dl) else none)) rfl F1 N1 ?_ hR (by decide) (by decide) ?_ ?_
  · exact ⟨_, 0, [], _, none, none, none, none, rfl, Nat.zero_le _, rfl, by simp, rfl, map_ext [Str.ofString "count", Str.ofString "cell", Str.ofString "others", Str.ofString "here", Str.ofString "other"] (by walk_at "mine rfls") (by walk_at "mine rest")⟩
  · rintro i g' m' news' h tk' I io t' hi ⟨S, e, rs, tc, cv, ov, hv, uv, rfl, _, rfl, hSr, hrv, rfl⟩ F' N' Ap
    clear F1 N1
    rw [stLed] at N' Ap
    rw [show (0 : Int) + 1 * (i : Int) = ((i : Nat) : Int) by omega]
    generalize hrest : rs.flatMap rowLed = rest at N' Ap hSr
    walk_at "mine go"
    rename Fr _ _ _ _ => F3
    rename News _ _ _ _ => N3
    rename_i O hx3 l3 h3
    obtain ⟨l3a, l3b, l3c⟩ := l3
    have lO := allLt l3c
    generalize hSo : listOf (rs.map fun r => Value.ref r.h).toArray e = So at N3 Ap
    refine if_meets g' L (fun m' news' => ∃ ovs e2, IntsAre ovs (zs (if i % 4 < 3 then [i + 1] else [])) ∧ news' = (O, listOf ovs.toArray e2) :: (I, io) :: (S, So) :: rest ∧ m' = (fun y => if y = Str.ofString "others" then some (Value.ref O) else if y = Str.ofString "cell" then some (.int (i : Nat) t') else if y = Str.ofString "count" then some (.int (baseN i : Nat) tc) else if y = Str.ofString "here" then hv else if y = Str.ofString "other" then uv else if y = Str.ofString "stones" then some (.ref S) else if y = Str.ofString "drawn" then some (.ref dl) else none)) ?_ ?_
    · walk_at "mine if"
      · rename Fr _ _ _ _ => F4
        rename News _ _ _ _ => N4
        refine append_K F4 N4 (Upd.head ?_) ?_ (by rw [sizeLine_eq]; simp)
        · intro p hp
          simp only [List.mem_cons] at hp
          rcases hp with rfl | rfl | hp
          · exact Nat.ne_of_lt l3a
          · exact Nat.ne_of_lt l3b
          · exact Nat.ne_of_lt (lO p hp)
        intro h8 F8 N8
        rw [List.push_toArray] at N8
        walk_at "mine go"
        refine ifEnd F8 N8 ⟨_, _, ?_, rfl, map_ext [Str.ofString "others", Str.ofString "cell"] (by walk_at "mine rfls") (by walk_at "mine rest")⟩
        rename _ < _ => hlt
        rw [Int.fmod_eq_emod_of_nonneg _ (by decide)] at hlt
        rw [if_pos (by omega)]
        exact .cons _ _ .nil
      · refine ifEnd (by assumption) (by assumption) ⟨_, _, ?_, rfl, map_ext [Str.ofString "others", Str.ofString "cell"] (by walk_at "mine rfls") (by walk_at "mine rest")⟩
        rename ¬ _ < _ => hlt
        rw [Int.fmod_eq_emod_of_nonneg _ (by decide)] at hlt
        rw [if_neg (by omega)]
        exact .nil
    rintro m' news' h4 tk4 F4 N4 ⟨ovs, e2, hov, rfl, rfl⟩
    clear F3 N3
    have hovl : ovs.length ≤ 1 := by rw [hov.length, List.length_map]; split <;> simp
    walk_at "mine go"
    refine if_meets g' L (fun m' news' => ∃ ovs e2, IntsAre ovs (zs (othN i)) ∧ news' = (O, listOf ovs.toArray e2) :: (I, io) :: (S, So) :: rest ∧ m' = (fun y => if y = Str.ofString "others" then some (Value.ref O) else if y = Str.ofString "cell" then some (.int (i : Nat) t') else if y = Str.ofString "count" then some (.int (baseN i : Nat) tc) else if y = Str.ofString "here" then hv else if y = Str.ofString "other" then uv else if y = Str.ofString "stones" then some (.ref S) else if y = Str.ofString "drawn" then some (.ref dl) else none)) ?_ ?_
    · walk_at "mine if"
      · rename Fr _ _ _ _ => F5
        rename News _ _ _ _ => N5
        refine append_K F5 N5 (Upd.head ?_) ?_ (by rw [sizeLine_eq]; simp; omega)
        · intro p hp
          simp only [List.mem_cons] at hp
          rcases hp with rfl | rfl | hp
          · exact Nat.ne_of_lt l3a
          · exact Nat.ne_of_lt l3b
          · exact Nat.ne_of_lt (lO p hp)
        intro h8 F8 N8
        rw [List.push_toArray] at N8
        walk_at "mine go"
        refine ifEnd F8 N8 ⟨_, _, ?_, rfl, rfl⟩
        rw [othN, if_pos (show i < 8 by omega), zs, List.map_append]
        exact hov.append (.cons _ _ .nil)
      · refine ifEnd (by assumption) (by assumption) ⟨_, _, ?_, rfl, rfl⟩
        rw [othN, if_neg (show ¬ i < 8 by omega), List.append_nil]
        exact hov
    clear F4 N4 hov hovl
    rintro m' news' h4 tk4 F4 N4 ⟨ovs, e2, hov, rfl, rfl⟩
    walk_at "mine go"
    rename Fr _ _ _ _ => F6
    rename News _ _ _ _ => N6
    rename_i H hx6 l6 tk6
    obtain ⟨l6a, l6b, l6c, l6d⟩ := l6
    have lH := allLt l6d
    refine wpAny_For ?_
    walk_at "mine go"
    have hol := hov.length
    rw [List.length_map] at hol
    refine for_list (items := ovs.toArray) (fun j g₂ m' news' => ∃ ts e4 tc2 uv2, g₂ = g' ∧ j ≤ (othN i).length ∧ news' = (H, listOf (ts.map fun x => Value.ref x.a).toArray e4) :: (O, listOf ovs.toArray e2) :: (I, io) :: (S, So) :: (tupLed ts ++ rest) ∧ (∀ x ∈ ts, H < x.a) ∧ (ts.map fun x => (x.o, x.p, x.c)) = hereN (dmN ds) (baseN i) ((othN i).take j) ∧
      m' = (fun y => if y = Str.ofString "count" then some (.int (baseN i + j : Nat) tc2) else if y = Str.ofString "other" then uv2 else if y = Str.ofString "here" then some (Value.ref H) else if y = Str.ofString "others" then some (Value.ref O) else if y = Str.ofString "cell" then some (.int (i : Nat) t') else if y = Str.ofString "stones" then some (.ref S) else if y = Str.ofString "drawn" then some (.ref dl) else none)) rfl F6 N6 ?_ ?_ ?_ ?_
    · exact ⟨[], _, _, _, rfl, Nat.zero_le _, rfl, by simp, rfl, map_ext [Str.ofString "count", Str.ofString "other", Str.ofString "here", Str.ofString "others", Str.ofString "cell"] (by walk_at "mine rfls") (by walk_at "mine rest")⟩
    · rintro _ g₂ m' news' h ⟨ts, e4, tc2, uv2, rfl, _, rfl, _, _, rfl⟩ F N
      exact News.isList N (.tail _ (.head _))
    · rintro j g₂ m' news' h tk7 I2 io2 v hv ⟨ts, e4, tc2, uv2, rfl, hj, rfl, hts, htv, rfl⟩ F' N' Ap2
      clear F6 N6
      obtain ⟨n, tn, rfl, hn⟩ := hov.at j v (by simpa using hv)
      obtain ⟨o, hoj, rfl⟩ : ∃ o, (othN i)[j]? = some o ∧ n = (o : Int) := by
        rw [List.getElem?_map] at hn
        obtain ⟨c, h1, h2⟩ := Option.map_eq_some_iff.mp hn
        exact ⟨c, h1, h2.symm⟩
      have hjl : j < (othN i).length := by
        rcases Nat.lt_or_ge j (othN i).length with h | h
        · exact h
        · rw [List.getElem?_eq_none h] at hoj; cases hoj
      have h17 := base_le hi
      obtain ⟨td, htd⟩ := hsg (baseN i + j) (by omega)
      have hdm := dm_eq ds (baseN i + j)
      have htl : ts.length ≤ 17 := by
        have e1 := congrArg List.length htv
        have e2 := hereN_len (dmN ds) ((othN i).take j) (baseN i)
        rw [List.length_map] at e1
        rw [List.length_take] at e2
        omega
      walk_at "mine go"
      refine if_meets g₂ L (fun m' news' => ∃ ts e4, news' = (I2, io2) :: (H, listOf (ts.map fun x => Value.ref x.a).toArray e4) :: (O, listOf ovs.toArray e2) :: (I, io) :: (S, So) :: (tupLed ts ++ rest) ∧ (∀ x ∈ ts, H < x.a ∧ x.a ≠ I2) ∧ (ts.map fun x => (x.o, x.p, x.c)) = hereN (dmN ds) (baseN i) ((othN i).take (j + 1)) ∧
        m' = (fun y => if y = Str.ofString "other" then some (.int (o : Nat) tn) else if y = Str.ofString "count" then some (.int (baseN i + j : Nat) tc2) else if y = Str.ofString "here" then some (Value.ref H) else if y = Str.ofString "others" then some (Value.ref O) else if y = Str.ofString "cell" then some (.int (i : Nat) t') else if y = Str.ofString "stones" then some (.ref S) else if y = Str.ofString "drawn" then some (.ref dl) else none)) ?_ ?_
      · walk_at "mine if"
        refine item_list (stays_list (Fr.keep (by assumption)) hdl) (by omega) (by omega) (x := Value.int (ds.getD (baseN i + j) 0) td) (by show dvs.toArray[_]? = _; rw [List.getElem?_toArray, Int.toNat_natCast]; exact htd) ?_
        walk_at "mine go"
        · refine item_list (stays_list (Fr.keep (by assumption)) hdl) (by omega) (by omega) (x := Value.int (ds.getD (baseN i + j) 0) td) (by show dvs.toArray[_]? = _; rw [List.getElem?_toArray, Int.toNat_natCast]; exact htd) ?_
          walk_at "mine go"
          rename Fr _ _ _ _ => F8
          rename News _ _ _ _ => N8
          rename _ < _ => hlt
          rename_i D hx8 l8
          obtain ⟨l8a, l8b, l8c, l8d, l8e, l8f⟩ := l8
          rw [hdm] at N8 hlt
          obtain ⟨tq, N8⟩ : ∃ tq, News g₂ L _ ((D, tupObj ⟨D, o, dmN ds (baseN i + j), baseN i + j, tn, tq, tc2⟩) :: (I2, io2) :: (H, listOf (ts.map fun x => Value.ref x.a).toArray e4) :: (O, listOf ovs.toArray e2) :: (I, io) :: (S, So) :: (tupLed ts ++ rest)) := ⟨_, N8⟩
          refine append_K F8 N8 (Upd.tail (Nat.ne_of_gt l8b) (Upd.tail (Ne.symm (Ap2 _ (.head _))) (Upd.head ?_))) ?_ (by rw [sizeLine_eq]; simp; omega)
          · intro p hp
            simp only [List.mem_cons, List.mem_append] at hp
            rcases hp with rfl | rfl | rfl | hp | hp
            · exact Nat.ne_of_lt l6a
            · exact Nat.ne_of_lt l6b
            · exact Nat.ne_of_lt l6c
            · obtain ⟨x, hx, rfl⟩ := List.mem_map.mp hp
              exact Nat.ne_of_gt (hts x hx)
            · exact Nat.ne_of_lt (lH p hp)
          intro h9 F9 N9
          rw [List.push_toArray] at N9
          walk_at "mine go"
          refine ifEnd F9 (nwSub N9 ?_) ⟨ts ++ [⟨D, o, dmN ds (baseN i + j), baseN i + j, tn, tq, tc2⟩], e4 + 1, rfl, ?_, ?_, map_ext [Str.ofString "other", Str.ofString "count"] (by walk_at "mine rfls") (by walk_at "mine rest")⟩
          · intro p hp
            simp only [List.map_append, List.map_cons, List.map_nil, tupLed, List.mem_cons, List.mem_append, List.not_mem_nil, or_false] at hp ⊢
            rcases hp with rfl | rfl | rfl | rfl | rfl | (hp | rfl) | hp
            · simp
            · simp
            · simp
            · simp
            · simp
            · simp [hp]
            · exact .inl rfl
            · simp [hp]
          · intro x hx
            rcases List.mem_append.mp hx with hx | hx
            · exact ⟨hts x hx, Ap2 (x.a, tupObj x) (by simp only [List.mem_cons, List.mem_append]; exact .inr (.inr (.inr (.inr (.inl (List.mem_map_of_mem (f := fun x => (x.a, tupObj x)) hx))))))⟩
            · rw [List.mem_singleton] at hx
              subst hx
              exact ⟨l8b, Nat.ne_of_gt l8a⟩
          · rw [take_succ_at hoj, hereN_snoc, List.map_append, htv, List.length_take, Nat.min_eq_left hj, if_pos (by omega)]
            rfl
        · refine ifEnd (by assumption) (by assumption) ⟨ts, e4, rfl, ?_, ?_, map_ext [Str.ofString "other", Str.ofString "count"] (by walk_at "mine rfls") (by walk_at "mine rest")⟩
          · intro x hx
            exact ⟨hts x hx, Ap2 (x.a, tupObj x) (by simp only [List.mem_cons, List.mem_append]; exact .inr (.inr (.inr (.inr (.inl (List.mem_map_of_mem (f := fun x => (x.a, tupObj x)) hx))))))⟩
          · rename ¬ _ < _ => hlt
            rw [hdm] at hlt
            rw [take_succ_at hoj, hereN_snoc, htv, List.length_take, Nat.min_eq_left hj, if_neg (by omega), List.append_nil]
      · rintro m' news' h8 tk8 F8 N8 ⟨ts', e5, rfl, hts', htv', rfl⟩
        walk_at "mine go"
        rename Fr _ _ _ _ => F9
        rename News _ _ _ _ => N9
        refine forPost F9 N9 ?_ ⟨ts', e5, _, _, rfl, hjl, rfl, fun x hx => (hts' x hx).1, htv', map_ext [Str.ofString "count", Str.ofString "other"] (by walk_at "mine rfls") (by walk_at "mine rest")⟩
        intro p hp
        simp only [List.mem_cons, List.mem_append] at hp
        rcases hp with rfl | rfl | rfl | rfl | hp | hp
        · exact (show H ≠ I2 from Ap2 _ (.head _))
        · exact Ap2 _ (.tail _ (.head _))
        · exact Ap2 _ (.tail _ (.tail _ (.head _)))
        · exact Ap2 _ (.tail _ (.tail _ (.tail _ (.head _))))
        · obtain ⟨x, hx, rfl⟩ := List.mem_map.mp hp
          exact (hts' x hx).2
        · exact Ap2 p (by simp only [List.mem_cons, List.mem_append]; simp [hp])
    · rintro g₂ m' news' h tk7 ⟨ts, e4, tc2, uv2, rfl, _, rfl, hts, htv, rfl⟩ F' N'
      clear F6 N6
      have hsz : ovs.toArray.size = (othN i).length := by simpa using hol
      rw [hsz, List.take_length] at htv
      rw [hsz, ← base_succ] at F'
      subst hSo
      have hrl : rs.length ≤ 12 := by
        have := congrArg List.length hrv
        rw [List.length_map, stonesN, List.length_map, List.length_range] at this
        omega
      walk_at "mine go"
      rename Fr _ _ _ _ => F8
      rename News _ _ _ _ => N8
      refine append_K F8 N8 (Upd.tail (Nat.ne_of_gt l6c) (Upd.tail (Nat.ne_of_gt l3b) (Upd.tail (Ne.symm (Ap _ (.head _))) (Upd.head ?_)))) ?_ (by rw [sizeLine_eq]; simp; omega)
      · intro p hp
        rcases List.mem_append.mp hp with hp | hp
        · obtain ⟨x, hx, rfl⟩ := List.mem_map.mp hp
          exact Nat.ne_of_gt (Nat.lt_trans l6c (hts x hx))
        · exact Nat.ne_of_gt (hSr p hp)
      intro h9 F9 N9
      rw [List.push_toArray] at N9
      walk_at "mine go"
      have hfm : (rs ++ [(⟨H, e4, ts⟩ : RowR)]).flatMap rowLed = rest ++ ((H, listOf (ts.map fun x => Value.ref x.a).toArray e4) :: tupLed ts) := by
        rw [List.flatMap_append, hrest]
        simp [rowLed]
      refine forPost F9 (nwSub N9 ?_) ?_ ⟨S, e + 1, rs ++ [⟨H, e4, ts⟩], _, _, _, _, _, rfl, hi, rfl, ?_, ?_, map_ext [Str.ofString "count", Str.ofString "cell", Str.ofString "others", Str.ofString "here", Str.ofString "other"] (by walk_at "mine rfls") (by walk_at "mine rest")⟩
      · intro p hp
        rw [stLed, hfm, List.map_append] at hp
        simp only [List.mem_cons, List.mem_append] at hp ⊢
        rcases hp with rfl | rfl | hp | rfl | hp
        · simp
        · exact .inr (.inr (.inr (.inl rfl)))
        · simp [hp]
        · simp
        · simp [hp]
      · intro p hp
        rw [stLed, hfm] at hp
        simp only [List.mem_cons, List.mem_append] at hp
        rcases hp with rfl | hp | rfl | hp
        · exact (show S ≠ I from Ap _ (.head _))
        · exact Ap p (.tail _ hp)
        · exact Nat.ne_of_gt l6b
        · obtain ⟨x, hx, rfl⟩ := List.mem_map.mp hp
          exact Nat.ne_of_gt (Nat.lt_trans l6b (hts x hx))
      · intro p hp
        rw [hfm] at hp
        simp only [List.mem_cons, List.mem_append] at hp
        rcases hp with hp | rfl | hp
        · exact hSr p hp
        · exact l6c
        · obtain ⟨x, hx, rfl⟩ := List.mem_map.mp hp
          exact Nat.lt_trans l6c (hts x hx)
      · rw [List.map_append, hrv, stonesN, stonesN, List.range_succ, List.map_append, List.map_singleton, List.map_singleton, rowV, htv]
  · rintro g' m' news' h tk' ⟨S, e, rs, tc, cv, ov, hv, uv, rfl, _, rfl, hSr, hrv, rfl⟩ F' N'
    clear F1 N1
    walk_at "mine go"
    exact retPost F' N' ⟨S, e, rs, rfl, rfl, hrv⟩
end
section
open PySem PySem.W PyProof.Rows PySem.Calls PySem.Spec
set_option maxRecDepth 100000
section
variable {prog : Program} {w : World} {A : Around} {E : Value → Shared → Prop} {s : Shared} {env : Env} {g : Heap} {L : Addr} {m : Str → Option Value} {news : Led} {elts : List Expr} {x1 : Nat} {tpos : Pos} {body : List Stmt} {Q : Flow → Shared → Prop}
theorem for_listT {l : Addr} {items : Array Value} (J : Nat → Heap → (Str → Option Value) → Led → Prop) (hh : A.handled = none) (F : Fr g L s.heap m) (N : News g L s.heap news) (hJ : J 0 g m news)
    (hl : ∀ i g m news h, J i g m news → Fr g L h m → News g L h news → h.IsList l items)
    (turn : ∀ i g m news h tk I io v, items[i]? = some v → J i g m news → Fr g L h m → News g L h ((I, io) :: news) → (∀ p ∈ news, p.1 ≠ I) →
      wpAny (model prog w) A (assign (.Tuple elts x1 tpos) env v) (fun _ s₂ => wpAny (model prog w) A (execs body env) (ForPost L s (J (i + 1)) I io Q) E s₂) E { s with heap := h, toks := tk })
    (done : ∀ g m news h tk, J items.size g m news → Fr g L h m → News g L h news → Q .next { s with heap := h, toks := tk })
    (hrefs : ∀ (i : Nat) (v : Value), items[i]? = some v → ∃ T : Addr, v = Value.ref T)
    (hE : PassesOwn (model prog w) A env E := by passes_own) :
    wpAny (model prog w) A (pyIter (.ref l)) (fun it s₂ => codeAny (model prog w) A (.forLoop (.Tuple elts x1 tpos) it body [] env) (fun r s' => match r with | .ok f => Q f s' | .error e => cameBackBy (model prog w) A env E e s') s₂) E s := by
  refine wpAny_pyIter_list (hl 0 g m news _ hJ F N) ?_
  have hsz := fun p hp => Heap.lt_size (N p hp).1
  refine codeAny_forLoop_any (fun k s' => ∃ i g' m' news' h' tk' io, k = items.size - i ∧ i ≤ items.size ∧ s' = { s with heap := h', toks := tk' } ∧ J i g' m' news' ∧ Fr g' L h' m' ∧ News g' L h' ((s.heap.objs.size, io) :: news') ∧ (∀ p ∈ news', p.1 ≠ s.heap.objs.size) ∧ IsLit io l i) ?_ (items.size - 0)
    ⟨0, g, m, news, _, s.toks, _, rfl, Nat.zero_le _, rfl, hJ, F.push _, News.push F N _ rfl, fun p hp => Nat.ne_of_lt (hsz p hp), rfl, rfl⟩
  rintro k s' ⟨i, g', m', news', h', tk', io, rfl, hi, rfl, hj, F', N', Ap, hio⟩
  have hit := N' (s.heap.objs.size, io) (.head _)
  have hN := nwSub N' (fun p hp => List.mem_cons_of_mem _ hp)
  have hlist := hl i g' m' news' _ hj F' hN
  rcases Nat.lt_or_ge i items.size with h | h
  · refine wpAny_pyNext_list_item (x := items[i]) ⟨_, hit.1, hio⟩ hlist (by simp [h]) fun h₁ hit₁ hs₁ => ?_
    obtain ⟨T, hT⟩ := hrefs i items[i] (by simp [h])
    rw [hT]
    refine wpAny_letOwnedTupleGo_listiter hit₁ ?_
    rw [← hT]
    obtain ⟨io₁, hit₂, hio₁⟩ := hit₁
    have he := hs₁.extBut
    refine wpAny_mono (turn i g' m' news' h₁ tk' s.heap.objs.size io₁ items[i] (by simp [h]) hj (fr_keep F' hit.2.1 hit.2.2 he) (fun p hp => ?_) Ap) (fun _ s₂ h₂ => wpAny_mono h₂ (fun f s₃ h₃ => ?_) hE) hE
    · rcases List.mem_cons.mp hp with rfl | hp
      · exact ⟨hit₂, hit.2⟩
      · exact news_keep hN Ap he p hp
    · cases f with
      | next =>
        obtain ⟨g₂, m₂, news₂, h₂, tk₂, rfl, F₂, N₂, Ap₂, j₂⟩ := h₃
        exact ⟨items.size - (i + 1), by omega, i + 1, g₂, m₂, news₂, h₂, tk₂, io₁, rfl, h, rfl, j₂, F₂, N₂, Ap₂, hio₁⟩
      | cont =>
        obtain ⟨g₂, m₂, news₂, h₂, tk₂, rfl, F₂, N₂, Ap₂, j₂⟩ := h₃
        exact ⟨items.size - (i + 1), by omega, i + 1, g₂, m₂, news₂, h₂, tk₂, io₁, rfl, h, rfl, j₂, F₂, N₂, Ap₂, hio₁⟩
      | brk => exact h₃
      | ret v => exact h₃
  · have e : i = items.size := Nat.le_antisymm hi h
    subst e
    refine wpAny_pyNext_list_end hh ⟨_, hit.1, hio⟩ hlist (by simp) fun h₁ he => ?_
    exact wpAny_execs_nil (done g' m' news' h₁ tk' hj (fr_keep F' hit.2.1 hit.2.2 he) (news_keep hN Ap he))
end
end
section
open PySem PySem.W PyProof.Rows PySem.Calls PySem.Spec PyProof.V
local macro_rules | `(tactic| walk_at "mine step") => `(tactic| first | (k_unfold; (try dsimp only)) | (k_end; wrow_close) | walk1 | (dsimp only; walk1) | (leave1; walk_say "STEP leave1"; try dsimp only))
local macro_rules | `(tactic| walk_at "mine rfls") => `(tactic| (repeat' first | exact List.forall_mem_nil _ | refine List.forall_mem_cons.mpr ⟨rfl, ?_⟩))
local macro_rules | `(tactic| walk_at "mine rest") => `(tactic| (intro y hy; simp only [List.forall_mem_cons, List.not_mem_nil, false_implies, implies_true, and_true, ne_eq] at hy; simp [hy]))
local macro_rules | `(tactic| walk_at "mine if") => `(tactic| (walk_at "mine step"; walk_at "mine go"))
local macro_rules | `(tactic| walk_at "mine go") => `(tactic| repeat' ((fail_if_success (with_reducible show wpAny _ _ (exec (Stmt.For _ _ _ _ _) _) _ _ _)); (fail_if_success (with_reducible show RetPost _ _ _ _ _ _)); (fail_if_success (with_reducible show wpAny _ _ (exec (Stmt.If _ _ _ _) _) _ _ _)); (fail_if_success (with_reducible show IfEnd _ _ _ _ _ _)); (fail_if_success (with_reducible show ValEnd _ _ _ _ _ _ _ _)); (fail_if_success (with_reducible show wpAny _ _ (eval (Expr.IfExp _ _ _ _) _) _ _ _)); (fail_if_success (with_reducible show ForPost _ _ _ _ _ _ _ _)); (fail_if_success (with_reducible show wpAny _ _ (call (Value.ref _) _) _ _ _)); (fail_if_success (with_reducible show wpAny _ _ (subscriptTail _ _ (Value.ref _) (Value.int _ _)) _ _ _)); (fail_if_success (with_reducible show wpAny _ _ (binaryOp Operator.Mult _ _) _ _ _)); (fail_if_success (with_reducible show wpAny _ _ (binaryOp Operator.Pow _ _) _ _ _)); (fail_if_success (with_reducible show wpAny _ _ (setItem _ _ _) _ _ _)); (fail_if_success (with_reducible show wpAny _ _ (pyIter _) _ _ _)); walk_at "mine step"))
set_option maxRecDepth 100000
set_option maxHeartbeats 8000000
def blackN (cell other : Nat) : Nat := if (cell / 4 + cell) % 2 = 0 then cell else other
def keyN (cell other : Nat) : Nat := 12 * blackN cell other + (cell + other - blackN cell other)
def sgnN (cell other : Nat) : Int := if other = cell + 4 ∧ cell % 2 = 1 then -1 else 1
def wPut (left cell : Nat) (c : List (Int × Int)) (x : Nat × Nat × Nat) : List (Int × Int) := if x.2.2 = left then c else kdfPut c (keyN cell x.1) (sgnN cell x.1 * 16 ^ x.2.1)
def wRow (left cell : Nat) (c : List (Int × Int)) (xs : List (Nat × Nat × Nat)) : List (Int × Int) := xs.foldl (wPut left cell) c
def worthsN (rows : List (List (Nat × Nat × Nat))) (left : Nat) (n : Nat) : List (Int × Int) := (List.range n).foldl (fun c i => wRow left i c (rows.getD i [])) []
/-- the end of a value whose ways meet -/
def ValEnd (g : Heap) (L : Addr) (s : Shared) (m : Str → Option Value) (news : Led) (P : Value → Prop) (v : Value) (s' : Shared) : Prop :=
  P v ∧ ∃ h' tk', s' = { s with heap := h', toks := tk' } ∧ Fr g L h' m ∧ News g L h' news
theorem valEnd {g : Heap} {L : Addr} {s : Shared} {m : Str → Option Value} {news : Led} {P : Value → Prop} {v : Value} {h' : Heap} {tk' : Nat} (F : Fr g L h' m) (N : News g L h' news) (j : P v) : ValEnd g L s m news P v { s with heap := h', toks := tk' } := ⟨j, h', tk', rfl, F, N⟩
theorem val_meets {M : Model} {A : Around} {E : Value → Shared → Prop} {s : Shared} {t : Sem Value} {Q : Value → Shared → Prop} {g : Heap} {L : Addr} {m : Str → Option Value} {news : Led} (P : Value → Prop) (F : Fr g L s.heap m) (N : News g L s.heap news)
    (h1 : wpAny M A t (ValEnd g L s m news P) E s) (h2 : ∀ v h' tk', P v → Fr g L h' m → News g L h' news → Q v { s with heap := h', toks := tk' }) : wpAny M A t Q E s :=
  wpAny_mono h1 (fun f s' hf => by obtain ⟨p, h', tk', rfl, F, N⟩ := hf; exact h2 f h' tk' p F N) (fun _ _ x => x)
theorem wPut_len (left cell : Nat) (c : List (Int × Int)) (x : Nat × Nat × Nat) : (wPut left cell c x).length ≤ c.length + 1 := by
  unfold wPut
  split
  · omega
  · exact kdfPut_len _ _ _
theorem wRow_len (left cell : Nat) : ∀ (xs : List (Nat × Nat × Nat)) (c : List (Int × Int)), (wRow left cell c xs).length ≤ c.length + xs.length
  | [], c => Nat.le_refl _
  | x :: r, c => by
    have h1 := wRow_len left cell r (wPut left cell c x)
    have h2 := wPut_len left cell c x
    show (wRow left cell (wPut left cell c x) r).length ≤ _
    rw [List.length_cons]
    omega
theorem worthsN_succ (rows : List (List (Nat × Nat × Nat))) (left i : Nat) : worthsN rows left (i + 1) = wRow left i (worthsN rows left i) (rows.getD i []) := by
  rw [worthsN, List.range_succ, List.foldl_append]
  rfl
theorem worthsN_len {rows : List (List (Nat × Nat × Nat))} {left : Nat} (h : ∀ r ∈ rows, r.length ≤ 2) : ∀ i, (worthsN rows left i).length ≤ 2 * i
  | 0 => Nat.le_refl _
  | i + 1 => by
    have h1 := worthsN_len (left := left) h i
    have h2 := wRow_len left i (rows.getD i []) (worthsN rows left i)
    have h3 : (rows.getD i []).length ≤ 2 := by
      rw [List.getD_eq_getElem?_getD]
      cases hr : rows[i]? with
      | none => simp
      | some r => exact h r (List.mem_of_getElem? hr)
    rw [worthsN_succ]
    omega
theorem blk_mod (i : Nat) : ((i : Int).fdiv 4 + (i : Int)).fmod 2 = (((i / 4 + i) % 2 : Nat) : Int) := by
  rw [Int.fdiv_eq_ediv_of_nonneg _ (by decide), Int.fmod_eq_emod_of_nonneg _ (by decide)]; omega
theorem fmod2 (i : Nat) : (i : Int).fmod 2 = ((i % 2 : Nat) : Int) := by
  rw [Int.fmod_eq_emod_of_nonneg _ (by decide)]; omega
theorem blackN_le (i o : Nat) : blackN i o ≤ i + o := by unfold blackN; split <;> omega
theorem key_eq (i o : Nat) : 12 * ((blackN i o : Nat) : Int) + (i : Int) + (o : Int) - ((blackN i o : Nat) : Int) = ((keyN i o : Nat) : Int) := by
  have := blackN_le i o
  unfold keyN
  omega
theorem sgn_le (i o : Nat) : (sgnN i o).natAbs < 2 ^ 1 := by unfold sgnN; split <;> decide
theorem pow16 (p : Nat) : (16 : Int) ^ ((p : Nat) : Int).toNat = 16 ^ p := by rw [Int.toNat_natCast]
theorem pow16_le {p : Nat} (h : p ≤ 100) : ((16 : Int) ^ p).natAbs < 2 ^ 401 := by
  rw [Int.natAbs_pow, show (16 : Int).natAbs = 2 ^ 4 from rfl, ← Nat.pow_mul]
  exact Nat.pow_lt_pow_right (by decide) (by omega)
theorem row_at {S : Addr} {e : Nat} {rs : List RowR} {g : Heap} (h : ∀ q ∈ stLed S e rs, g.get? q.1 = some q.2) {r : RowR} (hr : r ∈ rs) : g.IsList r.h (r.ts.map fun x => Value.ref x.a).toArray ∧ ∀ x ∈ r.ts, g.IsTuple x.a #[.int x.o x.t1, .int x.p x.t2, .int x.c x.t3] := by
  have hm : ∀ q ∈ rowLed r, q ∈ stLed S e rs := fun q hq => List.mem_cons_of_mem _ (List.mem_flatMap.mpr ⟨r, hr, hq⟩)
  refine ⟨⟨_, h _ (hm _ (.head _)), rfl, _, rfl⟩, fun x hx => ⟨_, h (x.a, tupObj x) (hm _ (.tail _ (List.mem_map_of_mem (f := fun x => (x.a, tupObj x)) hx))), rfl, _, rfl⟩⟩
theorem law_worths (w : World) (S : Addr) (e : Nat) (rs : List RowR) (left : Nat) (t : Tok) (hl : rs.length = 12) (hb : ∀ r ∈ rs, ∀ x ∈ r.ts, x.o ≤ 100 ∧ x.p ≤ 100 ∧ x.c ≤ 100) (hbl : ∀ r ∈ rs, r.ts.length ≤ 2) :
    CallsTo Challenge.rw_pu0001_02.row.prog w (hd02.heap_39 w.params) hd02.view_39 (looseW hd02.view_39 []) none 1 49 [.ref S, .int left t] [] (stLed S e rs) (fun v news' => ∃ W o kvs, v = .ref W ∧ news' = [(W, o)] ∧ o.IsDictOf (PySem.intKind Challenge.rw_pu0001_02.row.prog w) kvs ∧ FlatPairs PyData.int kvs (kdfD (worthsN (rs.map rowV) left 12)) ∧ (W == sysModules) = false) := by
  k_fill
  refine calls_of_body (binds := [(Str.ofString "stones", .ref S), (Str.ofString "left", .int left t)]) (by k_is) (by k_is) rfl rfl rfl rfl rfl (by decide) (look2 _ _ _ _) ?_
  intro mean mg mb dp un gd outer A₀ base g L s B F X N T Ro hr
  have hS : g.IsList S (rs.map fun r => Value.ref r.h).toArray := ⟨_, Ro _ (.head _), rfl, _, rfl⟩
  walk_at "mine go"
  refine wpAny_For ?_
  walk_at "mine go"
  rename Fr _ _ _ _ => F1
  rename News _ _ _ _ => N1
  rename IsRange _ _ _ _ _ _ _ _ => hR
  rename _ = false => hlo
  rename Obj.IsDictOf _ _ _ => hd0
  rename FlatPairs _ _ _ => hf0
  refine for_range (n := 12) (fun i g' m' news' => ∃ W o kvs cv ov pv plv bv sv, g' = g ∧ i ≤ 12 ∧ (W == sysModules) = false ∧ news' = [(W, o)] ∧ o.IsDictOf (PySem.intKind Challenge.rw_pu0001_02.row.prog w) kvs ∧ FlatPairs PyData.int kvs (kdfD (worthsN (rs.map rowV) left i)) ∧
    m' = (fun y => if y = Str.ofString "cell" then cv else if y = Str.ofString "other" then ov else if y = Str.ofString "power" then pv else if y = Str.ofString "place" then plv else if y = Str.ofString "black" then bv else if y = Str.ofString "sign" then sv else if y = Str.ofString "worths" then some (.ref W) else if y = Str.ofString "left" then some (.int left t) else if y = Str.ofString "stones" then some (.ref S) else none)) rfl F1 N1 ?_ hR (by decide) (by decide) ?_ ?_
  · exact ⟨_, _, _, none, none, none, none, none, none, rfl, Nat.zero_le _, hlo, rfl, hd0, hf0, map_ext [Str.ofString "cell", Str.ofString "other", Str.ofString "power", Str.ofString "place", Str.ofString "black", Str.ofString "sign"] (by walk_at "mine rfls") (by walk_at "mine rest")⟩
  · rintro i g' m' news' h tk' I io t' hi ⟨W, o, kvs, cv, ov, pv, plv, bv, sv, rfl, _, hlo, rfl, hd, hf, rfl⟩ F' N' Ap
    clear F1 N1 hd0 hf0
    have hWI : W ≠ I := Ap _ (.head _)
    rw [show (0 : Int) + 1 * (i : Int) = ((i : Nat) : Int) by omega]
    have hir : i < rs.length := by omega
    obtain ⟨r, hri⟩ : ∃ r, rs[i]? = some r := ⟨rs[i], by simp [hir]⟩
    have hrm := List.mem_of_getElem? hri
    obtain ⟨hrl, hrt⟩ := row_at Ro hrm
    have hbr := hb r hrm
    have hrr : (rs.map rowV).getD i [] = rowV r := by rw [List.getD_eq_getElem?_getD, List.getElem?_map, hri]; rfl
    have hcl := worthsN_len (rows := rs.map rowV) (left := left) (by
      intro q hq
      obtain ⟨r', hr', rfl⟩ := List.mem_map.mp hq
      rw [rowV, List.length_map]
      exact hbl r' hr') i
    walk_at "mine go"
    refine wpAny_For ?_
    walk_at "mine go"
    refine item_list (stays_list (Fr.keep (by assumption)) hS) (by omega) (by omega) (x := Value.ref r.h) (by rw [List.getElem?_toArray, Int.toNat_natCast, List.getElem?_map, hri]; rfl) ?_
    walk_at "mine go"
    rename Fr _ _ _ _ => F3
    rename News _ _ _ _ => N3
    refine for_listT (items := (r.ts.map fun x => Value.ref x.a).toArray) (fun j g₂ m' news' => ∃ o kvs ov pv plv bv sv, g₂ = g' ∧ j ≤ r.ts.length ∧ news' = [(I, io), (W, o)] ∧ o.IsDictOf (PySem.intKind Challenge.rw_pu0001_02.row.prog w) kvs ∧ FlatPairs PyData.int kvs (kdfD (wRow left i (worthsN (rs.map rowV) left i) ((rowV r).take j))) ∧
      m' = (fun y => if y = Str.ofString "cell" then some (.int (i : Nat) t') else if y = Str.ofString "other" then ov else if y = Str.ofString "power" then pv else if y = Str.ofString "place" then plv else if y = Str.ofString "black" then bv else if y = Str.ofString "sign" then sv else if y = Str.ofString "worths" then some (.ref W) else if y = Str.ofString "left" then some (.int left t) else if y = Str.ofString "stones" then some (.ref S) else none)) rfl F3 N3 ?_ ?_ ?_ ?_ (by intro i v hv; rw [List.getElem?_toArray, List.getElem?_map] at hv; obtain ⟨c, _, h2⟩ := Option.map_eq_some_iff.mp hv; exact ⟨_, h2.symm⟩)
    · exact ⟨o, kvs, ov, pv, plv, bv, sv, rfl, Nat.zero_le _, rfl, hd, hf, map_ext [Str.ofString "cell"] (by walk_at "mine rfls") (by walk_at "mine rest")⟩
    · rintro _ g₂ m' news' h ⟨o, kvs, ov, pv, plv, bv, sv, rfl, _, rfl, _, _, rfl⟩ F N
      exact stays_list F.keep hrl
    · rintro j g₂ m' news' h tk7 I2 io2 v hv ⟨o, kvs, ov, pv, plv, bv, sv, rfl, hj, rfl, hd, hf, rfl⟩ F' N' Ap2
      clear F3 N3
      obtain ⟨x, hxj, rfl⟩ : ∃ x, r.ts[j]? = some x ∧ v = .ref x.a := by
        rw [List.getElem?_toArray, List.getElem?_map] at hv
        obtain ⟨c, h1, h2⟩ := Option.map_eq_some_iff.mp hv
        exact ⟨c, h1, h2.symm⟩
      have hxm := List.mem_of_getElem? hxj
      have hxt := hrt x hxm
      obtain ⟨b1, b2, b3⟩ := hbr x hxm
      have a1 := Ap2 _ (.head _)
      have a2 := Ap2 _ (.tail _ (.head _))
      have Ap2' : ∀ o' : Obj, ∀ p ∈ [(I, io), (W, o')], p.1 ≠ I2 := by
        intro o' p hp
        simp only [List.mem_cons, List.not_mem_nil, or_false] at hp
        rcases hp with rfl | rfl
        · exact a1
        · exact a2
      walk_at "mine go"
      generalize hc0 : wRow left i (worthsN (rs.map rowV) left i) ((rowV r).take j) = c0 at hf
      have hc0l : c0.length ≤ 100 := by
        have e1 := wRow_len left i ((rowV r).take j) (worthsN (rs.map rowV) left i)
        rw [List.length_take] at e1
        have e2 := hbl r hrm
        rw [← hc0]
        omega
      refine if_meets g₂ L (fun m' news' => ∃ o kvs bv sv, news' = [(I2, io2), (I, io), (W, o)] ∧ o.IsDictOf (PySem.intKind Challenge.rw_pu0001_02.row.prog w) kvs ∧ FlatPairs PyData.int kvs (kdfD (wPut left i c0 (x.o, x.p, x.c))) ∧
        m' = (fun y => if y = Str.ofString "cell" then some (.int (i : Nat) t') else if y = Str.ofString "other" then some (.int x.o x.t1) else if y = Str.ofString "power" then some (.int x.p x.t2) else if y = Str.ofString "place" then some (.int x.c x.t3) else if y = Str.ofString "black" then bv else if y = Str.ofString "sign" then sv else if y = Str.ofString "worths" then some (.ref W) else if y = Str.ofString "left" then some (.int left t) else if y = Str.ofString "stones" then some (.ref S) else none)) ?_ ?_
      · walk_at "mine if"
        · rename ¬ _ = _ => hne
          have hne' : ¬ x.c = left := by omega
          refine val_meets (fun v => ∃ t, v = .int (blackN i x.o : Nat) t) (by assumption) (by assumption) ?_ ?_
          · walk_at "mine if"
            · rename _ = _ => hb0
              rw [blk_mod] at hb0
              exact valEnd (by assumption) (by assumption) ⟨_, by rw [blackN, if_pos (by omega)]⟩
            · rename ¬ _ = _ => hb0
              rw [blk_mod] at hb0
              exact valEnd (by assumption) (by assumption) ⟨_, by rw [blackN, if_neg (by omega)]⟩
          rintro v h8 tk8 ⟨t8, rfl⟩ F8 N8
          walk_at "mine go"
          refine val_meets (fun v => ∃ t, v = .int (sgnN i x.o) t) (by assumption) (by assumption) ?_ ?_
          · walk_at "mine if"
            · rename _ = (1 : Int) => hq1
              rename _ = _ + _ => hq2
              rw [fmod2] at hq1
              exact valEnd (by assumption) (by assumption) ⟨_, by rw [sgnN, if_pos (by omega)]⟩
            · rename ¬ _ = (1 : Int) => hq1
              rw [fmod2] at hq1
              exact valEnd (by assumption) (by assumption) ⟨_, by rw [sgnN, if_neg (by omega)]⟩
            · rename ¬ _ = _ => hq1
              exact valEnd (by assumption) (by assumption) ⟨_, by rw [sgnN, if_neg (by omega)]⟩
          rintro v h9 tk9 ⟨t9, rfl⟩ F9 N9
          walk_at "mine go"
          refine pow_int_small (by omega) (by omega) (by decide) ?_
          dsimp only
          rw [pow16]
          walk_at "mine go"
          refine mul_int ?_ (IntMulOk.of_le (m := 1) (n := 401) (intBits_le_iff.mpr (sgn_le _ _)) (intBits_le_iff.mpr (pow16_le b2)) (by decide))
          dsimp only
          walk_at "mine go"
          refine mul_int ?_ (IntMulOk.of_le (m := 4) (n := 10) (intBits_le_iff.mpr (by decide)) (intBits_le_iff.mpr (by have := blackN_le i x.o; omega)) (by decide))
          dsimp only
          walk_at "mine go"
          rw [key_eq]
          refine kdf_setItem (c := c0) (by assumption) (by assumption) (.tail (Ne.symm (Ne.symm (Ap2 _ (.tail _ (.head _)))).symm) (.tail (Ne.symm hWI) (.head (by simp)))) hd hf (by omega) ?_
          intro h10 o' kvs' F10 N10 hd' hf'
          walk_at "mine go"
          refine ifEnd (by assumption) (by assumption) ⟨o', kvs', _, _, rfl, hd', ?_, map_ext [Str.ofString "cell", Str.ofString "other", Str.ofString "power", Str.ofString "place", Str.ofString "black", Str.ofString "sign"] (by walk_at "mine rfls") (by walk_at "mine rest")⟩
          rw [wPut, if_neg (show ¬ x.c = left from hne')]
          exact hf'
        · refine ifEnd (by assumption) (by assumption) ⟨o, kvs, bv, sv, rfl, hd, ?_, map_ext [Str.ofString "cell", Str.ofString "other", Str.ofString "power", Str.ofString "place"] (by walk_at "mine rfls") (by walk_at "mine rest")⟩
          rename (_ : Int) = _ => heq
          rw [wPut, if_pos (show x.c = left by omega)]
          exact hf
      · rintro m' news' h8 tk8 F8 N8 ⟨o', kvs', bv', sv', rfl, hd', hf', rfl⟩
        have hjl : j < r.ts.length := by
          rcases Nat.lt_or_ge j r.ts.length with h | h
          · exact h
          · rw [List.getElem?_eq_none h] at hxj; cases hxj
        walk_at "mine go"
        refine forPost F8 N8 (Ap2' o') ⟨o', kvs', _, _, _, bv', sv', rfl, hjl, rfl, hd', ?_, rfl⟩
        have hrj : (rowV r)[j]? = some (x.o, x.p, x.c) := by rw [rowV, List.getElem?_map, hxj]; rfl
        rw [take_succ_at hrj, wRow, List.foldl_append]
        rw [← hc0] at hf'
        exact hf'
    · rintro g₂ m' news' h tk7 ⟨o, kvs, ov, pv, plv, bv, sv, rfl, _, rfl, hd, hf, rfl⟩ F' N'
      clear F3 N3
      walk_at "mine go"
      refine forPost F' N' (by simpa using hWI) ⟨W, o, kvs, _, _, _, _, _, _, rfl, hi, hlo, rfl, hd, ?_, rfl⟩
      rw [worthsN_succ, hrr]
      rw [show (List.map (fun x => Value.ref x.a) r.ts).toArray.size = (rowV r).length by simp [rowV], List.take_length] at hf
      exact hf
  · rintro g' m' news' h tk' ⟨W, o, kvs, cv, ov, pv, plv, bv, sv, rfl, _, hlo, rfl, hd, hf, rfl⟩ F' N'
    clear F1 N1
    walk_at "mine go"
    exact retPost F' N' ⟨W, o, kvs, rfl, rfl, hd, hf, hlo⟩
end
section
open PySem PySem.W PyProof.Rows PySem.Calls PySem.Spec
section
variable (prog : Program) (w : World) (K : Frag) (p : Program) (loose : List Str)
/-- a call that hands back: touch is what it may change, ro what it reads, the rest stays -/
def CallsToU (hd : Option Value) (room U : Nat) (f : Addr) (vs : List Value) (touch ro : Led) (Ret : Value → Led → Prop) : Prop :=
  ∀ (mean : ExcName → Option Value) (mg mb : Str → Option Value) (dp un : Nat) (gd : Option (List Code)) (env : Env) (outer : List Env) (A₀ : Around) (base h₀ : Heap) (L : Addr) (m : Str → Option Value) (s : Shared) (Q E : Value → Shared → Prop) (rest : Led),
    Below A₀ base outer h₀ → Fr h₀ L s.heap m → K.In h₀ → News h₀ L s.heap (touch ++ rest) → (∀ p ∈ touch, ∀ q ∈ rest, p.1 ≠ q.1) → (∀ q ∈ ro, s.heap.get? q.1 = some q.2 ∧ ∀ p ∈ touch, p.1 ≠ q.1) →
    Top p loose mean mg mb h₀ → env.frame = some L → env.scope.kind = .function → dp + room < recursionLimit → un + U ≤ 9000 →
    (∀ v news' h' tk', Ret v news' → Fr h₀ L h' m → News h₀ L h' (news' ++ rest) → (∀ p ∈ news', ∀ q ∈ rest, p.1 ≠ q.1) → Q v { s with heap := h', toks := tk' }) →
    wpAny (model prog w) (cxA hd dp un gd env outer) (call (.ref f) vs) Q E s
def BodyToU (hd : Option Value) (room U : Nat) (qual : Str) (scope : Scope) (f : Addr) (cdv : Value) (body : List Stmt) (m : Str → Option Value) (touch ro : Led) (Ret : Value → Led → Prop) : Prop :=
  ∀ (mean : ExcName → Option Value) (mg mb : Str → Option Value) (dp un : Nat) (gd : Option (List Code)) (outer : List Env) (A₀ : Around) (base g : Heap) (L : Addr) (s : Shared),
    Below A₀ base outer g → Fr g L s.heap m → K.In g → News g L s.heap touch → Top p loose mean mg mb g → (∀ q ∈ ro, g.get? q.1 = some q.2) → dp + room ≤ recursionLimit → un + U ≤ 9000 →
    wpAny (model prog w) (cxA hd dp un gd (envOf qual scope L f cdv) outer) (execs body (envOf qual scope L f cdv)) (RetPost g L s Ret) (fun _ _ => False) s
def BodyToCU (hd : Option Value) (room U : Nat) (qual : Str) (scope : Scope) (f : Addr) (cdv : Value) (body : List Stmt) (binds : List (Str × Value)) (touch ro : Led) (Ret : Value → Led → Prop) : Prop :=
  ∀ (mean : ExcName → Option Value) (mg mb : Str → Option Value) (dp un : Nat) (gd : Option (List Code)) (outer : List Env) (A₀ : Around) (base g : Heap) (L : Addr) (s : Shared) (cells : Led),
    Below A₀ base outer g → Fr g L s.heap (bindL (envOfC qual scope L f cdv).kindOf binds fun _ => none) → K.In g → News g L s.heap (cells ++ touch) →
    CellsAre (bindC (envOfC qual scope L f cdv).kindOf binds fun _ => none) (cellsFrom (L + 1) scope.names []) cells → (∀ p ∈ touch, p.1 < L) →
    Top p loose mean mg mb g → (∀ q ∈ ro, g.get? q.1 = some q.2) → dp + room ≤ recursionLimit → un + U ≤ 9000 →
    wpAny (model prog w) (cxA hd dp un gd (envOfC qual scope L f cdv) outer) (execs body (envOfC qual scope L f cdv)) (RetPost g L s Ret) (fun _ _ => False) s
end
section
variable {prog : Program} {w : World} {K : Frag} {p : Program} {loose : List Str} {hd : Option Value} {room U : Nat} {f : Addr} {vs : List Value} {touch ro : Led} {Ret : Value → Led → Prop} {cls : String}
  {name qual : Str} {params : Arguments} {body : List Stmt} {scope : Scope} {dV kV doc pm cdv ct oc : Value} {an od : Option Addr} {osl : Array (Option Value)} {binds : List (Str × Value)}
theorem callsU_of_body (ho : K.lookup f = some ⟨oc, od, .func (fnOf name qual params body scope dV kV doc pm an cdv ct), osl⟩) (hcd : codeIn K cdv qual = true)
    (hbind : bindArgs (fnOf name qual params body scope dV kV doc pm an cdv ct) ⟨vs, []⟩ = pure binds) (hloc : (binds.all fun x => decide (scope.names.lookup x.1 = some .local)) = true)
    (hco : scope.isCoroutine = false) (hgen : scope.isGenerator = false) (hk : scope.kind = .function) (hcell : ∀ x ∈ scope.names, x.2 ≠ .cell)
    {m : Str → Option Value} (hm : (fun y => binds.reverse.lookup y) = m)
    (hb : BodyToU prog w K p loose hd room U qual scope f cdv body m touch ro Ret) : CallsToU prog w K p loose hd room (U + 3) f vs touch ro Ret := by
  intro mean mg mb dp un gd env outer A₀ base h₀ L m₀ s Q E rest B F X₀ N Ap Ro T hf hke hroom hun hret
  refine wpAny_call ?_
  have X := X₀.keeps F.keep
  refine codeAny_call_def (fd := fnOf name qual params body scope dV kV doc pm an cdv ct) (body := body) (binds := binds) (by show dp < recursionLimit; omega) (X _ _ ho) rfl (T.nolimit.keeps F.keep) (codeRec_of X hcd) rfl (BindsTo.of_eq hbind) hcell (locs hloc) (fun h₁ hns hk₁ => ?_) hco hgen hk
  obtain ⟨FG, BG, st, lv⟩ := groundX (A := cxA hd dp un gd env outer) (R := fun r s' => match r with | .ok (.ret v) => Q v s' | .ok _ => False | .error e => E e s') B F (nwL N) rfl hf hke
  rw [hm] at hns
  refine wpAny_mono (hb mean mg mb (dp + 1) (un + 3) gd (env :: outer) _ base _ s.heap.objs.size _ BG ⟨hns, fun b o e => hk₁ b o (of_hideAll _ e), Nat.le_of_eq (hideAll_size _ _)⟩ (X₀.keeps st)
    (fun p hp => ⟨hk₁ _ _ ((nwL N) p hp).1, Nat.ne_of_lt (Heap.lt_size ((nwL N) p hp).1), hideAll_none _ (List.mem_map_of_mem hp)⟩) (T.keeps st) (fun q hq => hide_rest (Ro q hq).1 (Ro q hq).2) (by omega) (by omega)) (fun fl s' hl => ?_) fun _ _ y => y.elim
  obtain ⟨m', news', h', tk', rfl, F', N', hR⟩ := hl
  refine lv _ _ ⟨_, m', news', F', N', fun F3 N3 => ?_⟩
  refine hret _ _ _ _ hR F3 (nwApp N3 fun q hq => ⟨F'.keep _ _ (hide_rest ((nwR N) q hq).1 fun p hp => Ap p hp q hq), ((nwR N) q hq).2⟩) fun p hp q hq e => ?_
  have h1 := (N' p hp).2.2
  rw [e, hide_rest ((nwR N) q hq).1 fun p hp => Ap p hp q hq] at h1
  cases h1
theorem callsCU_of_body (ho : K.lookup f = some ⟨oc, od, .func (fnOf name qual params body scope dV kV doc pm an cdv ct), osl⟩) (hcd : codeIn K cdv qual = true)
    (hbind : bindArgs (fnOf name qual params body scope dV kV doc pm an cdv ct) ⟨vs, []⟩ = pure binds) (hkind : (binds.all fun y => scope.names.lookup y.1 == some .local || scope.names.lookup y.1 == some .cell) = true)
    (hnd : ((cellsFrom 0 scope.names []).map (·.1)).Nodup)
    (hco : scope.isCoroutine = false) (hgen : scope.isGenerator = false) (hk : scope.kind = .function)
    (hb : BodyToCU prog w K p loose hd room U qual scope f cdv body binds touch ro Ret) : CallsToU prog w K p loose hd room (U + 3) f vs touch ro Ret := by
  intro mean mg mb dp un gd env outer A₀ base h₀ L m₀ s Q E rest B F X₀ N Ap Ro T hf hke hroom hun hret
  refine wpAny_call ?_
  have X := X₀.keeps F.keep
  obtain ⟨FG, BG, st, lv⟩ := groundX (A := cxA hd dp un gd env outer) (R := fun r s' => match r with | .ok (.ret v) => Q v s' | .ok _ => False | .error e => E e s') B F (nwL N) rfl hf hke
  refine codeAny_call_function (by show dp < recursionLimit; omega) (X _ _ ho) rfl hco hgen rfl (codeRec_of X hcd) (BindsTo.of_eq hbind _ _ _ _ ?_)
  refine wpAny_newFunctionEnv_cells hk (kindsX hkind _) fun env' he s' x => ?_
  subst he
  refine ⟨(T.nolimit.keeps F.keep).keeps x.toInCall.keep, codeAny_func ?_⟩
  obtain ⟨h₁, tk, rfl, _⟩ := x.done
  have hk₁ := x.toInCall.keep
  obtain ⟨cells, NC, Y⟩ := Cl.news (h₀ := s.heap) (Nat.le_refl _) fun n c hm => ⟨x.cell n c (lookup_of_mem_nodup (cellsFrom_names scope.names 0 (s.heap.objs.size + 1) [] [] rfl ▸ hnd) hm), x.above n c hm⟩
  refine wpAny_mono (hb mean mg mb (dp + 1) (un + 3) gd (env :: outer) _ base _ s.heap.objs.size _ cells BG ⟨x.toInCall.ns, fun b o e => hk₁ b o (of_hideAll _ e), Nat.le_of_eq (hideAll_size _ _)⟩ (X₀.keeps st)
    (nwApp (fun p hp => ⟨(NC p hp).1, (NC p hp).2.1, ?_⟩) (fun p hp => ⟨hk₁ _ _ ((nwL N) p hp).1, Nat.ne_of_lt (Heap.lt_size ((nwL N) p hp).1), hideAll_none _ (List.mem_map_of_mem hp)⟩)) Y
    (fun p hp => Heap.lt_size ((nwL N) p hp).1) (T.keeps st) (fun q hq => hide_rest (Ro q hq).1 (Ro q hq).2) (by omega) (by omega)) (fun fl s' hl => ?_) fun _ _ y => y.elim
  · cases q : (hideAll s.heap (touch.map (·.1))).get? p.1 with
    | none => rfl
    | some o => have := of_hideAll _ q; rw [(NC p hp).2.2] at this; cases this
  obtain ⟨m', news', h', tk', rfl, F', N', hR⟩ := hl
  refine lv _ _ ⟨_, m', news', F', N', fun F3 N3 => ?_⟩
  refine hret _ _ _ _ hR F3 (nwApp N3 fun q hq => ⟨F'.keep _ _ (hide_rest ((nwR N) q hq).1 fun p hp => Ap p hp q hq), ((nwR N) q hq).2⟩) fun p hp q hq e => ?_
  have h1 := (N' p hp).2.2
  rw [e, hide_rest ((nwR N) q hq).1 fun p hp => Ap p hp q hq] at h1
  cases h1
theorem callsU_use {mean : ExcName → Option Value} {mg mb : Str → Option Value} {dp un : Nat} {gd : Option (List Code)} {env : Env} {outer : List Env} {A₀ : Around} {base h₀ : Heap} {L : Addr} {m : Str → Option Value} {s : Shared} {Q E : Value → Shared → Prop} {rest : Led}
    (C : CallsToU prog w K p loose hd room U f vs touch ro Ret)
    (B : Below A₀ base outer h₀) (F : Fr h₀ L s.heap m) (X : K.In h₀) (N : News h₀ L s.heap (touch ++ rest)) (T : Top p loose mean mg mb h₀) (Ap : ∀ p ∈ touch, ∀ q ∈ rest, p.1 ≠ q.1) (Ro : ∀ q ∈ ro, s.heap.get? q.1 = some q.2 ∧ ∀ p ∈ touch, p.1 ≠ q.1)
    (hf : env.frame = some L) (hk : env.scope.kind = .function) (hr : dp + room < recursionLimit) (hu : un + U ≤ 9000)
    (ret : ∀ v news' h' tk', Ret v news' → Fr h₀ L h' m → News h₀ L h' (news' ++ rest) → (∀ p ∈ news', ∀ q ∈ rest, p.1 ≠ q.1) → Q v { s with heap := h', toks := tk' }) :
    wpAny (model prog w) (cxA hd dp un gd env outer) (call (.ref f) vs) Q E s := C _ _ _ _ _ _ _ _ _ _ _ _ _ _ _ _ _ B F X N Ap Ro T hf hk hr hu ret
theorem callsU_of {hd : Option Value} (C : CallsTo prog w K p loose hd room f vs touch ro Ret) : CallsToU prog w K p loose hd room U f vs touch ro Ret := by
  intro mean mg mb dp un gd env outer A₀ base h₀ L m s Q E rest B F X N Ap Ro T hf hk hr _ ret
  exact C _ _ _ _ _ _ _ _ _ _ _ _ _ _ _ _ _ B F X N Ap Ro T hf hk hr ret
end
end
section
open PySem PySem.W PyProof.Rows PySem.Calls PySem.Spec PyProof.V
local macro_rules | `(tactic| walk_at "mine step") => `(tactic| first | (k_unfold; (try dsimp only)) | (k_end; wrow_close) | walk1 | (dsimp only; walk1) | (leave1; walk_say "STEP leave1"; try dsimp only))
local macro_rules | `(tactic| walk_at "mine rfls") => `(tactic| (repeat' first | exact List.forall_mem_nil _ | refine List.forall_mem_cons.mpr ⟨rfl, ?_⟩))
local macro_rules | `(tactic| walk_at "mine rest") => `(tactic| (intro y hy; simp only [List.forall_mem_cons, List.not_mem_nil, false_implies, implies_true, and_true, ne_eq] at hy; simp [hy]))
local macro_rules | `(tactic| walk_at "mine if") => `(tactic| (walk_at "mine step"; walk_at "mine go"))
local macro_rules | `(tactic| walk_at "mine go") => `(tactic| repeat' ((fail_if_success (with_reducible show wpAny _ _ (exec (Stmt.For _ _ _ _ _) _) _ _ _)); (fail_if_success (with_reducible show RetPost _ _ _ _ _ _)); (fail_if_success (with_reducible show wpAny _ _ (exec (Stmt.If _ _ _ _) _) _ _ _)); (fail_if_success (with_reducible show IfEnd _ _ _ _ _ _)); (fail_if_success (with_reducible show ForPost _ _ _ _ _ _ _ _)); (fail_if_success (with_reducible show wpAny _ _ (call (Value.ref _) _) _ _ _)); (fail_if_success (with_reducible show wpAny _ _ (subscriptTail _ _ (Value.ref _) _) _ _ _)); (fail_if_success (with_reducible show wpAny _ _ (call (Value.builtin "dict.get") _) _ _ _)); (fail_if_success (with_reducible show wpAny _ _ (call (Value.builtin "len") _) _ _ _)); (fail_if_success (with_reducible show wpAny _ _ (compareOp CmpOp.Eq (Value.ref _) _) _ _ _)); (fail_if_success (with_reducible show wpAny _ _ (binaryOp Operator.Mult _ _) _ _ _)); (fail_if_success (with_reducible show wpAny _ _ (binaryOp Operator.Add (Value.ref _) (Value.ref _)) _ _ _)); (fail_if_success (with_reducible show wpAny _ _ (binaryOp Operator.Pow _ _) _ _ _)); (fail_if_success (with_reducible show wpAny _ _ (pyIter _) _ _ _)); walk_at "mine step"))
set_option maxRecDepth 100000
set_option maxHeartbeats 8000000
def lookN (c : List (Int × Int)) (k : Nat) : Int := kdfLook c (k : Int) 0
def sgnStep (c : List (Int × Int)) (b : Nat) (ws : List Nat) (rec : List Nat → Int) (t : Int) (k : Nat) : Int :=
  if lookN c (12 * b + ws.getD k 0) = 0 then t else t + (-1) ^ k * lookN c (12 * b + ws.getD k 0) * rec (ws.take k ++ ws.drop (k + 1))
def signedN (c : List (Int × Int)) : List Nat → List Nat → Int
  | [], _ => 1
  | b :: bs, ws => (List.range ws.length).foldl (sgnStep c b ws (signedN c bs)) 0
theorem neg1_abs (k : Nat) : ((-1 : Int) ^ k).natAbs = 1 := by rw [Int.natAbs_pow]; simp
theorem step_le {c : List (Int × Int)} {b : Nat} {ws : List Nat} {rec : List Nat → Int} {M : Nat} (hcb : ∀ k, (lookN c k).natAbs < 2 ^ 401) (hrec : ∀ k, (rec (ws.take k ++ ws.drop (k + 1))).natAbs < M) (t : Int) (k : Nat) :
    (sgnStep c b ws rec t k).natAbs ≤ t.natAbs + 2 ^ 401 * M := by
  unfold sgnStep
  split
  · exact Nat.le_add_right _ _
  · refine Nat.le_trans (Int.natAbs_add_le _ _) (Nat.add_le_add_left ?_ _)
    rw [Int.natAbs_mul, Int.natAbs_mul, neg1_abs, Nat.one_mul]
    exact Nat.mul_le_mul (Nat.le_of_lt (hcb _)) (Nat.le_of_lt (hrec _))
theorem fold_le {c : List (Int × Int)} {b : Nat} {ws : List Nat} {rec : List Nat → Int} {M : Nat} (hcb : ∀ k, (lookN c k).natAbs < 2 ^ 401) (hrec : ∀ k, (rec (ws.take k ++ ws.drop (k + 1))).natAbs < M) : ∀ (l : List Nat) (t : Int),
    (l.foldl (sgnStep c b ws rec) t).natAbs ≤ t.natAbs + l.length * (2 ^ 401 * M)
  | [], t => by simp
  | k :: l, t => by
    rw [List.foldl_cons, List.length_cons, Nat.succ_mul]
    have h1 := fold_le (b := b) hcb hrec l (sgnStep c b ws rec t k)
    have h2 := step_le (b := b) hcb hrec t k
    omega
theorem sgn_bound {c : List (Int × Int)} (hcb : ∀ k, (lookN c k).natAbs < 2 ^ 401) : ∀ (bs ws : List Nat), ws.length ≤ 7 → (signedN c bs ws).natAbs < 2 ^ (404 * bs.length + 1)
  | [], _, _ => by simp [signedN]
  | b :: bs, ws, h => by
    have h1 := fold_le (b := b) (ws := ws) (rec := signedN c bs) (M := 2 ^ (404 * bs.length + 1)) hcb (fun k => sgn_bound hcb bs _ (by rw [List.length_append, List.length_take, List.length_drop]; omega)) (List.range ws.length) 0
    rw [signedN, List.length_cons, show 404 * (bs.length + 1) + 1 = 3 + (401 + (404 * bs.length + 1)) by omega, Nat.pow_add 2 3, Nat.pow_add 2 401]
    rw [List.length_range, Int.natAbs_zero, Nat.zero_add] at h1
    refine Nat.lt_of_le_of_lt h1 (Nat.mul_lt_mul_of_pos_right (by omega) ?_)
    exact Nat.mul_pos (Nat.pow_pos (by decide)) (Nat.pow_pos (by decide))
theorem law_signed (w : World) (c : List (Int × Int)) (W : Addr) (o : Obj) (kvs : List (Int × Value)) (hlo : (W == sysModules) = false) (hd : o.IsDictOf (PySem.intKind Challenge.rw_pu0001_02.row.prog w) kvs) (hf : FlatPairs PyData.int kvs (kdfD c)) (hcb : ∀ k, (lookN c k).natAbs < 2 ^ 401) :
    ∀ (n : Nat) (bs ws : List Nat) (bl wl : Addr) (bvs wvs : List Value) (e1 e2 : Nat), bs.length = n → IntsAre bvs (zs bs) → IntsAre wvs (zs ws) → n ≤ 6 → ws.length ≤ 7 → (∀ b ∈ bs, b ≤ 100) →
    CallsToU Challenge.rw_pu0001_02.row.prog w (hd02.heap_39 w.params) hd02.view_39 (looseW hd02.view_39 []) none (n + 1) (3 * n + 3) 56 [.ref bl, .ref wl, .ref W] [] [(bl, listOf bvs.toArray e1), (wl, listOf wvs.toArray e2), (W, o)] (fun v news' => (∃ u, v = .int (signedN c bs ws) u) ∧ news' = []) := by
  intro n
  induction n with
  | zero =>
    intro bs ws bl wl bvs wvs e1 e2 hn hb hw _ _ _
    k_fill
    refine callsU_of_body (binds := [(Str.ofString "blacks", .ref bl), (Str.ofString "whites", .ref wl), (Str.ofString "worths", .ref W)]) (by k_is) (by k_is) rfl rfl rfl rfl rfl (by decide) (look3 _ _ _ _ _ _) ?_
    intro mean mg mb dp un gd outer A₀ base g L s B F X N T Ro hr hun
    have hbl : g.IsList bl bvs.toArray := ⟨_, Ro _ (.head _), rfl, _, rfl⟩
    have hbs : bs = [] := List.length_eq_zero_iff.mp hn
    subst hbs
    walk_at "mine go"
    walk_at "mine if"
    refine eq_intsK (stays_list (Fr.keep (by assumption)) hbl) hb (News.isList (items := ([] : List Value).toArray) (by assumption) (.head _)) .nil (show un + 64 < 9900 by omega) ?_
    walk_at "mine go"
    exact retPost (by assumption) News.nil ⟨⟨_, rfl⟩, rfl⟩
  | succ n ih =>
    intro bs ws bl wl bvs wvs e1 e2 hn hb hw hn6 hw7 hb100
    k_fill
    refine callsU_of_body (binds := [(Str.ofString "blacks", .ref bl), (Str.ofString "whites", .ref wl), (Str.ofString "worths", .ref W)]) (by k_is) (by k_is) rfl rfl rfl rfl rfl (by decide) (look3 _ _ _ _ _ _) ?_
    intro mean mg mb dp un gd outer A₀ base g L s B F X N T Ro hr hun
    have hbl : g.IsList bl bvs.toArray := ⟨_, Ro _ (.head _), rfl, _, rfl⟩
    have hwl : g.IsList wl wvs.toArray := ⟨_, Ro _ (.tail _ (.head _)), rfl, _, rfl⟩
    have hT : IntTab Challenge.rw_pu0001_02.row.prog w g W (kdfD c) := TabAt.ofObj hlo (Ro _ (.tail _ (.tail _ (.head _)))) hd hf
    obtain ⟨b, bs, rfl⟩ : ∃ b r, bs = b :: r := by
      cases bs with
      | nil => simp at hn
      | cons b r => exact ⟨b, r, rfl⟩
    obtain ⟨tb, bvs, rfl, hb'⟩ := IntsAre.cons_inv hb
    have hwle : wvs.length = ws.length := by rw [hw.length, List.length_map]
    walk_at "mine go"
    walk_at "mine if"
    refine eq_intsK (stays_list (Fr.keep (by assumption)) hbl) hb (News.isList (items := ([] : List Value).toArray) (by assumption) (.head _)) .nil (show un + 64 < 9900 by omega) ?_
    walk_at "mine go"
    · rename decide _ = true => habs
      simp at habs
    walk_at "mine go"
    refine wpAny_For ?_
    walk_at "mine go"
    refine len_list (stays_list (Fr.keep (by assumption)) hwl) (by simp; omega) ?_
    walk_at "mine go"
    rename IsRange _ _ _ _ _ _ _ _ => hR
    rename Fr _ _ _ _ => F11
    rename News _ _ _ _ => N11
    rw [hwle] at hR
    generalize htn : (fun i => (List.range i).foldl (sgnStep c b ws (signedN c bs)) 0) = totN
    refine for_range (n := ws.length) (fun i g' m' news' => ∃ tt kv wv, g' = g ∧ i ≤ ws.length ∧ news' = [] ∧ m' = (fun y => if y = Str.ofString "total" then some (.int (totN i) tt) else if y = Str.ofString "k" then kv else if y = Str.ofString "worth" then wv else if y = Str.ofString "worths" then some (.ref W) else if y = Str.ofString "whites" then some (.ref wl) else if y = Str.ofString "blacks" then some (.ref bl) else none)) rfl F11 (nwSub N11 (n' := []) (by simp)) ?_ hR (rsmall1 (by omega)) (rangeSize_nat _ _) ?_ ?_
    · subst htn
      exact ⟨_, none, none, rfl, Nat.zero_le _, rfl, map_ext [Str.ofString "total", Str.ofString "k", Str.ofString "worth"] (by walk_at "mine rfls") (by walk_at "mine rest")⟩
    · rintro i g' m' news' h tk' I io t' hi ⟨tt, kv, wv, rfl, _, rfl, rfl⟩ F' N' Ap
      clear F11 N11
      rw [show (0 : Int) + 1 * (i : Int) = ((i : Nat) : Int) by omega]
      obtain ⟨tw, htw⟩ := hw.get i (ws.getD i 0 : Nat) (by rw [List.getElem?_map, List.getD_eq_getElem?_getD, List.getElem?_eq_getElem hi]; rfl)
      walk_at "mine go"
      refine item_list (stays_list (Fr.keep (by assumption)) hbl) (by decide) (by decide) (x := Value.int (b : Nat) tb) (by rfl) ?_
      walk_at "mine go"
      refine mul_int ?_ (IntMulOk.of_le (m := 4) (n := 10) (intBits_le_iff.mpr (by decide)) (intBits_le_iff.mpr (by have := hb100 b (.head _); omega)) (by decide))
      dsimp only
      walk_at "mine go"
      refine item_list (stays_list (Fr.keep (by assumption)) hwl) (by omega) (by omega) (x := Value.int (ws.getD i 0 : Nat) tw) (by rw [List.getElem?_toArray, Int.toNat_natCast]; exact htw) ?_
      walk_at "mine go"
      try dsimp only
      rw [show (12 : Int) * ((b : Nat) : Int) + ((ws.getD i 0 : Nat) : Int) = ((12 * b + ws.getD i 0 : Nat) : Int) by omega]
      rename TabAt _ _ _ _ _ => hT
      refine kdf_get2 (TabAt.keep hT (Fr.keep (by assumption))) ?_
      intro t5
      rw [show kdfLook c ((12 * b + ws.getD i 0 : Nat) : Int) 0 = lookN c (12 * b + ws.getD i 0) from rfl]
      have hx := hcb (12 * b + ws.getD i 0)
      generalize hxx : lookN c (12 * b + ws.getD i 0) = x at hx
      walk_at "mine go"
      rename News _ _ _ _ => N12
      have hts : totN (i + 1) = sgnStep c b ws (signedN c bs) (totN i) i := by
        rw [← htn]
        simp only [List.range_succ, List.foldl_append]
        rfl
      refine if_meets g' L (fun m' news' => ∃ tt, news' = [(I, io)] ∧ m' = (fun y => if y = Str.ofString "total" then some (.int (sgnStep c b ws (signedN c bs) (totN i) i) tt) else if y = Str.ofString "k" then some (.int (i : Nat) t') else if y = Str.ofString "worth" then some (.int x t5) else if y = Str.ofString "worths" then some (.ref W) else if y = Str.ofString "whites" then some (.ref wl) else if y = Str.ofString "blacks" then some (.ref bl) else none)) ?_ ?_
      · walk_at "mine if"
        · rename ¬ _ = _ => hx0
          refine pow_int_small (by omega) (by omega) (by decide) ?_
          dsimp only
          rw [Int.toNat_natCast]
          walk_at "mine go"
          refine mul_int ?_ (IntMulOk.of_le (m := 1) (n := 401) (intBits_le_iff.mpr (by rw [neg1_abs]; decide)) (intBits_le_iff.mpr hx) (by decide))
          dsimp only
          walk_at "mine go"
          rename Fr _ _ _ _ => F20
          rename News _ _ _ _ => N20
          refine slice_L (s := ⟨_, _, _, _, _⟩) F20 N20 (stays_list F20.keep hbl) (by constructor) (by constructor) (by constructor) (by decide) ?_ (by have := hb'.length; simp at this hn ⊢; omega)
          intro D1 h21 F21 N21 l21
          rw [show slicePick (Value.int (Int.ofNat b) tb :: bvs).toArray (some 1) none none = bvs.toArray from slicePick_from' _ 1] at N21
          walk_at "mine go"
          rename Fr _ _ _ _ => F22
          rename News _ _ _ _ => N22
          refine slice_L (s := ⟨_, _, _, _, _⟩) F22 N22 (stays_list F22.keep hwl) (by constructor) (by constructor) (by constructor) (by decide) ?_ (by simp; omega)
          intro D2 h23 F23 N23 l23
          rw [show slicePick wvs.toArray none (some (i : Int)) none = (wvs.take i).toArray from slicePick_upto' _ i] at N23
          walk_at "mine go"
          rename Fr _ _ _ _ => F24
          rename News _ _ _ _ => N24
          refine slice_L (s := ⟨_, _, _, _, _⟩) F24 N24 (stays_list F24.keep hwl) (by constructor) (by constructor) (by constructor) (by decide) ?_ (by simp; omega)
          intro D3 h25 F25 N25 l25
          rw [show slicePick wvs.toArray (some ((i : Int) + 1)) none none = (wvs.drop (i + 1)).toArray from slicePick_from' _ (i + 1)] at N25
          walk_at "mine go"
          rename Fr _ _ _ _ => F26
          rename News _ _ _ _ => N26
          refine add_L F26 N26 (vs := wvs.take i) (ws := wvs.drop (i + 1)) (News.isList N26 (.tail _ (.head _))) (News.isList N26 (.head _)) ?_ (by simp; omega)
          intro D4 h27 F27 N27 l27
          walk_at "mine go"
          rename Fr _ _ _ _ => F28
          rename News _ _ _ _ => N28
          have hws : IntsAre (wvs.take i ++ wvs.drop (i + 1)) (zs (ws.take i ++ ws.drop (i + 1))) := by
            rw [zs, List.map_append, List.map_take, List.map_drop]
            exact (hw.take i).append (hw.drop (i + 1))
          have hwsl : (ws.take i ++ ws.drop (i + 1)).length ≤ 7 := by rw [List.length_append, List.length_take, List.length_drop]; omega
          have hrb := sgn_bound hcb bs _ hwsl
          have hbn : bs.length = n := by simpa using hn
          refine callsU_use (rest := [(D4, listOf (wvs.take i ++ wvs.drop (i + 1)).toArray 0), (D3, listOf (wvs.drop (i + 1)).toArray 0), (D2, listOf (wvs.take i).toArray 0), (D1, listOf bvs.toArray 0), (I, io)]) (ih bs (ws.take i ++ ws.drop (i + 1)) D1 D4 bvs _ 0 0 hbn hb' hws (by omega) hwsl (fun q hq => hb100 q (.tail _ hq))) B F28 X N28 T (by simp) ?_ rfl rfl (by omega) (by omega) ?_
          · intro q hq
            simp only [List.mem_cons, List.not_mem_nil, or_false] at hq
            refine ⟨?_, by simp⟩
            rcases hq with rfl | rfl | rfl
            · exact (N28 _ (by simp)).1
            · exact (N28 _ (.head _)).1
            · exact F28.keep _ _ (Ro _ (.tail _ (.tail _ (.head _))))
          rintro v30 news30 h30 tk30 ⟨⟨u30, rfl⟩, rfl⟩ F30 N30 _
          have N31 : News g' L h30 [(I, io)] := nwSub N30 (by intro p hp; rw [List.mem_singleton] at hp; subst hp; simp)
          clear N30 N28 F28
          walk_at "mine go"
          refine mul_int ?_ (IntMulOk.of_le (m := 401) (n := 404 * 6 + 1) (intBits_le_iff.mpr (by rw [Int.natAbs_mul, neg1_abs, Nat.one_mul]; exact hx)) (intBits_le_iff.mpr (Nat.lt_of_lt_of_le hrb (Nat.pow_le_pow_right (by decide) (by omega)))) (by decide))
          dsimp only
          walk_at "mine go"
          rename Fr _ _ _ _ => F33
          rename News _ _ _ _ => N33
          rw [show totN i + (-1) ^ i * x * signedN c bs (List.take i ws ++ List.drop (i + 1) ws) = sgnStep c b ws (signedN c bs) (totN i) i by rw [sgnStep, hxx, if_neg hx0]] at F33
          exact ifEnd F33 N33 ⟨_, rfl, map_ext [Str.ofString "total", Str.ofString "k", Str.ofString "worth"] (by walk_at "mine rfls") (by walk_at "mine rest")⟩
        · rename _ = _ => hx0
          refine ifEnd (by assumption) (by assumption) ⟨tt, rfl, ?_⟩
          rw [sgnStep, hxx, if_pos hx0]
          exact map_ext [Str.ofString "total", Str.ofString "k", Str.ofString "worth"] (by walk_at "mine rfls") (by walk_at "mine rest")
      · rintro m' news' h40 tk40 F40 N40 ⟨tt', rfl, rfl⟩
        walk_at "mine go"
        rw [← hts] at F40
        exact forPost F40 N40 (by simp) ⟨tt', _, _, rfl, hi, rfl, rfl⟩
    · rintro g' m' news' h tk' ⟨tt, kv, wv, rfl, _, rfl, rfl⟩ F' N'
      clear F11 N11
      walk_at "mine go"
      subst htn
      exact retPost F' News.nil ⟨⟨_, rfl⟩, rfl⟩
end
section
open PySem PySem.W PyProof.Rows PySem.Calls PySem.Spec LCg LCt
set_option maxRecDepth 100000
theorem compEnd_mono {h₀ : Heap} {L I C D : Addr} {m : Str → Option Value} {s₁ : Shared} {oI oC oD : Obj} {S : List (Addr × Obj) → Prop} {R R' : Value → List (Addr × Obj) → Prop} {y : Value} {s₂ : Shared} (h : ∀ n, R y n → R' y n)
    (c : CompEnd h₀ L m s₁ I oI C oC D oD S R y s₂) : CompEnd h₀ L m s₁ I oI C oC D oD S R' y s₂ := by
  obtain ⟨h', tk, news', e, F, N, o, hS, r⟩ := c
  exact ⟨h', tk, news', e, F, N, o, hS, h _ r⟩
section
variable {prog : Program} {w : World} {A : Around} {s : Shared} {h₀ : Heap} {L : Addr} {m : Str → Option Value} {env : Env}
/-- a comprehension with one test whose turns leave the ledger -/
theorem restT_ind {ct elt : Expr} {x : Str} {scope : Scope} {cl : List (Str × Addr)} {S : List (Addr × Obj) → Prop} {P : Nat → Value → Prop} {Fin : List Value → List (Addr × Obj) → Prop} {n : Nat} {news : List (Addr × Obj)} (J : Nat → List Value → Prop)
    (turn : ∀ i ys v I oI C oC D m₂ h tk (E' : Value → Shared → Prop), i < n → J i ys → P i v → NsObj oC m₂ → m₂ x = some v → Fr h₀ L h m → News h₀ L h ((I, oI) :: (C, oC) :: (D, lst ys) :: news) → Off3 I C D news → ((@Ne Nat I C) ∧ (@Ne Nat I D) ∧ (@Ne Nat C D)) →
      wpAny (model prog w) A (isTrue ct (compEnvC scope cl C env) (eval ct (compEnvC scope cl C env))) (fun ok s' => if ok = true then
        wpAny (model prog w) A (eval elt (compEnvC scope cl C env)) (CompEnd h₀ L m { s with heap := h, toks := tk } I oI C oC D (lst ys) S (fun y news' => news' = news ∧ J (i + 1) (ys ++ [y]))) E' s'
        else CompEnd h₀ L m { s with heap := h, toks := tk } I oI C oC D (lst ys) S (fun _ news' => news' = news ∧ J (i + 1) ys) Value.none s') E' { s with heap := h, toks := tk })
    (fin : ∀ ys, J n ys → Fin ys news) : ∀ k i ys, i + k = n → J i ys → CompRestT prog w A h₀ L m env ct elt x scope cl s S P Fin k i ys news
  | 0, i, ys, e, j => fin ys (by rw [← e]; exact j)
  | k + 1, i, ys, e, j => by
    refine CompRestT.succ fun v I oI C oC D m₂ h tk E' hP hC hx F N off ne => ?_
    refine wpAny_mono (turn i ys v I oI C oC D m₂ h tk E' (by omega) j hP hC hx F N off ne) (fun ok s' hok => ?_) fun _ _ x => x
    cases ok with
    | true =>
      simp only [if_true] at hok ⊢
      refine wpAny_mono hok (fun y s'' hy => compEnd_mono (fun n' r => ?_) hy) fun _ _ x => x
      obtain ⟨rfl, j'⟩ := r
      exact restT_ind J turn fin k (i + 1) _ (by omega) j'
    | false =>
      simp only [Bool.false_eq_true, if_false] at hok ⊢
      refine compEnd_mono (fun n' r => ?_) hok
      obtain ⟨rfl, j'⟩ := r
      exact restT_ind J turn fin k (i + 1) _ (by omega) j'
/-- the same without a test -/
theorem rest_ind {elt : Expr} {x : Str} {scope : Scope} {cl : List (Str × Addr)} {S : List (Addr × Obj) → Prop} {P : Nat → Value → Prop} {Fin : List Value → List (Addr × Obj) → Prop} {n : Nat} {news : List (Addr × Obj)} (J : Nat → List Value → Prop)
    (turn : ∀ i ys v I oI C oC D m₂ h tk (E' : Value → Shared → Prop), i < n → J i ys → P i v → NsObj oC m₂ → m₂ x = some v → Fr h₀ L h m → News h₀ L h ((I, oI) :: (C, oC) :: (D, lst ys) :: news) → Off3 I C D news → ((@Ne Nat I C) ∧ (@Ne Nat I D) ∧ (@Ne Nat C D)) →
      wpAny (model prog w) A (eval elt (compEnvC scope cl C env)) (CompEnd h₀ L m { s with heap := h, toks := tk } I oI C oC D (lst ys) S (fun y news' => news' = news ∧ J (i + 1) (ys ++ [y]))) E' { s with heap := h, toks := tk })
    (fin : ∀ ys, J n ys → Fin ys news) : ∀ k i ys, i + k = n → J i ys → CompRest prog w A h₀ L m env elt x scope cl s S P Fin k i ys news
  | 0, i, ys, e, j => fin ys (by rw [← e]; exact j)
  | k + 1, i, ys, e, j => by
    intro v I oI C oC D m₂ h tk E' hP hC hx F N off ne
    refine wpAny_mono (turn i ys v I oI C oC D m₂ h tk E' (by omega) j hP hC hx F N off ne) (fun y s' hy => compEnd_mono (fun n' r => ?_) hy) fun _ _ x => x
    obtain ⟨rfl, j'⟩ := r
    exact rest_ind J turn fin k (i + 1) _ (by omega) j'
end
end
section
open PySem PySem.W PyProof.Rows PySem.Calls PySem.Spec PyProof.V
local macro_rules | `(tactic| walk_at "mine step") => `(tactic| first | (k_unfold; (try dsimp only)) | (k_end; wrow_close) | walk1 | (dsimp only; walk1) | (leave1; walk_say "STEP leave1"; try dsimp only))
local macro_rules | `(tactic| walk_at "mine rfls") => `(tactic| (repeat' first | exact List.forall_mem_nil _ | refine List.forall_mem_cons.mpr ⟨rfl, ?_⟩))
local macro_rules | `(tactic| walk_at "mine rest") => `(tactic| (intro y hy; simp only [List.forall_mem_cons, List.not_mem_nil, false_implies, implies_true, and_true, ne_eq] at hy; simp [hy]))
local macro_rules | `(tactic| walk_at "mine if") => `(tactic| (walk_at "mine step"; walk_at "mine go"))
local macro_rules | `(tactic| walk_at "mine go") => `(tactic| repeat' ((fail_if_success (with_reducible show wpAny _ _ (exec (Stmt.For _ _ _ _ _) _) _ _ _)); (fail_if_success (with_reducible show RetPost _ _ _ _ _ _)); (fail_if_success (with_reducible show wpAny _ _ (exec (Stmt.If _ _ _ _) _) _ _ _)); (fail_if_success (with_reducible show IfEnd _ _ _ _ _ _)); (fail_if_success (with_reducible show ForPost _ _ _ _ _ _ _ _)); (fail_if_success (with_reducible show wpAny _ _ (call (Value.ref _) _) _ _ _)); (fail_if_success (with_reducible show wpAny _ _ (subscriptTail _ _ (Value.ref _) _) _ _ _)); (fail_if_success (with_reducible show wpAny _ _ (call (Value.builtin "list.append") _) _ _ _)); (fail_if_success (with_reducible show ValEnd _ _ _ _ _ _ _ _)); (fail_if_success (with_reducible show wpAny _ _ (eval (Expr.IfExp _ _ _ _) _) _ _ _)); (fail_if_success (with_reducible show wpAny _ _ (compareOp CmpOp.In _ _) _ _ _)); (fail_if_success (with_reducible show wpAny _ _ (eval (Expr.ListComp _ _ _ _) _) _ _ _)); (fail_if_success (with_reducible show wpAny _ _ (exec (Stmt.Assign _ (Expr.ListComp _ _ _ _) _) _) _ _ _)); (fail_if_success (with_reducible show LCt.CompSrcT _ _ _ _ _ _ _ _ _ _ _ _ _ _ _)); (fail_if_success (with_reducible show LCg.CompEnd _ _ _ _ _ _ _ _ _ _ _ _ _ _));  (fail_if_success (with_reducible show wpAny _ _ (call (Value.builtin "len") _) _ _ _)); (fail_if_success (with_reducible show wpAny _ _ (compareOp CmpOp.Eq (Value.ref _) _) _ _ _)); (fail_if_success (with_reducible show wpAny _ _ (binaryOp Operator.Mult _ _) _ _ _)); (fail_if_success (with_reducible show wpAny _ _ (binaryOp Operator.Add (Value.ref _) (Value.ref _)) _ _ _)); (fail_if_success (with_reducible show wpAny _ _ (binaryOp Operator.Pow _ _) _ _ _)); (fail_if_success (with_reducible show wpAny _ _ (pyIter _) _ _ _)); walk_at "mine step"))
set_option maxRecDepth 100000
set_option maxHeartbeats 8000000
structure Pr where (a : Addr) (m t : Nat) (t1 t2 : Tok)
def prObj (x : Pr) : Obj := { cls := .type "tuple", data := .seq #[.int x.m x.t1, .int x.t x.t2] 0 }
def prLed (ps : List Pr) : Led := ps.map fun x => (x.a, prObj x)
def prRefs (ps : List Pr) : List Value := ps.map fun x => Value.ref x.a
def prV (ps : List Pr) : List (Nat × Nat) := ps.map fun x => (x.m, x.t)
def layStep (asked : Nat) (rec : List Nat → List (Nat × Nat)) (f : Nat) (r : List Nat) (x : Nat × Nat × Nat) : List (Nat × Nat) :=
  if x.1 ∈ f :: r then (rec (r.filter fun y => y != x.1)).map fun q => (x.2.1 + q.1, if x.2.2 = asked then q.2 + 1 else q.2) else []
def layN (rows : List (List (Nat × Nat × Nat))) (asked : Nat) : Nat → List Nat → List (Nat × Nat)
  | _, [] => [(0, 0)]
  | 0, _ :: _ => []
  | n + 1, f :: r => (rows.getD f []).flatMap (layStep asked (layN rows asked n) f r)
theorem off1_mem {D : Addr} : ∀ {l : Led}, LCg.Off1 D l → ∀ p ∈ l, p.1 ≠ D
  | [], _, p, hp => nomatch hp
  | q :: r, h, p, hp => by
    rcases List.mem_cons.mp hp with rfl | hp
    · exact h.1
    · exact off1_mem h.2 p hp
theorem flat_len {α β : Type} (g : α → List β) (b : Nat) : ∀ (l : List α), (∀ x, (g x).length ≤ b) → (l.flatMap g).length ≤ l.length * b
  | [], _ => by simp
  | x :: l, h => by
    have := flat_len g b l h
    rw [List.flatMap_cons, List.length_append, List.length_cons, Nat.succ_mul]
    have := h x
    omega
theorem layN_len (rows : List (List (Nat × Nat × Nat))) (asked : Nat) (h : ∀ q ∈ rows, q.length ≤ 2) : ∀ (n : Nat) (fr : List Nat), (layN rows asked n fr).length ≤ 2 ^ n
  | 0, [] => by simp [layN]
  | n + 1, [] => by simp only [layN, List.length_singleton]; exact Nat.pow_pos (by decide)
  | 0, _ :: _ => by simp [layN]
  | n + 1, f :: r => by
    have hs : ∀ x, (layStep asked (layN rows asked n) f r x).length ≤ 2 ^ n := by
      intro x
      unfold layStep
      split
      · rw [List.length_map]; exact layN_len rows asked h n _
      · simp
    have h1 := flat_len _ _ (rows.getD f []) hs
    have h2 : (rows.getD f []).length ≤ 2 := by
      rw [List.getD_eq_getElem?_getD]
      cases hr : rows[f]? with
      | none => simp
      | some r => exact h r (List.mem_of_getElem? hr)
    rw [layN, Nat.pow_succ, Nat.mul_comm (2 ^ n) 2]
    exact Nat.le_trans h1 (Nat.mul_le_mul_right _ h2)
theorem layRow_len (rows : List (List (Nat × Nat × Nat))) (asked n f : Nat) (r : List Nat) (h : ∀ q ∈ rows, q.length ≤ 2) (l : List (Nat × Nat × Nat)) (hl : l.length ≤ 2) (hn : n ≤ 12) : (l.flatMap (layStep asked (layN rows asked n) f r)).length ≤ 8192 := by
  have hs : ∀ x, (layStep asked (layN rows asked n) f r x).length ≤ 2 ^ n := by
    intro x
    unfold layStep
    split
    · rw [List.length_map]; exact layN_len rows asked h n _
    · simp
  have h1 := flat_len _ _ l hs
  have e3 : 2 ^ n ≤ 2 ^ 12 := Nat.pow_le_pow_right (by decide) hn
  have := Nat.mul_le_mul hl e3
  omega
theorem layN_nil (rows : List (List (Nat × Nat × Nat))) (asked n : Nat) : layN rows asked n [] = [(0, 0)] := by cases n <;> rfl
theorem lay_nil (w : World) (S : Addr) (e : Nat) (rs : List RowR) (asked : Nat) (ta : Tok) (n : Nat) (fl : Addr) (e1 : Nat) :
    CallsToU Challenge.rw_pu0001_02.row.prog w (hd02.heap_39 w.params) hd02.view_39 (looseW hd02.view_39 []) none (n + 1) (3 * n + 3) 61 [.ref fl, .ref S, .int asked ta] [] ((fl, listOf ([] : List Value).toArray e1) :: stLed S e rs)
      (fun v news' => ∃ R e2 ps, v = .ref R ∧ news' = (R, listOf (prRefs ps).toArray e2) :: prLed ps ∧ prV ps = layN (rs.map rowV) asked n []) := by
  k_fill
  refine callsCU_of_body (binds := [(Str.ofString "free", .ref fl), (Str.ofString "stones", .ref S), (Str.ofString "asked", .int asked ta)]) (by k_is) (by k_is) rfl rfl (by decide +kernel) rfl rfl rfl ?_
  intro mean mg mb dp un gd outer A₀ base g L s cells B F X N Y hcl T Ro hr hun
  k_cells Y
  simp only [List.cons_append, List.nil_append] at N
  have hbl : g.IsList fl ([] : List Value).toArray := ⟨_, Ro _ (.head _), rfl, _, rfl⟩
  walk_at "mine go"
  walk_at "mine if"
  refine eq_intsK (stays_list (Fr.keep (by assumption)) hbl) .nil (News.isList (items := ([] : List Value).toArray) (by assumption) (.head _)) .nil (show un + 64 < 9900 by omega) ?_
  walk_at "mine go"
  rename_i E0 hx1 l1 D hx2 l2 R hx3 F9 N9 l3
  exact retPost F9 (nwSub N9 (by intro p hp; simp only [prLed, List.map_cons, List.map_nil, List.mem_cons, List.not_mem_nil, or_false] at hp ⊢; rcases hp with rfl | rfl; exact .inl rfl; exact .inr (.inl rfl))) ⟨R, 0, [⟨D, 0, 0, s.toks, s.toks + 1⟩], rfl, rfl, (layN_nil _ _ _).symm⟩
theorem law_layings (w : World) (S : Addr) (e : Nat) (rs : List RowR) (asked : Nat) (ta : Tok) (hl : rs.length = 12) (hbl : ∀ r ∈ rs, r.ts.length ≤ 2) :
    ∀ (n : Nat) (fr : List Nat) (fl : Addr) (fvs : List Value) (e1 : Nat), fr.length ≤ n → IntsAre fvs (zs fr) → n ≤ 12 → (∀ f ∈ fr, f < 12) →
    CallsToU Challenge.rw_pu0001_02.row.prog w (hd02.heap_39 w.params) hd02.view_39 (looseW hd02.view_39 []) none (n + 1) (3 * n + 3) 61 [.ref fl, .ref S, .int asked ta] [] ((fl, listOf fvs.toArray e1) :: stLed S e rs)
      (fun v news' => ∃ R e2 ps, v = .ref R ∧ news' = (R, listOf (prRefs ps).toArray e2) :: prLed ps ∧ prV ps = layN (rs.map rowV) asked n fr) := by
  intro n
  induction n with
  | zero =>
    intro fr fl fvs e1 hn hb _ _
    have hbs : fr = [] := List.length_eq_zero_iff.mp (Nat.le_zero.mp hn)
    subst hbs
    obtain rfl := hb.nil_inv
    exact lay_nil w S e rs asked ta 0 fl e1
  | succ n ih =>
    intro fr fl fvs e1 hn hb hn12 hf12
    match fr, hn, hb, hf12 with
    | [], hn, hb, hf12 =>
      obtain rfl := hb.nil_inv
      exact lay_nil w S e rs asked ta (n + 1) fl e1
    | f :: r, hn, hb, hf12 =>
      obtain ⟨tf, fvs, rfl, hb'⟩ := IntsAre.cons_inv hb
      k_fill
      refine callsCU_of_body (binds := [(Str.ofString "free", .ref fl), (Str.ofString "stones", .ref S), (Str.ofString "asked", .int asked ta)]) (by k_is) (by k_is) rfl rfl (by decide +kernel) rfl rfl rfl ?_
      intro mean mg mb dp un gd outer A₀ base g L s cells B F X N Y hcl T Ro hr hun
      k_cells Y
      simp only [List.cons_append, List.nil_append] at N
      rename_i oc hoc
      have hoc' : oc.data = .cell none := hoc
      have F0 : Fr g L s.heap (fun y => if y = Str.ofString "asked" then some (.int asked ta) else if y = Str.ofString "stones" then some (.ref S) else if y = Str.ofString "free" then some (.ref fl) else none) := F
      clear F hoc
      have hfl : g.IsList fl (Value.int (Int.ofNat f) tf :: fvs).toArray := ⟨_, Ro _ (.head _), rfl, _, rfl⟩
      have Ro2 : ∀ q ∈ stLed S e rs, g.get? q.1 = some q.2 := fun q hq => Ro q (.tail _ hq)
      have hS : g.IsList S (rs.map fun r => Value.ref r.h).toArray := ⟨_, Ro2 _ (.head _), rfl, _, rfl⟩
      walk_at "mine go"
      walk_at "mine if"
      refine eq_intsK (stays_list (Fr.keep (by assumption)) hfl) hb (News.isList (items := ([] : List Value).toArray) (by assumption) (.head _)) .nil (show un + 64 < 9900 by omega) ?_
      walk_at "mine go"
      · rename decide _ = true => habs
        simp at habs
      walk_at "mine go"
      refine wpAny_For ?_
      walk_at "mine go"
      refine item_list (stays_list (Fr.keep (by assumption)) hfl) (by decide) (by decide) (x := Value.int (f : Nat) tf) (by rfl) ?_
      walk_at "mine go"
      have hfr : f < rs.length := by have := hf12 f (.head _); omega
      obtain ⟨rr, hri⟩ : ∃ rr, rs[f]? = some rr := ⟨rs[f], by simp [hfr]⟩
      have hrm := List.mem_of_getElem? hri
      obtain ⟨hrl, hrt⟩ := row_at Ro2 hrm
      have hrr : (rs.map rowV).getD f [] = rowV rr := by rw [List.getD_eq_getElem?_getD, List.getElem?_map, hri]; rfl
      refine item_list (stays_list (Fr.keep (by assumption)) hS) (by omega) (by omega) (x := Value.ref rr.h) (by rw [List.getElem?_toArray, Int.toNat_natCast, List.getElem?_map, hri]; rfl) ?_
      walk_at "mine go"
      rename Fr _ _ _ _ => F3
      rename News _ _ _ _ => N3
      rename_i E0 hx1 l1 habs Fd hx2 l2 hx3
      obtain ⟨l2a, l2b⟩ := l2
      have N4 : News g L hx3 [(Fd, listOf #[] 0), (L + 1, oc)] := nwSub N3 (by intro p hp; simp only [List.mem_cons, List.not_mem_nil, or_false] at hp ⊢; rcases hp with rfl | rfl <;> simp)
      clear N3
      refine for_listT (items := (rr.ts.map fun x => Value.ref x.a).toArray) (fun j g₂ m' news' => ∃ Fd ps e2 oc' cv pv plv rv mv tv, g₂ = g ∧ j ≤ rr.ts.length ∧ news' = (Fd, listOf (prRefs ps).toArray e2) :: (L + 1, oc') :: prLed ps ∧ oc'.data = .cell cv ∧ L + 1 < Fd ∧ (∀ x ∈ ps, Fd < x.a) ∧ prV ps = ((rowV rr).take j).flatMap (layStep asked (layN (rs.map rowV) asked n) f r) ∧
        m' = (fun y => if y = Str.ofString "found" then some (.ref Fd) else if y = Str.ofString "power" then pv else if y = Str.ofString "place" then plv else if y = Str.ofString "rest" then rv else if y = Str.ofString "more" then mv else if y = Str.ofString "times" then tv else if y = Str.ofString "asked" then some (.int asked ta) else if y = Str.ofString "stones" then some (.ref S) else if y = Str.ofString "free" then some (.ref fl) else none)) rfl F3 N4 ?_ ?_ ?_ ?_ (by intro i v hv; rw [List.getElem?_toArray, List.getElem?_map] at hv; obtain ⟨c, _, h2⟩ := Option.map_eq_some_iff.mp hv; exact ⟨_, h2.symm⟩)
      · exact ⟨Fd, [], 0, oc, _, none, none, none, none, none, rfl, Nat.zero_le _, rfl, hoc', l2b, by simp, rfl, map_ext [Str.ofString "found", Str.ofString "power", Str.ofString "place", Str.ofString "rest", Str.ofString "more", Str.ofString "times"] (by walk_at "mine rfls") (by walk_at "mine rest")⟩
      · rintro _ g₂ m' news' h ⟨Fd, ps, e2, oc', cv, pv, plv, rv, mv, tv, rfl, _, rfl, _, _, _, _, rfl⟩ F N
        exact stays_list F.keep hrl
      · rintro j g₂ m' news' h tk7 I io v hv ⟨Fd, ps, e2, oc', cv, pv, plv, rv, mv, tv, rfl, hj, rfl, hoc2, lF, hps, hpv, rfl⟩ F' N' Ap
        clear F3 N4
        obtain ⟨x, hxj, rfl⟩ : ∃ x, rr.ts[j]? = some x ∧ v = .ref x.a := by
          rw [List.getElem?_toArray, List.getElem?_map] at hv
          obtain ⟨c, h1, h2⟩ := Option.map_eq_some_iff.mp hv
          exact ⟨c, h1, h2.symm⟩
        have hxm := List.mem_of_getElem? hxj
        have hxt := hrt x hxm
        generalize hpl : prLed ps = pl at N' Ap
        walk_at "mine go"
        rename Fr _ _ _ _ => F5
        rename News _ _ _ _ => N5
        have hFI : Fd ≠ I := Ap _ (.head _)
        have hLI : L + 1 ≠ I := Ap _ (.tail _ (.head _))
        have hplF : ∀ p ∈ pl, Fd < p.1 := by
          intro p hp
          rw [← hpl] at hp
          obtain ⟨q, hq, rfl⟩ := List.mem_map.mp hp
          exact hps q hq
        have hplI : ∀ p ∈ pl, p.1 ≠ I := fun p hp => Ap p (.tail _ (.tail _ hp))
        refine' storeX_C F5 N5 ?c (.tail (Ne.symm hLI) (.tail (Nat.ne_of_gt lF) (.head ?_))) hoc2 ?_ ?a ?b
        case a => rfl
        case b => rfl
        case c => rfl
        · intro p hp
          exact Nat.ne_of_gt (Nat.lt_trans lF (hplF p hp))
        intro h6 oc3 F6 N6 hoc3
        try dsimp only at N6
        clear F5 N5
        walk_at "mine go"
        refine if_meets g₂ L (fun m' news' => ∃ ps' e3 rv mv tv, news' = (I, io) :: (Fd, listOf (prRefs ps').toArray e3) :: (L + 1, oc3) :: prLed ps' ∧ (∀ x ∈ ps', Fd < x.a ∧ x.a ≠ I) ∧ prV ps' = prV ps ++ layStep asked (layN (rs.map rowV) asked n) f r (x.o, x.p, x.c) ∧
          m' = (fun y => if y = Str.ofString "found" then some (.ref Fd) else if y = Str.ofString "power" then some (.int x.p x.t2) else if y = Str.ofString "place" then some (.int x.c x.t3) else if y = Str.ofString "rest" then rv else if y = Str.ofString "more" then mv else if y = Str.ofString "times" then tv else if y = Str.ofString "asked" then some (.int asked ta) else if y = Str.ofString "stones" then some (.ref S) else if y = Str.ofString "free" then some (.ref fl) else none)) ?_ ?_
        · walk_at "mine if"
          refine in_list_ints (stays_list (Fr.keep (by assumption)) hfl) hb ?_
          walk_at "mine go"
          · rename Fr _ _ _ _ => F7
            rename News _ _ _ _ => N7
            refine LCt.Assign_ListComp_T (F₀ := F7) (by rfl) (by with_unfolding_all rfl) (by with_unfolding_all rfl) (by decide) (by rfl) (by decide) (by rfl) (by rfl) (by rfl) ?_
            walk_at "mine go"
            refine slice_L (s := ⟨_, _, _, _, _⟩) F7 N7 (stays_list F7.keep hfl) (by constructor) (by constructor) (by constructor) (by decide) ?_ (by have := hb'.length; simp at this hn ⊢; omega)
            intro Sl h8 F8 N8 l8
            rw [show slicePick (Value.int (Int.ofNat f) tf :: fvs).toArray (some 1) none none = fvs.toArray from slicePick_from' _ 1] at N8
            walk_at "mine go"
            have hfle : fvs.length = r.length := by have := hb'.length; simpa using this
            refine LCt.CompSrcT.ledger (its := fvs.toArray) (by rfl) F8 N8 (.head _) (by rw [sizeLine_eq]; simp at hn ⊢; omega) ?_
            intro gh
            refine restT_ind (fun i ys => IntsAre ys (zs ((r.take i).filter fun y => y != x.o))) ?_ ?_ _ 0 [] (Nat.zero_add _) .nil
            · intro i ys v I2 oI2 C oC D2 m₂ h tk E' hi hJ hP hC hx F N off ne
              clear F7 N7 F8 N8
              obtain ⟨cv2, tc2, rfl, hcv⟩ := hb'.at i v (by simpa using hP)
              obtain ⟨c, hci, rfl⟩ : ∃ c, r[i]? = some c ∧ cv2 = (c : Int) := by
                rw [List.getElem?_map] at hcv
                obtain ⟨c, h1, h2⟩ := Option.map_eq_some_iff.mp hcv
                exact ⟨c, h1, h2.symm⟩
              rw [take_succ_at hci, List.filter_append]
              walk_at "mine go"
              · rename ¬ _ = _ => hce
                refine LCg.CompEnd.intro F N _ (fun p hp => hp) off (.inr ⟨_, .head _, rfl, _, rfl⟩) ⟨rfl, ?_⟩
                rw [show [c].filter (fun y => y != x.o) = [c] by simp [show c ≠ x.o by omega], zs, List.map_append]
                exact hJ.append (.cons _ _ .nil)
              · rename _ = _ => hce
                refine LCg.CompEnd.intro F N _ (fun p hp => hp) off (.inr ⟨_, .head _, rfl, _, rfl⟩) ⟨rfl, ?_⟩
                rw [show [c].filter (fun y => y != x.o) = [] by simp [show c = x.o by omega], List.append_nil]
                exact hJ
            · intro ys hJ
              unfold LCg.FinA
              intro D2 h9 tk9 F9 N9 o9
              rw [show fvs.toArray.size = r.length by simpa using hfle, List.take_length] at hJ
              have hoff := off1_mem o9
              clear F7 N7 F8 N8
              walk_at "mine go"
              refine wpAny_For ?_
              walk_at "mine go"
              have hfl2 : (r.filter fun y => y != x.o).length ≤ r.length := List.length_filter_le _ _
              have hmem9 : ∀ q ∈ [(I, io), (Fd, listOf (prRefs ps).toArray e2), (L + 1, oc3)] ++ pl, q ∈ (D2, LCg.lst ys) :: (Sl, listOf fvs.toArray 0) :: (I, io) :: (Fd, listOf (prRefs ps).toArray e2) :: (L + 1, oc3) :: pl := by
                intro q hq
                simp only [List.cons_append, List.nil_append, List.mem_cons] at hq ⊢
                rcases hq with rfl | rfl | rfl | hq <;> simp [*]
              refine callsU_use (rest := (D2, LCg.lst ys) :: (Sl, listOf fvs.toArray 0) :: (I, io) :: (Fd, listOf (prRefs ps).toArray e2) :: (L + 1, oc3) :: pl) (ih (r.filter fun y => y != x.o) D2 ys ys.length (by simp at hn; omega) hJ (by omega) (fun q hq => hf12 q (.tail _ (List.mem_filter.mp hq).1))) B F9 X N9 T (by simp) ?_ rfl rfl (by omega) (by omega) ?_
              · intro q hq
                refine ⟨?_, by simp⟩
                rcases List.mem_cons.mp hq with rfl | hq
                · exact (N9 _ (.head _)).1
                · exact F9.keep _ _ (Ro2 _ hq)
              rintro v10 news10 h10 tk10 ⟨R, e4, qs, rfl, rfl, hqv⟩ F10 N10 Ap10
              have mF : (Fd, listOf (prRefs ps).toArray e2) ∈ (D2, LCg.lst ys) :: (Sl, listOf fvs.toArray 0) :: (I, io) :: (Fd, listOf (prRefs ps).toArray e2) :: (L + 1, oc3) :: pl := by simp
              have mI : (I, io) ∈ (D2, LCg.lst ys) :: (Sl, listOf fvs.toArray 0) :: (I, io) :: (Fd, listOf (prRefs ps).toArray e2) :: (L + 1, oc3) :: pl := by simp
              have rF : R ≠ Fd := Ap10 _ (.head _) _ mF
              have rI : R ≠ I := Ap10 _ (.head _) _ mI
              have qF : ∀ p ∈ prLed qs, p.1 ≠ Fd := fun p hp => Ap10 p (.tail _ hp) _ mF
              have N11 : News g₂ L h10 ((Fd, listOf (prRefs ps).toArray e2) :: (I, io) :: (L + 1, oc3) :: (R, listOf (prRefs qs).toArray e4) :: (prLed qs ++ (prLed [] ++ pl))) := nwSub N10 (by
                intro p hp
                simp only [prLed, List.map_nil, List.nil_append, List.mem_cons, List.mem_append, List.cons_append] at hp ⊢
                rcases hp with rfl | rfl | rfl | rfl | hp | hp <;> simp [*])
              clear N9 F9 N10
              have hpsl : ps.length ≤ 10000 := by
                have e1 := congrArg List.length hpv
                have e2 := layRow_len (rs.map rowV) asked n f r (by
                  intro q hq
                  obtain ⟨r', hr', rfl⟩ := List.mem_map.mp hq
                  rw [rowV, List.length_map]
                  exact hbl r' hr') ((rowV rr).take j) (by rw [List.length_take, rowV, List.length_map]; have := hbl rr hrm; omega) (by omega)
                rw [prV, List.length_map] at e1
                omega
              have hqsl : qs.length ≤ 5000 := by
                have e1 := congrArg List.length hqv
                have e2 := layN_len (rs.map rowV) asked (by
                  intro q hq
                  obtain ⟨r', hr', rfl⟩ := List.mem_map.mp hq
                  rw [rowV, List.length_map]
                  exact hbl r' hr') n (r.filter fun y => y != x.o)
                have e3 : 2 ^ n ≤ 2 ^ 12 := Nat.pow_le_pow_right (by decide) (by omega)
                rw [prV, List.length_map] at e1
                omega
              walk_at "mine go"
              refine for_listT (items := (prRefs qs).toArray) (fun i g₃ m' news' => ∃ zz e5 mv tv, g₃ = g₂ ∧ i ≤ qs.length ∧ news' = (Fd, listOf (prRefs (ps ++ zz)).toArray e5) :: (I, io) :: (L + 1, oc3) :: (R, listOf (prRefs qs).toArray e4) :: (prLed qs ++ (prLed zz ++ pl)) ∧ (∀ x ∈ zz, Fd < x.a ∧ x.a ≠ I) ∧ prV zz = ((prV qs).take i).map (fun q => (x.p + q.1, if x.c = asked then q.2 + 1 else q.2)) ∧
                m' = (fun y => if y = Str.ofString "found" then some (.ref Fd) else if y = Str.ofString "power" then some (.int x.p x.t2) else if y = Str.ofString "place" then some (.int x.c x.t3) else if y = Str.ofString "rest" then some (.ref D2) else if y = Str.ofString "more" then mv else if y = Str.ofString "times" then tv else if y = Str.ofString "asked" then some (.int asked ta) else if y = Str.ofString "stones" then some (.ref S) else if y = Str.ofString "free" then some (.ref fl) else none)) rfl F10 N11 ?_ ?_ ?_ ?_ (by intro i v hv; rw [List.getElem?_toArray, prRefs, List.getElem?_map] at hv; obtain ⟨c, _, h2⟩ := Option.map_eq_some_iff.mp hv; exact ⟨_, h2.symm⟩)
              · exact ⟨[], e2, mv, tv, rfl, Nat.zero_le _, by rw [List.append_nil], by simp, rfl, map_ext [Str.ofString "found", Str.ofString "power", Str.ofString "place", Str.ofString "rest", Str.ofString "more", Str.ofString "times"] (by walk_at "mine rfls") (by walk_at "mine rest")⟩
              · rintro _ g₃ m' news' h ⟨zz, e5, mv, tv, rfl, _, rfl, _, _, rfl⟩ F N
                exact News.isList N (.tail _ (.tail _ (.tail _ (.head _))))
              · rintro i g₃ m' news' h tk11 I3 io3 v hv ⟨zz, e5, mv, tv, rfl, hi, rfl, hzz, hzv, rfl⟩ F' N' Ap3
                clear F10 N11
                obtain ⟨y, hyi, rfl⟩ : ∃ y, qs[i]? = some y ∧ v = .ref y.a := by
                  rw [List.getElem?_toArray, prRefs, List.getElem?_map] at hv
                  obtain ⟨c, h1, h2⟩ := Option.map_eq_some_iff.mp hv
                  exact ⟨c, h1, h2.symm⟩
                have hym := List.mem_of_getElem? hyi
                have hyl : (y.a, prObj y) ∈ prLed qs := List.mem_map_of_mem (f := fun x => (x.a, prObj x)) hym
                have hyt : h.IsTuple y.a #[.int y.m y.t1, .int y.t y.t2] := ⟨_, (N' (y.a, prObj y) (by simp [hyl])).1, rfl, _, rfl⟩
                have hil : i < qs.length := by
                  rcases Nat.lt_or_ge i qs.length with h | h
                  · exact h
                  · rw [List.getElem?_eq_none h] at hyi; cases hyi
                have hzl : zz.length ≤ 5000 := by
                  have e1 := congrArg List.length hzv
                  rw [prV, List.length_map, List.length_map, List.length_take, prV, List.length_map] at e1
                  omega
                walk_at "mine go"
                refine val_meets (fun v => ∃ t, v = .int (if x.c = asked then y.t + 1 else y.t : Nat) t) (by assumption) (by assumption) ?_ ?_
                · walk_at "mine if"
                  · have ev : (((if x.c = asked then y.t + 1 else y.t : Nat)) : Int) = (y.t : Int) + 1 := by rw [if_pos (by omega)]; rfl
                    exact valEnd (by assumption) (by assumption) ⟨_, by rw [ev]⟩
                  · have ev : (((if x.c = asked then y.t + 1 else y.t : Nat)) : Int) = (y.t : Int) := by rw [if_neg (by omega)]
                    exact valEnd (by assumption) (by assumption) ⟨_, by rw [ev]⟩
                rintro v h13 tk13 ⟨t13, rfl⟩ F13 N13
                generalize htt : (if x.c = asked then y.t + 1 else y.t : Nat) = tt at F13 N13
                walk_at "mine go"
                rename Fr _ _ _ _ => F14
                rename News _ _ _ _ => N14
                rename_i D hx14 l14
                obtain ⟨l14a, l14b, l14c, l14d, l14e, l14f⟩ := l14
                obtain ⟨tq, N14⟩ : ∃ tq, News g₃ L _ ((D, prObj ⟨D, x.p + y.m, tt, tq, t13⟩) :: (I3, io3) :: (Fd, listOf (prRefs (ps ++ zz)).toArray e5) :: (I, io) :: (L + 1, oc3) :: (R, listOf (prRefs qs).toArray e4) :: (prLed qs ++ (prLed zz ++ pl))) := ⟨_, N14⟩
                refine append_K F14 N14 (Upd.tail (Nat.ne_of_gt l14b) (Upd.tail (Ne.symm (Ap3 _ (.head _))) (Upd.head ?_))) ?_ (by rw [sizeLine_eq, prRefs]; simp; omega)
                · intro p hp
                  simp only [List.mem_cons, List.mem_append] at hp
                  rcases hp with rfl | rfl | rfl | hp | hp | hp
                  · exact Ne.symm hFI
                  · exact Nat.ne_of_lt lF
                  · exact rF
                  · exact qF p hp
                  · obtain ⟨q, hq, rfl⟩ := List.mem_map.mp hp
                    exact Nat.ne_of_gt (hzz q hq).1
                  · exact Nat.ne_of_gt (hplF p hp)
                intro h15 F15 N15
                rw [List.push_toArray] at N15
                walk_at "mine go"
                have hpr : prRefs (ps ++ (zz ++ [⟨D, x.p + y.m, tt, tq, t13⟩])) = prRefs (ps ++ zz) ++ [Value.ref D] := by simp [prRefs]
                refine forPost F15 (nwSub N15 ?_) ?_ ⟨zz ++ [⟨D, x.p + y.m, tt, tq, t13⟩], e5 + 1, _, _, rfl, hil, rfl, ?_, ?_, map_ext [Str.ofString "found", Str.ofString "power", Str.ofString "place", Str.ofString "rest", Str.ofString "more", Str.ofString "times"] (by walk_at "mine rfls") (by walk_at "mine rest")⟩
                · intro p hp
                  rw [hpr, show prLed (zz ++ [⟨D, x.p + y.m, tt, tq, t13⟩]) = prLed zz ++ [(D, prObj ⟨D, x.p + y.m, tt, tq, t13⟩)] by simp [prLed]] at hp
                  simp only [List.mem_cons, List.mem_append, List.not_mem_nil, or_false] at hp ⊢
                  rcases hp with rfl | rfl | rfl | rfl | rfl | hp | (hp | rfl) | hp
                  · simp
                  · simp
                  · simp
                  · simp
                  · simp
                  · simp [hp]
                  · simp [hp]
                  · exact .inl rfl
                  · simp [hp]
                · intro p hp
                  rw [show prLed (zz ++ [⟨D, x.p + y.m, tt, tq, t13⟩]) = prLed zz ++ [(D, prObj ⟨D, x.p + y.m, tt, tq, t13⟩)] by simp [prLed]] at hp
                  simp only [List.mem_cons, List.mem_append, List.not_mem_nil, or_false] at hp
                  rcases hp with rfl | rfl | rfl | rfl | hp | (hp | rfl) | hp
                  · exact (show Fd ≠ I3 from Ap3 _ (.head _))
                  · exact (show I ≠ I3 from Ap3 _ (.tail _ (.head _)))
                  · exact (show L + 1 ≠ I3 from Ap3 _ (.tail _ (.tail _ (.head _))))
                  · exact (show R ≠ I3 from Ap3 _ (.tail _ (.tail _ (.tail _ (.head _)))))
                  · exact Ap3 p (by simp [hp])
                  · exact Ap3 p (by simp [hp])
                  · exact Nat.ne_of_gt l14a
                  · exact Ap3 p (by simp [hp])
                · intro q hq
                  rcases List.mem_append.mp hq with hq | hq
                  · exact hzz q hq
                  · rw [List.mem_singleton] at hq
                    subst hq
                    exact ⟨l14b, Nat.ne_of_gt l14c⟩
                · have hqi : (prV qs)[i]? = some (y.m, y.t) := by rw [prV, List.getElem?_map, hyi]; rfl
                  rw [take_succ_at hqi, List.map_append, ← hzv, prV, List.map_append, List.map_singleton, List.map_singleton]
                  simp only [prV, htt]
              · rintro g₃ m' news' h tk11 ⟨zz, e5, mv, tv, rfl, _, rfl, hzz, hzv, rfl⟩ F' N'
                clear F10 N11
                walk_at "mine go"
                refine ifEnd F' (nwSub N' ?_) ⟨ps ++ zz, e5, _, _, _, rfl, ?_, ?_, map_ext [Str.ofString "found", Str.ofString "power", Str.ofString "place", Str.ofString "rest", Str.ofString "more", Str.ofString "times"] (by walk_at "mine rfls") (by walk_at "mine rest")⟩
                · intro p hp
                  rw [show prLed (ps ++ zz) = pl ++ prLed zz by rw [← hpl]; simp [prLed]] at hp
                  simp only [List.mem_cons, List.mem_append] at hp ⊢
                  rcases hp with rfl | rfl | rfl | hp | hp <;> simp [*]
                · intro q hq
                  rcases List.mem_append.mp hq with hq | hq
                  · exact ⟨hps q hq, hplI (q.a, prObj q) (by rw [← hpl]; exact List.mem_map_of_mem (f := fun x => (x.a, prObj x)) hq)⟩
                  · exact hzz q hq
                · have hm : x.o ∈ f :: r := by
                    rename _ = true => hany
                    obtain ⟨z, hz, hzx⟩ := List.any_eq_true.mp hany
                    obtain ⟨z', hz', rfl⟩ := List.mem_map.mp hz
                    have h9 : ((z' : Nat) : Int) = ((x.o : Nat) : Int) := by simpa using hzx
                    have : z' = x.o := by omega
                    exact this ▸ hz'
                  rw [show (prRefs qs).toArray.size = (prV qs).length by simp [prRefs, prV], List.take_length, hqv] at hzv
                  rw [layStep, if_pos hm, prV, List.map_append]
                  exact congrArg (prV ps ++ ·) hzv
          · refine ifEnd (by assumption) (by assumption) ⟨ps, e2, rv, mv, tv, by rw [hpl], ?_, ?_, map_ext [Str.ofString "found", Str.ofString "power", Str.ofString "place", Str.ofString "rest", Str.ofString "more", Str.ofString "times"] (by walk_at "mine rfls") (by walk_at "mine rest")⟩
            · intro q hq
              exact ⟨hps q hq, hplI (q.a, prObj q) (by rw [← hpl]; exact List.mem_map_of_mem (f := fun x => (x.a, prObj x)) hq)⟩
            · rename _ = false => hany
              rw [layStep, if_neg, List.append_nil]
              intro hm
              rw [List.any_eq_false] at hany
              exact hany (x.o : Int) (List.mem_map_of_mem (f := Int.ofNat) hm) (by simp)
        · rintro m' news' h16 tk16 F16 N16 ⟨ps', e3, rv', mv', tv', rfl, hps', hpv', rfl⟩
          have hjl : j < rr.ts.length := by
            rcases Nat.lt_or_ge j rr.ts.length with h | h
            · exact h
            · rw [List.getElem?_eq_none h] at hxj; cases hxj
          walk_at "mine go"
          refine forPost F16 N16 ?_ ⟨Fd, ps', e3, oc3, _, _, _, rv', mv', tv', rfl, hjl, rfl, hoc3, lF, fun q hq => (hps' q hq).1, ?_, rfl⟩
          · intro p hp
            simp only [List.mem_cons] at hp
            rcases hp with rfl | rfl | hp
            · exact hFI
            · exact hLI
            · obtain ⟨q, hq, rfl⟩ := List.mem_map.mp hp
              exact (hps' q hq).2
          · have hrj : (rowV rr)[j]? = some (x.o, x.p, x.c) := by rw [rowV, List.getElem?_map, hxj]; rfl
            rw [take_succ_at hrj, List.flatMap_append, hpv', hpv]
            simp
      · rintro g₂ m' news' h tk7 ⟨Fd, ps, e2, oc', cv, pv, plv, rv, mv, tv, rfl, _, rfl, hoc2, lF, hps, hpv, rfl⟩ F' N'
        clear F3 N4
        walk_at "mine go"
        refine retPost F' (nwSub N' ?_) ⟨Fd, e2, ps, rfl, rfl, ?_⟩
        · intro p hp
          simp only [List.mem_cons] at hp ⊢
          rcases hp with rfl | hp <;> simp [*]
        · rw [show (List.map (fun x => Value.ref x.a) rr.ts).toArray.size = (rowV rr).length by simp [rowV], List.take_length] at hpv
          rw [layN, hrr, hpv]
end
section
open PySem PySem.W PyProof.Rows PySem.Calls PySem.Spec PyProof.V
set_option maxRecDepth 100000
def ins (k : Nat) : List Nat → List Nat
  | [] => [k]
  | x :: r => if k ≤ x then k :: x :: r else x :: ins k r
def mp (u : Nat → Int) : List Nat → Int
  | [] => 1
  | k :: r => u k * mp u r
theorem mp_ins (u : Nat → Int) (k : Nat) : ∀ m, mp u (ins k m) = u k * mp u m
  | [] => rfl
  | x :: r => by
    unfold ins
    split
    · rfl
    · show u x * mp u (ins k r) = u k * (u x * mp u r)
      rw [mp_ins u k r, Int.mul_left_comm]
def ev (u : Nat → Int) : List (Int × List Nat) → Int
  | [] => 0
  | q :: r => q.1 * mp u q.2 + ev u r
theorem ev_append (u : Nat → Int) : ∀ p q, ev u (p ++ q) = ev u p + ev u q
  | [], q => by simp [ev]
  | a :: p, q => by simp only [List.cons_append, ev, ev_append u p q, Int.add_assoc]
theorem ev_map (u : Nat → Int) (s : Int) (k : Nat) : ∀ p, ev u (p.map fun q => (s * q.1, ins k q.2)) = s * u k * ev u p
  | [] => by simp [ev]
  | a :: p => by
    simp only [List.map_cons, ev, ev_map u s k p, mp_ins, Int.mul_add]
    congr 1
    rw [Int.mul_assoc, Int.mul_assoc, Int.mul_left_comm a.1]
theorem ev_scale (u : Nat → Int) (s : Int) : ∀ p, ev u (p.map fun q => (s * q.1, q.2)) = s * ev u p
  | [] => by simp [ev]
  | a :: p => by simp only [List.map_cons, ev, ev_scale u s p, Int.mul_add, Int.mul_assoc]
theorem ev_perm (u : Nat → Int) {p q : List (Int × List Nat)} (h : p.Perm q) : ev u p = ev u q := by
  induction h with
  | nil => rfl
  | cons x _ ih => simp only [ev, ih]
  | swap x y l => simp only [ev]; omega
  | trans _ _ h1 h2 => rw [h1, h2]
theorem mp_congr {u u' : Nat → Int} : ∀ {m : List Nat}, (∀ k ∈ m, u k = u' k) → mp u m = mp u' m
  | [], _ => rfl
  | k :: r, h => by rw [mp, mp, h k (.head _), mp_congr fun x hx => h x (.tail _ hx)]
theorem ev_congr {u u' : Nat → Int} : ∀ {p : List (Int × List Nat)}, (∀ q ∈ p, ∀ k ∈ q.2, u k = u' k) → ev u p = ev u' p
  | [], _ => rfl
  | a :: p, h => by rw [ev, ev, mp_congr (h a (.head _)), ev_congr fun q hq => h q (.tail _ hq)]
/-- all places: the cell, the other one, the place -/
def pairL : Nat → List Nat → List (Nat × Nat)
  | _, [] => []
  | b, o :: r => (o, b) :: pairL (b + 1) r
def placeL (n : Nat) : List (Nat × Nat × Nat) := (List.range n).flatMap fun i => (pairL (baseN i) (othN i)).map fun x => (i, x.1, x.2)
def adjF (key : Nat) : Option (Int × Nat) := ((placeL 12).find? fun e => keyN e.1 e.2.1 == key).map fun e => (sgnN e.1 e.2.1, e.2.2)
def MF (u : Nat → Int) (key : Nat) : Int := match adjF key with
  | none => 0
  | some (s, k) => s * u k
def detTerm (b : Nat) (ws : List Nat) (rec : List Nat → List (Int × List Nat)) (k : Nat) : List (Int × List Nat) := match adjF (12 * b + ws.getD k 0) with
  | none => []
  | some (s, pl) => (rec (ws.take k ++ ws.drop (k + 1))).map fun q => ((-1) ^ k * s * q.1, ins pl q.2)
def detP : List Nat → List Nat → List (Int × List Nat)
  | [], _ => [(1, [])]
  | b :: bs, ws => (List.range ws.length).flatMap (detTerm b ws (detP bs))
def zTerm (f : Nat) (r : List Nat) (rec : List Nat → List (Int × List Nat)) (x : Nat × Nat) : List (Int × List Nat) :=
  if x.1 ∈ f :: r then (rec (r.filter fun y => y != x.1)).map fun q => (1 * q.1, ins x.2 q.2) else []
def zP : Nat → List Nat → List (Int × List Nat)
  | _, [] => [(1, [])]
  | 0, _ :: _ => []
  | n + 1, f :: r => (pairL (baseN f) (othN f)).flatMap (zTerm f r (zP n))
def rotW (first : Nat) : List Nat := (([1, 3, 4, 6, 9, 11, 1, 3, 4, 6, 9, 11] : List Nat).drop first).take 6
def blks : List Nat := [0, 2, 5, 7, 8, 10]
theorem pow_sgn_cast (k : Nat) (s : Int) (pl : Nat) (u : Nat → Int) (p : List (Int × List Nat)) : ev u (p.map fun q => ((-1) ^ k * s * q.1, ins pl q.2)) = (-1) ^ k * (s * u pl) * ev u p := by
  rw [ev_map, Int.mul_assoc ((-1) ^ k) s]
theorem det_fold {c : List (Int × Int)} {u : Nat → Int} (h : ∀ key, lookN c key = MF u key) (b : Nat) (ws : List Nat) (rec : List Nat → Int) (recP : List Nat → List (Int × List Nat)) (hr : ∀ l, rec l = ev u (recP l)) : ∀ (l : List Nat) (t : Int),
    l.foldl (sgnStep c b ws rec) t = t + ev u (l.flatMap (detTerm b ws recP))
  | [], t => by simp [ev]
  | k :: l, t => by
    rw [List.foldl_cons, det_fold h b ws rec recP hr l, List.flatMap_cons, ev_append, ← Int.add_assoc]
    congr 1
    unfold sgnStep detTerm
    have hk := h (12 * b + ws.getD k 0)
    unfold MF at hk
    cases ha : adjF (12 * b + ws.getD k 0) with
    | none =>
      rw [ha] at hk
      simp only at hk
      rw [if_pos hk]
      simp [ev]
    | some x =>
      obtain ⟨s, pl⟩ := x
      rw [ha] at hk
      simp only at hk
      rw [hk]
      simp only
      rw [pow_sgn_cast, ← hr]
      split
      · rename_i h0
        rw [h0]
        simp
      · rfl
theorem det_ev {c : List (Int × Int)} {u : Nat → Int} (h : ∀ key, lookN c key = MF u key) : ∀ (bs ws : List Nat), signedN c bs ws = ev u (detP bs ws)
  | [], ws => by simp [signedN, detP, ev, mp]
  | b :: bs, ws => by
    rw [signedN, detP, det_fold h b ws (signedN c bs) (detP bs) (fun l => det_ev h bs l), Int.zero_add]
def epsN (first : Nat) : Int := if first % 2 = 0 then 1 else -1
theorem det_all : ∀ f : Fin 6, (detP blks (rotW f.val)).isPerm ((zP 12 (List.range 12)).map fun q => (epsN f.val * q.1, q.2)) = true := by decide +kernel
theorem det_z {c : List (Int × Int)} {u : Nat → Int} (h : ∀ key, lookN c key = MF u key) {first : Nat} (hf : first < 6) : signedN c blks (rotW first) = epsN first * ev u (zP 12 (List.range 12)) := by
  rw [det_ev h, ev_perm u (List.isPerm_iff.mp (det_all ⟨first, hf⟩)), ev_scale]
/-- what stands in the table -/
theorem look_put (c : List (Int × Int)) (k v k' : Int) : kdfLook (kdfPut c k v) k' 0 = if k' = k then v else kdfLook c k' 0 := by
  unfold kdfLook kdfPut
  by_cases hc : (c.any fun p => decide (p.1 = k)) = true
  · rw [if_pos hc]
    induction c with
    | nil => simp at hc
    | cons p r ih =>
      rw [List.map_cons, List.find?_cons, List.find?_cons]
      by_cases hp : p.1 = k
      · simp only [hp, decide_true, if_true]
        by_cases hk : k = k'
        · subst hk; simp
        · have hk' : ¬ k' = k := fun e => hk e.symm
          simp only [hk, decide_false, if_neg hk']
          by_cases ha : (r.any fun p => decide (p.1 = k)) = true
          · have := ih ha
            rw [if_neg hk'] at this
            exact this
          · congr 2
            have : r.map (fun p => if decide (p.1 = k) = true then (p.1, v) else p) = r := by
              refine (List.map_congr_left fun q hq => ?_).trans (List.map_id r)
              have hq' : ¬ q.1 = k := fun e => ha (List.any_eq_true.mpr ⟨q, hq, by simp [e]⟩)
              simp [hq']
            rw [this]
      · have ha : (r.any fun p => decide (p.1 = k)) = true := by
          simp only [List.any_cons, hp, decide_false, Bool.false_or] at hc
          exact hc
        have hd : decide (p.1 = k) = false := by simp [hp]
        rw [hd]
        simp only [Bool.false_eq_true, if_false]
        by_cases hk : p.1 = k'
        · have hk' : ¬ k' = k := fun e => hp (hk.trans e)
          simp [hk, hk']
        · simp only [hk, decide_false]
          exact ih ha
  · rw [if_neg hc]
    rw [List.find?_append]
    by_cases hk : k' = k
    · subst hk
      have : c.find? (fun p => decide (p.1 = k')) = none := by
        rw [List.find?_eq_none]
        intro q hq hq'
        exact hc (List.any_eq_true.mpr ⟨q, hq, hq'⟩)
      rw [this]
      simp
    · have hk2 : ¬ k = k' := fun e => hk e.symm
      rw [if_neg hk]
      cases hfd : c.find? (fun p => decide (p.1 = k')) with
      | none => simp [hk2]
      | some x => simp
end
section
open PySem PySem.W PyProof.Rows PySem.Calls PySem.Spec PyProof.V
set_option maxRecDepth 100000
theorem look_wPut (left cell : Nat) (c : List (Int × Int)) (x : Nat × Nat × Nat) (key : Nat) :
    lookN (wPut left cell c x) key = if x.2.2 = left then lookN c key else if key = keyN cell x.1 then sgnN cell x.1 * 16 ^ x.2.1 else lookN c key := by
  unfold wPut lookN
  split
  · rfl
  · rw [look_put]
    by_cases h : key = keyN cell x.1
    · rw [if_pos h, if_pos (by omega)]
    · rw [if_neg h, if_neg (by omega)]
def tabG (dm : Nat → Nat) (left key : Nat) (v : Int) (e : Nat × Nat × Nat) : Int :=
  if (dm e.2.2 < 4 ∧ e.2.2 ≠ left) ∧ keyN e.1 e.2.1 = key then sgnN e.1 e.2.1 * 16 ^ dm e.2.2 else v
theorem look_row (dm : Nat → Nat) (left i key : Nat) : ∀ (os : List Nat) (b : Nat) (c : List (Int × Int)),
    lookN (wRow left i c (hereN dm b os)) key = ((pairL b os).map fun x => (i, x.1, x.2)).foldl (tabG dm left key) (lookN c key)
  | [], b, c => rfl
  | o :: os, b, c => by
    rw [hereN, pairL, List.map_cons, List.foldl_cons]
    unfold wRow
    rw [List.foldl_append]
    have ih := look_row dm left i key os (b + 1)
    unfold wRow at ih
    rw [ih]
    congr 1
    unfold tabG
    by_cases h4 : dm b < 4
    · rw [if_pos h4]
      show lookN (wPut left i c (o, dm b, b)) key = _
      rw [look_wPut]
      by_cases hl : b = left
      · rw [if_pos hl, if_neg (by simp [hl])]
      · rw [if_neg hl]
        by_cases hk : key = keyN i o
        · rw [if_pos hk, if_pos ⟨⟨h4, hl⟩, hk.symm⟩]
        · rw [if_neg hk, if_neg (fun h => hk h.2.symm)]
    · rw [if_neg h4, if_neg (fun h => h4 h.1.1)]
      rfl
theorem stones_at (dm : Nat → Nat) {n i : Nat} (h : i < n) : (stonesN dm n).getD i [] = hereN dm (baseN i) (othN i) := by
  rw [List.getD_eq_getElem?_getD, stonesN, List.getElem?_map, List.getElem?_range h]
  rfl
theorem placeL_succ (n : Nat) : placeL (n + 1) = placeL n ++ (pairL (baseN n) (othN n)).map fun x => (n, x.1, x.2) := by
  simp [placeL, List.range_succ]
theorem look_tab (dm : Nat → Nat) (left key N : Nat) : ∀ n, n ≤ N → lookN (worthsN (stonesN dm N) left n) key = (placeL n).foldl (tabG dm left key) 0
  | 0, _ => rfl
  | n + 1, h => by
    rw [worthsN_succ, stones_at dm (by omega), look_row, placeL_succ, List.foldl_append, look_tab dm left key N n (by omega)]
theorem fold_none (dm : Nat → Nat) (left key : Nat) : ∀ (l : List (Nat × Nat × Nat)) (v : Int), (∀ e ∈ l, keyN e.1 e.2.1 ≠ key) → l.foldl (tabG dm left key) v = v
  | [], _, _ => rfl
  | e :: l, v, h => by
    rw [List.foldl_cons, tabG, if_neg (fun x => h e (.head _) x.2)]
    exact fold_none dm left key l v fun q hq => h q (.tail _ hq)
theorem fold_find (dm : Nat → Nat) (left key : Nat) : ∀ (l : List (Nat × Nat × Nat)) (v : Int), (l.map fun e => keyN e.1 e.2.1).Nodup →
    l.foldl (tabG dm left key) v = match l.find? (fun e => keyN e.1 e.2.1 == key) with
      | none => v
      | some e => if dm e.2.2 < 4 ∧ e.2.2 ≠ left then sgnN e.1 e.2.1 * 16 ^ dm e.2.2 else v
  | [], _, _ => rfl
  | e :: l, v, h => by
    rw [List.map_cons, List.nodup_cons] at h
    rw [List.foldl_cons, List.find?_cons]
    by_cases hk : keyN e.1 e.2.1 = key
    · rw [fold_none dm left key l _ (fun q hq hqk => h.1 (List.mem_map.mpr ⟨q, hq, hqk.trans hk.symm⟩))]
      simp [hk, tabG]
    · rw [tabG, if_neg (fun x => hk x.2), fold_find dm left key l v h.2]
      have : (keyN e.1 e.2.1 == key) = false := by simpa using hk
      rw [this]
theorem keys_nodup : ((placeL 12).map fun e => keyN e.1 e.2.1).Nodup := by decide +kernel
def uL (dm : Nat → Nat) (left k : Nat) : Int := if dm k < 4 ∧ k ≠ left then 16 ^ dm k else 0
theorem tab_MF (dm : Nat → Nat) (left key : Nat) : lookN (worthsN (stonesN dm 12) left 12) key = MF (uL dm left) key := by
  rw [look_tab dm left key 12 12 (Nat.le_refl _), fold_find dm left key _ _ keys_nodup, MF, adjF]
  cases hf : (placeL 12).find? (fun e => keyN e.1 e.2.1 == key) with
  | none => rfl
  | some e =>
    simp only [Option.map_some, uL]
    split
    · rfl
    · rw [Int.mul_zero]
/-- the layings' sum, base B, the asked one counted by y -/
def zS (B y : Int) (l : List (Nat × Nat)) : Int := (l.map fun q => B ^ q.1 * y ^ q.2).sum
def wB (B y : Int) (dm : Nat → Nat) (asked k : Nat) : Int := if dm k < 4 then B ^ dm k * (if k = asked then y else 1) else 0
theorem zS_append (B y : Int) (p q : List (Nat × Nat)) : zS B y (p ++ q) = zS B y p + zS B y q := by simp [zS]
theorem zS_step (B y : Int) (p c asked : Nat) : ∀ (l : List (Nat × Nat)), zS B y (l.map fun q => (p + q.1, if c = asked then q.2 + 1 else q.2)) = B ^ p * (if c = asked then y else 1) * zS B y l
  | [] => by simp [zS]
  | a :: l => by
    have ih := zS_step B y p c asked l
    unfold zS at ih ⊢
    rw [List.map_cons, List.map_cons, List.sum_cons, ih, List.map_cons, List.sum_cons, Int.mul_add]
    congr 1
    simp only [Int.pow_add]
    split
    · rw [Int.pow_succ, Int.mul_assoc, Int.mul_comm (y ^ a.2) y, ← Int.mul_assoc (B ^ a.1), Int.mul_comm (B ^ a.1) y]
      simp only [Int.mul_assoc]
    · rw [Int.mul_one, Int.mul_assoc]
theorem z_row (B y : Int) (dm : Nat → Nat) (asked f : Nat) (r : List Nat) (rec : List Nat → List (Nat × Nat)) (recP : List Nat → List (Int × List Nat)) (h : zS B y (rec []) = zS B y (rec [])) (hr : ∀ x, zS B y (rec (r.filter fun y => y != x)) = ev (wB B y dm asked) (recP (r.filter fun y => y != x))) :
    ∀ (os : List Nat) (b : Nat), zS B y ((hereN dm b os).flatMap (layStep asked rec f r)) = ev (wB B y dm asked) ((pairL b os).flatMap (zTerm f r recP))
  | [], b => rfl
  | o :: os, b => by
    rw [hereN, List.flatMap_append, zS_append, z_row B y dm asked f r rec recP h hr os (b + 1), pairL, List.flatMap_cons, ev_append]
    congr 1
    unfold zTerm
    by_cases h4 : dm b < 4
    · rw [if_pos h4, List.flatMap_singleton, layStep]
      by_cases hm : o ∈ f :: r
      · rw [if_pos hm, if_pos hm, zS_step, ev_map, hr, Int.one_mul, wB, if_pos h4]
      · rw [if_neg hm, if_neg hm]
        rfl
    · rw [if_neg h4, List.flatMap_nil]
      by_cases hm : o ∈ f :: r
      · rw [if_pos hm, ev_map, wB, if_neg h4, Int.mul_zero, Int.zero_mul]
        rfl
      · rw [if_neg hm]
        rfl
theorem z_ev (B y : Int) (dm : Nat → Nat) (asked : Nat) : ∀ (n : Nat) (fr : List Nat), (∀ f ∈ fr, f < 12) → zS B y (layN (stonesN dm 12) asked n fr) = ev (wB B y dm asked) (zP n fr)
  | 0, [], _ => by simp [layN, zP, zS, ev, mp]
  | n + 1, [], _ => by simp [layN, zP, zS, ev, mp]
  | 0, _ :: _, _ => by simp [layN, zP, zS, ev]
  | n + 1, f :: r, h => by
    rw [layN, zP, stones_at dm (h f (.head _))]
    exact z_row B y dm asked f r _ _ rfl (fun x => z_ev B y dm asked n _ fun q hq => h q (.tail _ (List.mem_filter.mp hq).1)) _ _
end
section
open PySem PySem.W PyProof.Rows PySem.Calls PySem.Spec PyProof.V
set_option maxRecDepth 100000
theorem here_mem (dm : Nat → Nat) : ∀ (os : List Nat) (b : Nat), ∀ x ∈ hereN dm b os, x.2.1 < 4 ∧ b ≤ x.2.2 ∧ x.2.2 < b + os.length ∧ x.1 ∈ os
  | [], b, x, h => nomatch h
  | o :: os, b, x, h => by
    rw [hereN] at h
    rcases List.mem_append.mp h with h | h
    · split at h
      · rw [List.mem_singleton] at h
        subst h
        refine ⟨by assumption, Nat.le_refl _, by simp, by simp⟩
      · cases h
    · obtain ⟨h1, h2, h3, h4⟩ := here_mem dm os (b + 1) x h
      exact ⟨h1, by omega, by rw [List.length_cons]; omega, .tail _ h4⟩
theorem place_cell : ∀ a : Fin 17, ∃ ca : Fin 12, ∀ f : Fin 12, baseN f.val ≤ a.val ∧ a.val < baseN f.val + (othN f.val).length → f = ca := by decide +kernel
theorem times_le {dm : Nat → Nat} {asked ca : Nat} (hca : ∀ f, f < 12 → ∀ x ∈ hereN dm (baseN f) (othN f), x.2.2 = asked → f = ca) : ∀ (n : Nat) (fr : List Nat), fr.Nodup → (∀ f ∈ fr, f < 12) →
    ∀ q ∈ layN (stonesN dm 12) asked n fr, q.2 ≤ (if ca ∈ fr then 1 else 0) ∧ q.1 ≤ 4 * n
  | 0, [], _, _, q, hq => by simp [layN] at hq; simp [hq]
  | n + 1, [], _, _, q, hq => by simp [layN] at hq; simp [hq]
  | 0, _ :: _, _, _, q, hq => by simp [layN] at hq
  | n + 1, f :: r, hn, hf, q, hq => by
    rw [layN, stones_at dm (hf f (.head _))] at hq
    obtain ⟨x, hx, hq⟩ := List.mem_flatMap.mp hq
    rw [layStep] at hq
    split at hq
    · obtain ⟨q', hq', rfl⟩ := List.mem_map.mp hq
      rw [List.nodup_cons] at hn
      obtain ⟨i1, i2⟩ := times_le hca n (r.filter fun y => y != x.1) (hn.2.filter _) (fun z hz => hf z (.tail _ (List.mem_filter.mp hz).1)) q' hq'
      have hp := (here_mem dm _ _ x hx).1
      refine ⟨?_, by simp only; omega⟩
      by_cases hc : x.2.2 = asked
      · have hfc := hca f (hf f (.head _)) x hx hc
        have hnot : ¬ ca ∈ r.filter fun y => y != x.1 := fun h => hn.1 (hfc ▸ (List.mem_filter.mp h).1)
        rw [if_neg hnot] at i1
        rw [if_pos hc, if_pos (by rw [hfc]; exact .head _)]
        simp only
        omega
      · rw [if_neg hc]
        simp only
        by_cases hm : ca ∈ r.filter fun y => y != x.1
        · rw [if_pos hm] at i1
          rw [if_pos (.tail _ (List.mem_filter.mp hm).1)]
          exact i1
        · rw [if_neg hm] at i1
          omega
    · cases hq
theorem mp_01 {u : Nat → Int} (h : ∀ k, u k = 0 ∨ u k = 1) : ∀ m, mp u m = 0 ∨ mp u m = 1
  | [] => .inr rfl
  | k :: r => by
    rw [mp]
    rcases h k with e | e <;> rcases mp_01 h r with e2 | e2 <;> rw [e, e2] <;> simp
theorem ev_01 {u : Nat → Int} (h : ∀ k, u k = 0 ∨ u k = 1) : ∀ p : List (Int × List Nat), (∀ q ∈ p, q.1 = 1) → ev u p ≤ p.length
  | [], _ => by simp [ev]
  | a :: p, hp => by
    have := ev_01 h p fun q hq => hp q (.tail _ hq)
    rw [ev, hp a (.head _), List.length_cons]
    rcases mp_01 h a.2 with e | e <;> rw [e] <;> omega
theorem zP_len : (zP 12 (List.range 12)).length = 11 := by decide +kernel
theorem zP_one : ∀ q ∈ zP 12 (List.range 12), q.1 = 1 := by decide +kernel
theorem zP_low : ∀ q ∈ zP 12 (List.range 12), ∀ k ∈ q.2, k < 17 := by decide +kernel
theorem zS_len : ∀ l : List (Nat × Nat), zS 1 1 l = l.length
  | [] => rfl
  | a :: l => by
    have := zS_len l
    unfold zS at this ⊢
    rw [List.map_cons, List.sum_cons, this, Int.one_pow, Int.one_pow, List.length_cons]
    omega
theorem lay_le (dm : Nat → Nat) (asked : Nat) : (layN (stonesN dm 12) asked 12 (List.range 12)).length ≤ 11 := by
  have h := z_ev 1 1 dm asked 12 (List.range 12) (fun f hf => List.mem_range.mp hf)
  rw [zS_len] at h
  have h2 := ev_01 (u := wB 1 1 dm asked) (fun k => by
    unfold wB
    by_cases h : dm k < 4
    · right; rw [if_pos h]; simp [Int.one_pow]
    · left; rw [if_neg h]) _ zP_one
  rw [zP_len] at h2
  omega
def p16 (l : List (Nat × Nat)) : Nat := (l.map fun q => 16 ^ q.1).sum
theorem zS_16 : ∀ l : List (Nat × Nat), zS 16 1 l = (p16 l : Nat)
  | [] => rfl
  | a :: l => by
    have := zS_16 l
    unfold zS p16 at this ⊢
    rw [List.map_cons, List.sum_cons, this, Int.one_pow, Int.mul_one, List.map_cons, List.sum_cons]
    simp
theorem zS_0 : ∀ l : List (Nat × Nat), zS 16 0 l = (p16 (l.filter fun q => q.2 == 0) : Nat)
  | [] => rfl
  | a :: l => by
    have ih := zS_0 l
    rw [List.filter_cons]
    obtain ⟨s, t⟩ := a
    cases t with
    | zero =>
      simp only [beq_self_eq_true, if_true]
      unfold zS p16 at ih ⊢
      rw [List.map_cons, List.sum_cons, ih, List.map_cons, List.sum_cons]
      simp
    | succ t =>
      simp only [show ((t + 1 == 0) = false) from by simp]
      unfold zS at ih ⊢
      rw [List.map_cons, List.sum_cons, ih, show (0 : Int) ^ (t + 1) = 0 by rw [Int.pow_succ, Int.mul_zero]]
      simp
theorem p16_split : ∀ l : List (Nat × Nat), (∀ q ∈ l, q.2 ≤ 1) → p16 l = p16 (l.filter fun q => q.2 == 0) + p16 (l.filter fun q => q.2 == 1)
  | [], _ => rfl
  | a :: l, h => by
    have ih := p16_split l fun q hq => h q (.tail _ hq)
    have ha := h a (.head _)
    rw [List.filter_cons, List.filter_cons]
    unfold p16 at ih ⊢
    have : a.2 = 0 ∨ a.2 = 1 := by omega
    rcases this with e | e <;> simp only [e] <;> simp <;> omega
theorem vval_ap {k : Nat} (hk : k ≠ 0) : vval (apL k) = vval (apL (k / 16)) * 64 + (k % 16 + 1) := by
  rw [apL_pos hk, vval_snoc, apOct_toNat]
  omega
theorem vval_ap_zero : vval (apL 0) = 0 := by rw [apL_zero]; rfl
def zrs (ss : List Nat) : Nat := (ss.filter fun p => p == 0).length
def low (ss : List Nat) : List Nat := (ss.filter fun p => p != 0).map (· - 1)
theorem sum_low (b : Nat) : ∀ ss : List Nat, (ss.map (b ^ ·)).sum = zrs ss + b * ((low ss).map (b ^ ·)).sum
  | [] => by simp [zrs, low]
  | p :: r => by
    have ih := sum_low b r
    rw [List.map_cons, List.sum_cons, ih]
    unfold zrs low
    cases p with
    | zero => simp; omega
    | succ p => simp [Nat.mul_add, Nat.pow_succ]; rw [Nat.mul_comm (b ^ p) b]; omega
theorem low_len (ss : List Nat) : zrs ss + (low ss).length = ss.length := by
  induction ss with
  | nil => rfl
  | cons p r ih =>
    unfold zrs low at ih ⊢
    rw [List.length_map] at ih ⊢
    cases p <;> simp <;> omega
theorem low_top (ss : List Nat) : topN (low ss) = topN ss - 1 := by
  have h1 : topN (low ss) ≤ topN ss - 1 := topN_le fun p hp => by
    obtain ⟨q, hq, rfl⟩ := List.mem_map.mp hp
    obtain ⟨hq1, hq2⟩ := List.mem_filter.mp hq
    have := topN_ub ss q hq1
    have : q ≠ 0 := by simpa using hq2
    omega
  have h2 : topN ss ≤ topN (low ss) + 1 := topN_le fun p hp => by
    by_cases h0 : p = 0
    · omega
    · have := topN_ub (low ss) (p - 1) (List.mem_map_of_mem (f := (· - 1)) (List.mem_filter.mpr ⟨hp, by simpa using h0⟩))
      omega
  omega
theorem range_pow (b m : Nat) : ((List.range (m + 1)).map (b ^ ·)).sum = 1 + b * ((List.range m).map (b ^ ·)).sum := by
  have s1 : ∀ k, ((List.range (k + 1)).map (b ^ ·)).sum = ((List.range k).map (b ^ ·)).sum + b ^ k := fun k => by rw [List.range_succ, List.map_append, List.sum_append]; simp
  induction m with
  | zero => simp
  | succ m ih =>
    calc ((List.range (m + 2)).map (b ^ ·)).sum = ((List.range (m + 1)).map (b ^ ·)).sum + b ^ (m + 1) := s1 _
      _ = 1 + b * ((List.range m).map (b ^ ·)).sum + b ^ (m + 1) := by rw [ih]
      _ = 1 + b * (((List.range m).map (b ^ ·)).sum + b ^ m) := by rw [Nat.mul_add, Nat.pow_succ, Nat.mul_comm (b ^ m) b, Nat.add_assoc]
      _ = 1 + b * ((List.range (m + 1)).map (b ^ ·)).sum := by rw [s1 m]
/-- the letters count -/
theorem letters : ∀ (m : Nat) (ss : List Nat), topN ss = m → ss.length ≤ 15 → vval (apL (ss.map (16 ^ ·)).sum) = (ss.map (64 ^ ·)).sum + ((List.range m).map (64 ^ ·)).sum
  | 0, ss, h, _ => by
    have : ss = [] := by
      cases ss with
      | nil => rfl
      | cons p r => have := topN_ub (p :: r) p (.head _); omega
    subst this
    simp [vval_ap_zero]
  | m + 1, ss, h, hl => by
    have hlen := low_len ss
    have ht := low_top ss
    have ih := letters m (low ss) (by omega) (by omega)
    have hne : ss ≠ [] := by rintro rfl; simp [topN] at h
    have hd : (ss.map (16 ^ ·)).sum ≠ 0 := by
      cases ss with
      | nil => exact absurd rfl hne
      | cons p r =>
        have : 0 < 16 ^ p := Nat.pow_pos (by decide)
        rw [List.map_cons, List.sum_cons]
        omega
    have e16 := sum_low 16 ss
    have hz : zrs ss ≤ 15 := by omega
    rw [vval_ap hd, show (ss.map (16 ^ ·)).sum / 16 = ((low ss).map (16 ^ ·)).sum by omega, show (ss.map (16 ^ ·)).sum % 16 = zrs ss by omega, ih, sum_low 64 ss, range_pow]
    omega
theorem powS_eq (ss : List Nat) : powS ss = 64 * (ss.map (64 ^ ·)).sum := by
  induction ss with
  | nil => rfl
  | cons p r ih =>
    unfold powS at ih ⊢
    rw [List.map_cons, List.sum_cons, ih, List.map_cons, List.sum_cons, Nat.mul_add, Nat.pow_succ, Nat.mul_comm (64 ^ p) 64]
theorem gapS_eq (m : Nat) : gapS m = 64 * ((List.range m).map (64 ^ ·)).sum := powS_eq (List.range m)
theorem word_due {ss : List Nat} (hl : ss.length ≤ 15) {c : Nat} (hc : c < 256) : vval (apL (ss.map (16 ^ ·)).sum ++ [c.toUInt8]) = dueN c ss := by
  rw [vval_snoc, letters _ ss rfl hl, dueN, powS_eq, gapS_eq]
  have : (c.toUInt8).toNat = c := by simp only [Nat.toUInt8, UInt8.toNat_ofNat']; omega
  rw [this]
  omega
theorem ap_len_of_lt {n k : Nat} (h : n < 16 ^ k) : (apL n).length ≤ k := by
  induction k generalizing n with
  | zero =>
    have : n = 0 := by simpa using h
    subst this
    rw [apL_zero]
    exact Nat.le_refl _
  | succ k ih =>
    by_cases h0 : n = 0
    · subst h0; rw [apL_zero]; exact Nat.zero_le _
    · rw [apL_pos h0, List.length_append, List.length_singleton]
      have := ih (n := n / 16) (by rw [Nat.pow_succ] at h; omega)
      omega
theorem sum16_le {b : Nat} : ∀ {ss : List Nat}, (∀ p ∈ ss, p ≤ b) → (ss.map (16 ^ ·)).sum ≤ ss.length * 16 ^ b
  | [], _ => by simp
  | p :: r, h => by
    have ih := sum16_le (b := b) (ss := r) fun q hq => h q (.tail _ hq)
    have := Nat.pow_le_pow_right (show 0 < 16 by decide) (h p (.head _))
    rw [List.map_cons, List.sum_cons, List.length_cons, Nat.succ_mul]
    omega
theorem ap_sum_len {ss : List Nat} (hl : ss.length ≤ 15) (hb : ∀ p ∈ ss, p ≤ 48) : (apL (ss.map (16 ^ ·)).sum).length ≤ 49 := by
  refine ap_len_of_lt (Nat.lt_of_le_of_lt (sum16_le hb) ?_)
  exact Nat.lt_of_le_of_lt (Nat.mul_le_mul_right _ hl) (by decide)
theorem eps_abs (f : Nat) (n : Nat) : (epsN f * (n : Int)).natAbs = n := by
  unfold epsN
  split <;> omega
section
variable (dm : Nat → Nat) {asked first : Nat} (ha : asked < 17) (hf : first < 6)
def lays (dm : Nat → Nat) (asked : Nat) : List (Nat × Nat) := layN (stonesN dm 12) asked 12 (List.range 12)
def sumsA (dm : Nat → Nat) (asked : Nat) : List Nat := (lays dm asked).map (·.1)
def sums0 (dm : Nat → Nat) (asked : Nat) : List Nat := ((lays dm asked).filter fun q => q.2 == 0).map (·.1)
def sums1 (dm : Nat → Nat) (asked : Nat) : List Nat := ((lays dm asked).filter fun q => q.2 == 1).map (·.1)
theorem p16_map (l : List (Nat × Nat)) : p16 l = ((l.map (·.1)).map (16 ^ ·)).sum := by rw [p16, List.map_map]; rfl
include ha in
theorem lays_ok : ∀ q ∈ lays dm asked, q.2 ≤ 1 ∧ q.1 ≤ 48 := by
  intro q hq
  obtain ⟨ca, hca⟩ := place_cell ⟨asked, ha⟩
  have := times_le (dm := dm) (asked := asked) (ca := ca.val) (fun f hf x hx hxa => by
    obtain ⟨_, h2, h3, _⟩ := here_mem dm _ _ x hx
    have := hca ⟨f, hf⟩ ⟨by simpa [← hxa] using h2, by simpa [← hxa] using h3⟩
    exact congrArg Fin.val this) 12 (List.range 12) List.nodup_range (fun f hf => List.mem_range.mp hf) q hq
  refine ⟨Nat.le_trans this.1 ?_, this.2⟩
  split <;> omega
include hf in
theorem every_eq : signedN (worthsN (stonesN dm 12) 17 12) blks (rotW first) = epsN first * (((sumsA dm asked).map (16 ^ ·)).sum : Nat) := by
  rw [det_z (tab_MF dm 17) hf, sumsA, ← p16_map, ← zS_16, lays, z_ev 16 1 dm asked 12 _ (fun f hf => List.mem_range.mp hf)]
  congr 1
  refine ev_congr fun q hq k hk => ?_
  have := zP_low q hq k hk
  unfold uL wB
  by_cases h4 : dm k < 4
  · rw [if_pos ⟨h4, by omega⟩, if_pos h4]
    simp
  · rw [if_neg (fun h => h4 h.1), if_neg h4]
include hf in
theorem without_eq : signedN (worthsN (stonesN dm 12) asked 12) blks (rotW first) = epsN first * (((sums0 dm asked).map (16 ^ ·)).sum : Nat) := by
  rw [det_z (tab_MF dm asked) hf, sums0, ← p16_map, ← zS_0, lays, z_ev 16 0 dm asked 12 _ (fun f hf => List.mem_range.mp hf)]
  congr 1
  refine ev_congr fun q hq k hk => ?_
  unfold uL wB
  by_cases h4 : dm k < 4
  · rw [if_pos h4]
    by_cases h5 : k = asked
    · rw [if_neg (fun h => h.2 h5), if_pos h5]; simp
    · rw [if_pos ⟨h4, h5⟩, if_neg h5]; simp
  · rw [if_neg (fun h => h4 h.1), if_neg h4]
include ha in
theorem sums_split : ((sumsA dm asked).map (16 ^ ·)).sum = ((sums0 dm asked).map (16 ^ ·)).sum + ((sums1 dm asked).map (16 ^ ·)).sum := by
  rw [sumsA, sums0, sums1, ← p16_map, ← p16_map, ← p16_map]
  exact p16_split _ fun q hq => (lays_ok dm ha q hq).1
theorem lays_len : (lays dm asked).length ≤ 11 := lay_le dm asked
theorem sumsA_len : (sumsA dm asked).length ≤ 15 := by rw [sumsA, List.length_map]; have := lays_len dm (asked := asked); omega
theorem sums0_len : (sums0 dm asked).length ≤ 15 := by rw [sums0, List.length_map]; have := lays_len dm (asked := asked); have := List.length_filter_le (fun q : Nat × Nat => q.2 == 0) (lays dm asked); omega
theorem sums1_len : (sums1 dm asked).length ≤ 15 := by rw [sums1, List.length_map]; have := lays_len dm (asked := asked); have := List.length_filter_le (fun q : Nat × Nat => q.2 == 1) (lays dm asked); omega
include ha in
theorem sumsA_le : ∀ p ∈ sumsA dm asked, p ≤ 48 := by
  intro p hp
  obtain ⟨q, hq, rfl⟩ := List.mem_map.mp hp
  exact (lays_ok dm ha q hq).2
include ha in
theorem sums0_le : ∀ p ∈ sums0 dm asked, p ≤ 48 := by
  intro p hp
  obtain ⟨q, hq, rfl⟩ := List.mem_map.mp hp
  exact (lays_ok dm ha q (List.mem_filter.mp hq).1).2
include ha in
theorem sums1_le : ∀ p ∈ sums1 dm asked, p ≤ 48 := by
  intro p hp
  obtain ⟨q, hq, rfl⟩ := List.mem_map.mp hp
  exact (lays_ok dm ha q (List.mem_filter.mp hq).1).2
end
end
section
open PySem PySem.W PyProof.Rows PySem.Calls PySem.Spec LCg
set_option maxRecDepth 100000
set_option maxHeartbeats 2000000
section
variable {prog : Program} {w : World} {A : Around} {E : Value → Shared → Prop} {s : Shared}
theorem cu_loop {elt target iter : PySem.Expr} {ifs : List PySem.Expr} {scope : Scope} {pos : Pos} {it acc : Value} {env : Env} {R : Result → Shared → Prop} (I : Nat → Shared → Prop)
    (turn : ∀ n s, I n s → wpAny (model prog w) A (pyNext it) (fun r s₁ => match r with
      | none => R (.ok .next) s₁
      | some v => wpAny (model prog w) A (letOwnedTupleGo target it v) (fun _ s₀ => wpAny (model prog w) A (assign target env v) (fun _ s₂ =>
          wpAny (model prog w) A (forIn ifs true fun c r => if r = true then do let ok ← isTrue c env (eval c env); pure (ForInStep.yield ok) else pure (ForInStep.yield r)) (fun ok s₃ =>
            if ok = true then wpAny (model prog w) A (eval elt env) (fun x s₄ =>
              wpAny (model prog w) A (call (.builtin "list.append") [acc, x]) (fun _ s₅ => ∃ m, m < n ∧ I m s₅) (notedBy (model prog w) A env fun e s' => R (.error e) s') s₄) (notedBy (model prog w) A env fun e s' => R (.error e) s') s₃
            else ∃ m, m < n ∧ I m s₃) (notedBy (model prog w) A env fun e s' => R (.error e) s') s₂)
          (notedBy (model prog w) A env fun e s' => R (.error e) s') s₀) (notedBy (model prog w) A env fun e s' => R (.error e) s') s₁) (notedBy (model prog w) A env fun e s' => R (.error e) s') s)
    (n : Nat) (h : I n s) : codeAny (model prog w) A (.compLoop (.ListComp elt [⟨target, iter, ifs, 0⟩] scope pos) 0 it acc env) R s := by
  refine codeAny_loop rfl I (fun n s hI => ?_) n h
  show wpAny _ A ((compTurn (.ListComp elt [⟨target, iter, ifs, 0⟩] scope pos) 0 it acc env).onRaise (fun x => do noteFrame x env; theTreesLotGoes x)) _ _ s
  refine wpAny_noted ?_
  rw [compTurn_list]
  refine wpAny_bind (wpAny_standAt (wpAny_bind (wpAny_mono (turn n s hI) (fun r s₁ h₁ => ?_) fun _ _ h' => h')))
  cases r with
  | none => exact wpAny_pure h₁
  | some v =>
    refine wpAny_bind (wpAny_mono h₁ (fun _ s₀ h₀' => ?_) fun _ _ h' => h')
    refine wpAny_bind (wpAny_mono h₀' (fun _ s₂ h₂ => ?_) fun _ _ h' => h')
    refine wpAny_bind (wpAny_mono h₂ (fun ok s₃ h₃ => ?_) fun _ _ h' => h')
    cases ok with
    | false => exact wpAny_pure ⟨rfl, h₃⟩
    | true => exact wpAny_bind (wpAny_bind (wpAny_mono h₃ (fun x s₄ h₄ => wpAny_bind (wpAny_mono h₄ (fun _ s₅ h₅ => wpAny_pure (wpAny_pure ⟨rfl, h₅⟩)) fun _ _ h' => h')) fun _ _ h' => h'))
end
/-- the end of a comprehension's turn: the iterators its, the block's frame C, the new list D and the ledger stand -/
def CuEnd (h₀ : Heap) (L : Addr) (m : Str → Option Value) (s₁ : Shared) (its : Led) (C : Addr) (oC : Obj) (D : Addr) (oD : Obj) (news : Led) (R : Value → Prop) (y : Value) (s₂ : Shared) : Prop :=
  ∃ h' tk, s₂ = { s₁ with heap := h', toks := tk } ∧ Fr h₀ L h' m ∧ News h₀ L h' (its ++ (C, oC) :: (D, oD) :: news) ∧ R y
theorem cuEnd {h₀ : Heap} {L : Addr} {m : Str → Option Value} {s₁ : Shared} {its : Led} {C : Addr} {oC : Obj} {D : Addr} {oD : Obj} {news all : Led} {R : Value → Prop} {y : Value} {h' : Heap} {tk : Nat} (F : Fr h₀ L h' m) (N : News h₀ L h' all) (sub : ∀ p ∈ its ++ (C, oC) :: (D, oD) :: news, p ∈ all) (r : R y) :
    CuEnd h₀ L m s₁ its C oC D oD news R y { s₁ with heap := h', toks := tk } := ⟨h', tk, rfl, F, nwSub N sub, r⟩
theorem its_of {P : Addr → Obj → Prop} : ∀ {wr : List Addr}, (∀ b ∈ wr, ∃ o, P b o) → ∃ its : Led, its.map (·.1) = wr ∧ ∀ p ∈ its, P p.1 p.2
  | [], _ => ⟨[], rfl, fun _ h => nomatch h⟩
  | b :: r, h => by
    obtain ⟨o, ho⟩ := h b (.head _)
    obtain ⟨its, e, hi⟩ := its_of (P := P) (wr := r) fun x hx => h x (.tail _ hx)
    refine ⟨(b, o) :: its, by rw [List.map_cons, e], fun p hp => ?_⟩
    rcases List.mem_cons.mp hp with rfl | hp
    · exact ho
    · exact hi p hp
section
variable {prog : Program} {w : World} {A : Around} {E : Value → Shared → Prop} {s : Shared} {h₀ : Heap} {L : Addr} {m : Str → Option Value} {env : Env}
/-- what a comprehension with two names wants of its source -/
def CuSrc (prog : Program) (w : World) (A : Around) (h₀ : Heap) (L : Addr) (m : Str → Option Value) (env : Env) (ifs : List PySem.Expr) (elt : PySem.Expr) (a b : Str) (scope : Scope) (cl : List (Str × Addr)) (Fin : Shared → List Value → Led → Prop) (itv : Value) (s₂ : Shared) : Prop :=
  ∃ (I : Addr) (fp wr : List Addr) (n : Nat) (Pt : Nat → Array Value → Prop) (St : Nat → Heap → Prop) (Mid : Nat → Addr → Heap → Prop) (news : Led) (J : Nat → List Value → Prop),
    itv = .ref I ∧ A.handled = none ∧ WalksU prog w A I fp wr n Pt St Mid ∧ n ≤ sizeLine ∧ (∀ i vals, Pt i vals → ∃ v₁ v₂, vals = #[v₁, v₂]) ∧ (∀ i h, St i h → ∀ b ∈ wr, ∃ o, h.get? b = some o) ∧
    (∀ b ∈ fp, b ∈ wr ∨ (∃ o, (b, o) ∈ news) ∨ ∃ o, h₀.get? b = some o) ∧ (∀ b ∈ wr, h₀.get? b = none ∧ b ≠ L) ∧ (∀ b ∈ fp, b < s₂.heap.objs.size) ∧ (∀ p ∈ news, p.1 ∉ wr) ∧
    Fr h₀ L s₂.heap m ∧ News h₀ L s₂.heap news ∧ St 0 s₂.heap ∧ J 0 [] ∧
    (∀ i ys v₁ v₂ its C oC D m₂ h tk (E' : Value → Shared → Prop), i < n → J i ys → Pt i #[v₁, v₂] → its.map (·.1) = wr → NsObj oC m₂ → m₂ a = some v₁ → m₂ b = some v₂ → Fr h₀ L h m → News h₀ L h (its ++ (C, oC) :: (D, lst ys) :: news) →
      (∀ p ∈ news, p.1 ≠ C ∧ p.1 ≠ D) → C ∉ wr → D ∉ wr → C ≠ D →
      wpAny (model prog w) A (forIn ifs true fun c r => if r = true then do let ok ← isTrue c (compEnvC scope cl C env) (eval c (compEnvC scope cl C env)); pure (ForInStep.yield ok) else pure (ForInStep.yield r)) (fun ok s' => if ok = true then
        wpAny (model prog w) A (eval elt (compEnvC scope cl C env)) (CuEnd h₀ L m { s₂ with heap := h, toks := tk } its C oC D (lst ys) news (fun y => J (i + 1) (ys ++ [y]))) E' s'
        else CuEnd h₀ L m { s₂ with heap := h, toks := tk } its C oC D (lst ys) news (fun _ => J (i + 1) ys) Value.none s') E' { s₂ with heap := h, toks := tk }) ∧
    ∀ ys, J n ys → Fin s₂ ys news
theorem cu_block {elt iter : PySem.Expr} {ifs : List PySem.Expr} {a b : Str} {pa pb tp : Pos} {kk : Nat} {scope : Scope} {cl : List (Str × Addr)} {pos : Pos} {s₂ : Shared} {itv : Value}
    {Fin : Shared → List Value → Led → Prop} {RR : Value → Addr → Result → Shared → Prop}
    (S : CuSrc prog w A h₀ L m env ifs elt a b scope cl Fin itv s₂)
    (hcell : ∀ y ∈ scope.names, y.2 ≠ .cell) (hkind : scope.kind = .function) (hxa : scope.names.lookup a = some .local) (hxb : scope.names.lookup b = some .local) (hab : ¬ a = b)
    (hRR : ∀ D C h tk m' ys news', Fr h₀ L h m → News h₀ L h ((D, lst ys) :: news') → Off1 D news' → h.Ns C m' → h₀.get? C = none → h₀.get? D = none → C ≠ L → D ≠ L → C ≠ D → (∀ p ∈ news', p.1 ≠ C) → Fin s₂ ys news' → RR (.ref D) C (.ok .next) { s₂ with heap := h, toks := tk }) :
    wpAny (model prog w) A (newList []) (fun acc s₃ => wpAny (model prog w) A (newFunctionEnv scope env.globals cl [] env.qual none .none (some env)) (fun cenv s₄ =>
      codeAny (model prog w) A (.compStart (.ListComp elt [⟨.Tuple [.Name a pa, .Name b pb] kk tp, iter, ifs, 0⟩] scope pos) 0 itv acc { cenv with scope := relabel scope env }) (RR acc cenv.locals) s₄) E s₃) E s₂ := by
  obtain ⟨I, fp, wr, n, Pt, St, Mid, news, J, rfl, hh, W, hsz, hPt, hIo, hfw, hwr, hfp, offw, F, N, hst, hJ, turn, fin⟩ := S
  refine wpAny_newObj_type (wpAny_newFunctionEnv hcell (by intro y hy; simp at hy) (fun h₁ hns₁ hsb₁ => ?_) hkind)
  dsimp only at hns₁ hsb₁ ⊢
  generalize hH2 : s₂.heap.push { cls := .type "list", dict := none, data := .seq ([] : List Value).toArray } = H2 at hns₁ hsb₁ ⊢
  have hC : H2.objs.size = s₂.heap.objs.size + 1 := by rw [← hH2, Heap.size_push]
  have hDC : s₂.heap.objs.size ≠ H2.objs.size := by rw [hC]; exact Nat.ne_of_lt (Nat.lt_succ_self _)
  have below : ∀ b, b < s₂.heap.objs.size → b ≠ H2.objs.size ∧ b ≠ s₂.heap.objs.size := fun b hb => ⟨by rw [hC]; exact Nat.ne_of_lt (Nat.lt_succ_of_lt hb), Nat.ne_of_lt hb⟩
  have hDf : s₂.heap.objs.size ∉ fp := fun hm => Nat.lt_irrefl _ (hfp _ hm)
  have hCf : H2.objs.size ∉ fp := fun hm => by have := hfp _ hm; rw [hC] at this; exact Nat.lt_irrefl _ (Nat.lt_of_succ_lt this)
  have hDw : s₂.heap.objs.size ∉ wr := fun h => hDf (W.sub _ h)
  have hCw : H2.objs.size ∉ wr := fun h => hCf (W.sub _ h)
  have old : ∀ b o, s₂.heap.get? b = some o → h₁.get? b = some o := fun b o e => hsb₁.extBut b o (below b (Heap.lt_size e)).1 (Heap.get?_push_of_some _ (hH2 ▸ Heap.get?_push_of_some _ e))
  have hacc : h₁.get? s₂.heap.objs.size = some (lst []) := hsb₁.extBut _ _ hDC (Heap.get?_push_of_some _ (hH2 ▸ Heap.get?_push_size _ rfl))
  have hst₁ : St 0 h₁ := W.frame _ _ _ hst fun b _ o e => old b o e
  have fresh : ∀ a, s₂.heap.objs.size ≤ a → s₂.heap.get? a = none := fun a ha => by
    cases e : s₂.heap.get? a with
    | none => rfl
    | some o' => exact absurd (Heap.lt_size e) (Nat.not_lt.mpr ha)
  have fresh₀ : ∀ a, s₂.heap.objs.size ≤ a → h₀.get? a = none := fun a ha => by
    cases e : h₀.get? a with
    | none => rfl
    | some o' => have := F.keep a o' e; rw [fresh a ha] at this; cases this
  have hD₀ : h₀.get? s₂.heap.objs.size = none := fresh₀ _ (Nat.le_refl _)
  have hC₀ : h₀.get? H2.objs.size = none := fresh₀ _ (by rw [hC]; exact Nat.le_succ _)
  have hLlt : L < s₂.heap.objs.size := F.ns.lt
  have hDL : s₂.heap.objs.size ≠ L := Ne.symm (below L hLlt).2
  have hCL : H2.objs.size ≠ L := Ne.symm (below L hLlt).1
  have offCD : ∀ p ∈ news, p.1 ≠ H2.objs.size ∧ p.1 ≠ s₂.heap.objs.size := fun p hp => below _ (Heap.lt_size (N p hp).1)
  have off1 : Off1 s₂.heap.objs.size news := by
    have : ∀ l : Led, (∀ p ∈ l, p.1 ≠ s₂.heap.objs.size) → Off1 s₂.heap.objs.size l := by
      intro l
      induction l with
      | nil => intro _; trivial
      | cons p r ih => intro h; exact ⟨h p (.head _), ih fun q hq => h q (.tail _ hq)⟩
    exact this news fun p hp => (offCD p hp).2
  have loop : ∀ s₃ : Shared, s₃ = { s₂ with heap := h₁, toks := s₂.toks + ([] : List (Str × Value)).length } →
      codeAny (model prog w) A (.compLoop (.ListComp elt [⟨.Tuple [.Name a pa, .Name b pb] kk tp, iter, ifs, 0⟩] scope pos) 0 (.ref I) (.ref s₂.heap.objs.size) (compEnvC scope cl H2.objs.size env))
        (RR (.ref s₂.heap.objs.size) H2.objs.size) s₃ := by
    rintro s₃ rfl
    refine cu_loop
      (fun k s' => ∃ h' tk i ys m', s' = { s₂ with heap := h', toks := tk } ∧ i ≤ n ∧ k = n + 1 - i ∧ ys.length ≤ i ∧ St i h' ∧ Fr h₀ L h' m ∧ h'.Ns H2.objs.size m' ∧ News h₀ L h' ((s₂.heap.objs.size, lst ys) :: news) ∧ J i ys) ?_ (n + 1)
      ⟨h₁, _, 0, [], _, rfl, Nat.zero_le _, rfl, Nat.le_refl _, hst₁, F.keeps old, hns₁, fun p hp => ?_, hJ⟩
    · rintro k s' ⟨h', tk, i, ys, m', rfl, hi, rfl, hyl, hst', F', hn', N', hJ'⟩
      by_cases hlt : i < n
      · refine W.item i _ _ _ hlt hst' fun T vals h₂ tk₂ hP hT hmid hk₂ => ?_
        obtain ⟨v₁, v₂, rfl⟩ := hPt i vals hP
        refine W.go [.Name a pa, .Name b pb] kk tp i T _ _ _ hmid fun h₃ hst₃ hk₃ => ?_
        have hT₃ : h₃.IsTuple T #[v₁, v₂] := by
          obtain ⟨o, ho, r⟩ := hT
          exact ⟨o, hk₃ T o (W.apart _ _ _ hmid) ho, r⟩
        have up₃ : ∀ c o, c ∉ wr → h'.get? c = some o → h₃.get? c = some o := fun c o hc e => hk₃ c o hc (hk₂ c o hc e)
        refine kcp_assign (env := compEnvC scope cl H2.objs.size env) hh hT₃ (lookup_relabel_local hxa) (lookup_relabel_local hxb) (by simp [compEnvC, relabel, hkind]) (hn'.at' fun o e => up₃ _ o hCw e) fun h₄ tk₄ hn₄ hs₄ => ?_
        have up : ∀ c o, c ∉ wr → c ≠ H2.objs.size → h'.get? c = some o → h₄.get? c = some o := fun c o h1 h2 e => hs₄ c o h2 (up₃ c o h1 e)
        have hst₄ : St (i + 1) h₄ := W.frame _ _ _ hst₃ fun b hb o e => hs₄ b o (fun q => hCf (by have q' : b = H2.objs.size := q; rw [← q']; exact hb)) e
        obtain ⟨its, hits, heI⟩ := its_of (P := fun b o => h₄.get? b = some o) (hIo _ _ hst₄)
        obtain ⟨oC, heC, hoC⟩ := ns_obj hn₄
        have F₄ : Fr h₀ L h₄ m := ⟨F'.ns.at' fun o e => up _ o (fun h => (hwr _ h).2 rfl) (Ne.symm hCL) e, fun c o e => up c o (fun h => by rw [(hwr _ h).1] at e; cases e) (fun q => by rw [q, hC₀] at e; cases e) (F'.keep c o e), F'.above⟩
        have N₄ : News h₀ L h₄ (its ++ (H2.objs.size, oC) :: (s₂.heap.objs.size, lst ys) :: news) := fun q hq => by
          rcases List.mem_append.mp hq with hq | hq
          · have hw : q.1 ∈ wr := hits ▸ List.mem_map_of_mem hq
            exact ⟨heI q hq, (hwr _ hw).2, (hwr _ hw).1⟩
          · rcases List.mem_cons.mp hq with rfl | hq
            · exact ⟨heC, hCL, hC₀⟩
            · have z := N' q hq
              refine ⟨up _ _ ?_ ?_ z.1, z.2⟩
              · rcases List.mem_cons.mp hq with rfl | hq
                · exact hDw
                · exact offw q hq
              · rcases List.mem_cons.mp hq with rfl | hq
                · exact hDC
                · exact (offCD q hq).1
        have keepSt : ∀ h₅ : Heap, Fr h₀ L h₅ m → News h₀ L h₅ (its ++ (H2.objs.size, oC) :: (s₂.heap.objs.size, lst ys) :: news) → St (i + 1) h₅ := fun h₅ F₅ N₅ => W.frame _ _ _ hst₄ fun b hb o e => by
          rcases hfw b hb with hw | ⟨o', ho'⟩ | ⟨o', ho'⟩
          · obtain ⟨p, hp, rfl⟩ := List.mem_map.mp (hits ▸ hw)
            have e1 := heI p hp
            rw [e] at e1
            rw [Option.some.inj e1]
            exact (N₅ p (List.mem_append_left _ hp)).1
          · have hm1 : (b, o') ∈ its ++ (H2.objs.size, oC) :: (s₂.heap.objs.size, lst ys) :: news := List.mem_append_right _ (.tail _ (.tail _ ho'))
            have e1 : h₄.get? b = some o' := (N₄ _ hm1).1
            rw [e] at e1
            rw [Option.some.inj e1]
            exact (N₅ _ hm1).1
          · have e1 := F₄.keep b o' ho'
            rw [e] at e1
            rw [Option.some.inj e1]
            exact F₅.keep b o' ho'
        refine wpAny_mono (turn i ys v₁ v₂ its H2.objs.size oC s₂.heap.objs.size _ h₄ _ _ hlt hJ' hP hits hoC (by simp [hab]) (by simp) F₄ N₄ offCD hCw hDw (Ne.symm hDC)) (fun ok s₄ h₄' => ?_) fun _ _ e => e
        cases ok with
        | true =>
          simp only [if_true] at h₄' ⊢
          refine wpAny_mono h₄' (fun y s₅ h₅' => ?_) fun _ _ e => e
          obtain ⟨h₅, tk₅, rfl, F₅, N₅, j₅⟩ := h₅'
          have zC := (N₅ (H2.objs.size, oC) (List.mem_append_right _ (.head _))).1
          have zD := (N₅ (s₂.heap.objs.size, lst ys) (List.mem_append_right _ (.tail _ (.head _)))).1
          have N₅' : News h₀ L h₅ news := fun q hq => N₅ q (List.mem_append_right _ (.tail _ (.tail _ hq)))
          have hst₅ := keepSt h₅ F₅ N₅
          refine append_at (hsz := by show ys.toArray.size ≤ sizeLine; rw [List.size_toArray]; exact Nat.le_trans (Nat.le_trans hyl hi) hsz) zD fun h₆ hs₆ hD₆ => ?_
          refine ⟨n + 1 - (i + 1), by omega, h₆, tk₅, i + 1, ys ++ [y], _, rfl, hlt, rfl, by rw [List.length_append, List.length_singleton]; exact Nat.succ_le_succ hyl, W.frame _ _ _ hst₅ fun b hb o e => hs₆.extBut b o (fun q => hDf (by have q' : b = s₂.heap.objs.size := q; rw [← q']; exact hb)) e, F₅.change hs₆ hDL hD₀,
            (hoC.ns zC).sameBut hs₆ (Ne.symm hDC), fun q hq => ?_, j₅⟩
          rcases List.mem_cons.mp hq with rfl | hq
          · exact ⟨hD₆.trans (congrArg some (lst_snoc ys y)), hDL, hD₀⟩
          · exact ⟨hs₆.extBut _ _ (offCD q hq).2 (N₅' q hq).1, (N₅' q hq).2⟩
        | false =>
          simp only [Bool.false_eq_true, if_false] at h₄' ⊢
          obtain ⟨h₅, tk₅, rfl, F₅, N₅, j₅⟩ := h₄'
          have zC := (N₅ (H2.objs.size, oC) (List.mem_append_right _ (.head _))).1
          exact ⟨n + 1 - (i + 1), by omega, h₅, tk₅, i + 1, ys, _, rfl, hlt, rfl, Nat.le_succ_of_le hyl, keepSt h₅ F₅ N₅, F₅, hoC.ns zC, fun q hq => N₅ q (List.mem_append_right _ (.tail _ hq)), j₅⟩
      · obtain rfl : i = n := Nat.le_antisymm hi (Nat.not_lt.mp hlt)
        refine W.done _ _ _ hst' fun h₂ tk₂ hk₂ => ?_
        have F₂ : Fr h₀ L h₂ m := ⟨F'.ns.at' fun o e => hk₂ _ o (fun h => (hwr _ h).2 rfl) e, fun c o e => hk₂ c o (fun h => by rw [(hwr _ h).1] at e; cases e) (F'.keep c o e), F'.above⟩
        exact hRR _ _ h₂ tk₂ _ ys news F₂ (fun q hq => ⟨hk₂ _ _ (by
          rcases List.mem_cons.mp hq with rfl | hq
          · exact hDw
          · exact offw q hq) (N' q hq).1, (N' q hq).2⟩) off1 (hn'.at' fun o e => hk₂ _ o hCw e) hC₀ hD₀ hCL hDL (Ne.symm hDC) (fun p hp => (offCD p hp).1) (fin ys hJ')
    · rcases List.mem_cons.mp hp with rfl | hp
      · exact ⟨hacc, hDL, hD₀⟩
      · exact ⟨old _ _ (N p hp).1, (N p hp).2⟩
  exact codeAny_compStart_list (loop _ rfl) (W.self 0 _ _ _ hst₁ (loop _ rfl))
theorem cu_ListComp {elt iter : PySem.Expr} {ifs : List PySem.Expr} {a b : Str} {pa pb tp : Pos} {kk : Nat} {scope : Scope} {cl : List (Str × Addr)} {pos : Pos} {Q : Value → Shared → Prop}
    (hclos : closureFor scope env = pure cl) (hcell : ∀ y ∈ scope.names, y.2 ≠ .cell) (hkind : scope.kind = .function)
    (hnames : ∀ y ∈ scope.names, y.2 = .local → scope.names.lookup y.1 = some .local) (hxa : scope.names.lookup a = some .local) (hxb : scope.names.lookup b = some .local) (hab : ¬ a = b)
    (h : wpAny (model prog w) A (eval iter env) (fun xv s₁ => wpAny (model prog w) A (pyIter xv) (CuSrc prog w A h₀ L m env ifs elt a b scope cl (fun s₂ => FinE h₀ L m s₂ Q)) E s₁) E s)
    (hs : ∀ x, foldedSetIterable iter env x = pure x := by intro _; rfl) :
    wpAny (model prog w) A (eval (.ListComp elt [⟨.Tuple [.Name a pa, .Name b pb] kk tp, iter, ifs, 0⟩] scope pos) env) Q E s := by
  rw [eval_ListComp]
  refine wpAny_comprehension_free (use := none) rfl hs hclos hkind hnames (wpAny_mono h (fun xv s₁ h₁ => wpAny_mono h₁ (fun itv s₂ h₂ => ?_) fun _ _ e => e) fun _ _ e => e)
  refine cu_block h₂ hcell hkind hxa hxb hab ?_
  intro D C h tk m' ys news' F' N' o1 hn hC₀ hD₀ hCL hDL hCD offC fin
  refine ⟨m', hn, fun h'' hs'' => fin D h'' tk (F'.change hs'' hCL hC₀) (fun p hp => ?_) o1⟩
  refine ⟨hs''.extBut _ _ ?_ (N' p hp).1, (N' p hp).2⟩
  rcases List.mem_cons.mp hp with rfl | hp
  · exact Ne.symm hCD
  · exact offC p hp
theorem cu_ListComp' {elt iter : PySem.Expr} {ifs : List PySem.Expr} {a b : Str} {pa pb tp : Pos} {kk : Nat} {scope : Scope} {cl : List (Str × Addr)} {pos : Pos} {Q : Value → Shared → Prop} (hF0 : Fr h₀ L s.heap m)
    (hclos : closureFor scope env = pure cl) (hcell : ∀ y ∈ scope.names, y.2 ≠ .cell) (hkind : scope.kind = .function)
    (hnames : ∀ y ∈ scope.names, y.2 = .local → scope.names.lookup y.1 = some .local) (hxa : scope.names.lookup a = some .local) (hxb : scope.names.lookup b = some .local) (hab : ¬ a = b)
    (h : wpAny (model prog w) A (eval iter env) (fun xv s₁ => wpAny (model prog w) A (pyIter xv) (CuSrc prog w A h₀ L m env ifs elt a b scope cl (fun s₂ => FinE h₀ L m s₂ Q)) E s₁) E s)
    (hs : ∀ x, foldedSetIterable iter env x = pure x := by intro _; rfl) :
    wpAny (model prog w) A (eval (.ListComp elt [⟨.Tuple [.Name a pa, .Name b pb] kk tp, iter, ifs, 0⟩] scope pos) env) Q E s :=
  cu_ListComp hclos hcell hkind hnames hxa hxb hab h hs
theorem cu_Assign {elt iter : PySem.Expr} {ifs : List PySem.Expr} {a b y : Str} {pa pb tp py : Pos} {kk : Nat} {scope : Scope} {cl : List (Str × Addr)} {pos spos : Pos} {Q : Flow → Shared → Prop} (hLe : env.locals = L)
    (hsw : swapsWith (.ListComp elt [⟨.Tuple [.Name a pa, .Name b pb] kk tp, iter, ifs, 0⟩] scope pos) (some (.Name y py)) spos.line env = pure true)
    (hclos : closureFor scope env = pure cl) (hcell : ∀ z ∈ scope.names, z.2 ≠ .cell) (hkind : scope.kind = .function)
    (hnames : ∀ z ∈ scope.names, z.2 = .local → scope.names.lookup z.1 = some .local) (hxa : scope.names.lookup a = some .local) (hxb : scope.names.lookup b = some .local) (hab : ¬ a = b)
    (hy : env.kindOf y = some .local) (hp : (env.scope.kind == .class || (env.scope.kind == .module && env.locals != env.globals)) = false)
    (h : wpAny (model prog w) A (eval iter env) (fun xv s₁ => wpAny (model prog w) A (pyIter xv) (CuSrc prog w A h₀ L m env ifs elt a b scope cl (fun s₂ => FinA h₀ L m s₂ y Q)) E s₁) E s)
    (hs : ∀ x, foldedSetIterable iter env x = pure x := by intro _; rfl) :
    wpAny (model prog w) A (exec (.Assign [.Name y py] (.ListComp elt [⟨.Tuple [.Name a pa, .Name b pb] kk tp, iter, ifs, 0⟩] scope pos) spos) env) Q E s := by
  subst hLe
  rw [exec_Assign_Name_used _ _ _ _ hsw]
  refine wpAny_bind (wpAny_standAt (wpAny_bind ?_))
  show wpAny _ A (do let _ ← comprehension (.ListComp elt [⟨.Tuple [.Name a pa, .Name b pb] kk tp, iter, ifs, 0⟩] scope pos) scope env _ (newList []) false (eval iter env) (some (assign (.Name y py) env))) _ _ s
  refine wpAny_bind (wpAny_mono (wpAny_comprehension_free (use := some (assign (.Name y py) env)) (Q := fun _ s' => Q .next s') rfl hs hclos hkind hnames
    (wpAny_mono h (fun xv s₁ h₁ => wpAny_mono h₁ (fun itv s₂ h₂ => ?_) fun _ _ e => e) fun _ _ e => e)) (fun _ s' hq => wpAny_pure (wpAny_pure hq)) fun _ _ e => e)
  refine cu_block h₂ hcell hkind hxa hxb hab ?_
  intro D C h' tk m' ys news' F' N' o1 hn hC₀ hD₀ hCL hDL hCD offC fin
  show wpAny _ A (assign (.Name y py) env (.ref D)) _ _ _
  refine wpAny_assign_Name (wpAny_storeName_local hy F'.ns (fun h₂ hn₂ hs₂ => ?_) hp)
  have hL₀ : h₀.get? env.locals = none := Heap.get?_none_of_le F'.above
  have F₂ : Fr h₀ env.locals h₂ (fun z => if z = y then some (.ref D) else m z) := ⟨hn₂, fun b o e => hs₂.extBut b o (fun q => by rw [q, hL₀] at e; cases e) (F'.keep b o e), F'.above⟩
  refine ⟨m', hn.sameBut hs₂ hCL, fun h'' hs'' => fin D h'' _ (F₂.change hs'' hCL hC₀) (fun p hp => ?_) o1⟩
  have z : h₂.get? p.1 = some p.2 := hs₂.extBut _ _ (N' p hp).2.1 (N' p hp).1
  refine ⟨hs''.extBut _ _ ?_ z, (N' p hp).2⟩
  rcases List.mem_cons.mp hp with rfl | hp
  · exact Ne.symm hCD
  · exact offC p hp
end
end
section
open PySem PySem.W PyProof.Rows PySem.Calls PySem.Spec LCg
set_option maxRecDepth 100000
set_option maxHeartbeats 2000000
theorem map1_inv {its : Led} {x : Addr} (h : its.map (·.1) = [x]) : ∃ o, its = [(x, o)] := by
  cases its with
  | nil => simp at h
  | cons p r =>
    cases r with
    | nil => simp at h; exact ⟨p.2, by rw [← h]⟩
    | cons q r => simp at h
theorem map2_inv {its : Led} {x y : Addr} (h : its.map (·.1) = [x, y]) : ∃ o o', its = [(x, o), (y, o')] := by
  cases its with
  | nil => simp at h
  | cons p r =>
    rw [List.map_cons, List.cons.injEq] at h
    obtain ⟨o', rfl⟩ := map1_inv h.2
    exact ⟨p.2, o', by rw [← h.1]⟩
section
variable {prog : Program} {w : World} {A : Around} {E : Value → Shared → Prop} {s : Shared} {h₀ : Heap} {L : Addr} {m : Str → Option Value} {env : Env} {news : Led}
theorem new_none {h : Heap} (F : Fr h₀ L h m) {a : Addr} (ha : h.objs.size ≤ a) : h₀.get? a = none := Heap.get?_none_of_le (Nat.le_trans (Nat.le_of_lt (Nat.lt_of_le_of_lt F.above F.ns.lt)) ha)
/-- a comprehension over enumerate of a list of the ledger -/
theorem cu_enum {elt : PySem.Expr} {ifs : List PySem.Expr} {a b : Str} {scope : Scope} {cl : List (Str × Addr)} {Fin : Shared → List Value → Led → Prop} {l : Addr} {vs : List Value} {k0 : Nat} (J : Nat → List Value → Prop)
    (hh : A.handled = none) (F : Fr h₀ L s.heap m) (N : News h₀ L s.heap news) (hm : (l, listOf vs.toArray k0) ∈ news) (hsz : vs.length ≤ sizeLine) (hJ : J 0 [])
    (turn : ∀ i ys x t e oe it oi C oC D m₂ h tk (E' : Value → Shared → Prop), vs[i]? = some x → J i ys → NsObj oC m₂ → m₂ a = some (.int i t) → m₂ b = some x → Fr h₀ L h m → News h₀ L h ((e, oe) :: (it, oi) :: (C, oC) :: (D, lst ys) :: news) →
      (∀ p ∈ news, p.1 ≠ C ∧ p.1 ≠ D) → C ≠ e ∧ C ≠ it ∧ D ≠ e ∧ D ≠ it ∧ C ≠ D →
      wpAny (model prog w) A (forIn ifs true fun c r => if r = true then do let ok ← isTrue c (compEnvC scope cl C env) (eval c (compEnvC scope cl C env)); pure (ForInStep.yield ok) else pure (ForInStep.yield r)) (fun ok s' => if ok = true then
        wpAny (model prog w) A (eval elt (compEnvC scope cl C env)) (CuEnd h₀ L m { s with heap := h, toks := tk } [(e, oe), (it, oi)] C oC D (lst ys) news (fun y => J (i + 1) (ys ++ [y]))) E' s'
        else CuEnd h₀ L m { s with heap := h, toks := tk } [(e, oe), (it, oi)] C oC D (lst ys) news (fun _ => J (i + 1) ys) Value.none s') E' { s with heap := h, toks := tk })
    (fin : ∀ h' ys, J vs.length ys → Fin { s with heap := h' } ys news) :
    wpAny (model prog w) A (call (.type "enumerate") [.ref l]) (fun xv s₁ => wpAny (model prog w) A (pyIter xv) (CuSrc prog w A h₀ L m env ifs elt a b scope cl Fin) E s₁) E s := by
  have hax := N _ hm
  have hl : s.heap.IsList l vs.toArray := ⟨_, hax.1, rfl, _, rfl⟩
  have hlt : l < s.heap.objs.size := Heap.lt_size hax.1
  have hLs : L < s.heap.objs.size := F.ns.lt
  refine call_enumerate_list hl fun h' hE hI hsz' hk => ?_
  refine wpAny_pyIter_enum hE ?_
  have hnw : ∀ p ∈ news, p.1 < s.heap.objs.size := fun p hp => Heap.lt_size (N p hp).1
  refine ⟨s.heap.objs.size + 1, [s.heap.objs.size + 1, s.heap.objs.size, l], [s.heap.objs.size + 1, s.heap.objs.size], vs.toArray.size, _, _, _, news, J, rfl, hh,
    (WalksT.enumerate hh (s.heap.objs.size + 1) s.heap.objs.size l (Nat.succ_ne_self _) (Nat.ne_of_lt (Nat.lt_succ_of_lt hlt)) (Nat.ne_of_lt hlt) vs.toArray).toU, by simpa using hsz, ?_, ?_, ?_, ?_, ?_, ?_, F.keeps hk, N.grown hk, ⟨⟨_, hE⟩, hI, hl.at fun o e => hk _ _ e⟩, hJ, ?_, ?_⟩
  · rintro i vals ⟨t, x, _, rfl⟩
    exact ⟨_, _, rfl⟩
  · rintro i h ⟨⟨old, he⟩, ⟨oi, hoi, _⟩, _⟩ b hb
    rcases List.mem_cons.mp hb with rfl | hb
    · exact ⟨_, he⟩
    · rw [List.mem_singleton.mp hb]; exact ⟨oi, hoi⟩
  · intro b hb
    rcases List.mem_cons.mp hb with rfl | hb
    · exact .inl (.head _)
    rcases List.mem_cons.mp hb with rfl | hb
    · exact .inl (.tail _ (.head _))
    · rw [List.mem_singleton.mp hb]; exact .inr (.inl ⟨_, hm⟩)
  · intro b hb
    rcases List.mem_cons.mp hb with rfl | hb
    · exact ⟨new_none F (Nat.le_succ _), Nat.ne_of_gt (Nat.lt_succ_of_lt hLs)⟩
    · rw [List.mem_singleton.mp hb]; exact ⟨new_none F (Nat.le_refl _), Nat.ne_of_gt hLs⟩
  · intro b hb
    show b < h'.objs.size
    rw [hsz']
    rcases List.mem_cons.mp hb with rfl | hb
    · exact Nat.lt_succ_self _
    rcases List.mem_cons.mp hb with rfl | hb
    · exact Nat.lt_succ_of_lt (Nat.lt_succ_self _)
    · rw [List.mem_singleton.mp hb]; exact Nat.lt_succ_of_lt (Nat.lt_succ_of_lt hlt)
  · intro p hp hb
    have := hnw p hp
    rcases List.mem_cons.mp hb with e | hb
    · rw [e] at this; exact Nat.lt_irrefl _ (Nat.lt_of_succ_lt this)
    · rw [List.mem_singleton.mp hb] at this; exact Nat.lt_irrefl _ this
  · intro i ys v₁ v₂ its C oC D m₂ h tk E' hi hj hP hits hC ha hb F' N' off c1 c2 c3
    obtain ⟨t, x, hx, hv⟩ := hP
    have hv' : v₁ = .int i t ∧ v₂ = x := by simpa using hv
    obtain ⟨rfl, rfl⟩ := hv'
    obtain ⟨oe, oi, rfl⟩ := map2_inv hits
    exact turn i ys v₂ t _ oe _ oi C oC D m₂ h tk E' (by simpa using hx) hj hC ha hb F' N' off ⟨fun e => c1 (by rw [e]; exact .head _), fun e => c1 (by rw [e]; exact .tail _ (.head _)), fun e => c2 (by rw [e]; exact .head _), fun e => c2 (by rw [e]; exact .tail _ (.head _)), c3⟩
  · intro ys hj
    exact fin _ ys (by simpa using hj)
/-- a comprehension over a list of pairs of the ledger -/
theorem cu_prs {elt : PySem.Expr} {ifs : List PySem.Expr} {a b : Str} {scope : Scope} {cl : List (Str × Addr)} {Fin : Shared → List Value → Led → Prop} {R : Addr} {ps : List Pr} {k0 : Nat} (J : Nat → List Value → Prop)
    (hh : A.handled = none) (F : Fr h₀ L s.heap m) (N : News h₀ L s.heap news) (hm : (R, listOf (prRefs ps).toArray k0) ∈ news) (hmp : ∀ p ∈ prLed ps, p ∈ news) (hsz : ps.length ≤ sizeLine) (hJ : J 0 [])
    (turn : ∀ i ys y I oI C oC D m₂ h tk (E' : Value → Shared → Prop), ps[i]? = some y → J i ys → NsObj oC m₂ → m₂ a = some (.int y.m y.t1) → m₂ b = some (.int y.t y.t2) → Fr h₀ L h m → News h₀ L h ((I, oI) :: (C, oC) :: (D, lst ys) :: news) →
      (∀ p ∈ news, p.1 ≠ C ∧ p.1 ≠ D) → C ≠ I ∧ D ≠ I ∧ C ≠ D →
      wpAny (model prog w) A (forIn ifs true fun c r => if r = true then do let ok ← isTrue c (compEnvC scope cl C env) (eval c (compEnvC scope cl C env)); pure (ForInStep.yield ok) else pure (ForInStep.yield r)) (fun ok s' => if ok = true then
        wpAny (model prog w) A (eval elt (compEnvC scope cl C env)) (CuEnd h₀ L m { s with heap := h, toks := tk } [(I, oI)] C oC D (lst ys) news (fun y => J (i + 1) (ys ++ [y]))) E' s'
        else CuEnd h₀ L m { s with heap := h, toks := tk } [(I, oI)] C oC D (lst ys) news (fun _ => J (i + 1) ys) Value.none s') E' { s with heap := h, toks := tk })
    (fin : ∀ h' ys, J ps.length ys → Fin { s with heap := h' } ys news) :
    wpAny (model prog w) A (pyIter (.ref R)) (CuSrc prog w A h₀ L m env ifs elt a b scope cl Fin) E s := by
  have hax := N _ hm
  have hl : s.heap.IsList R (prRefs ps).toArray := ⟨_, hax.1, rfl, _, rfl⟩
  have hlt : R < s.heap.objs.size := Heap.lt_size hax.1
  have hLs : L < s.heap.objs.size := F.ns.lt
  have hnw : ∀ p ∈ news, p.1 < s.heap.objs.size := fun p hp => Heap.lt_size (N p hp).1
  refine wpAny_pyIter_list hl ?_
  have up : ∀ b o, s.heap.get? b = some o → (s.heap.push { cls := .type "list_iterator", data := .fields #[.ref R, .int 0 0] }).get? b = some o := fun b o e => Heap.get?_push_of_some _ e
  have hps : (prRefs ps).toArray.size = ps.length := by simp [prRefs]
  have hat : ∀ j, j < ps.length → ∃ y, ps[j]? = some y ∧ (y.a, prObj y) ∈ news := fun j hj => by
    refine ⟨ps[j], by simp [hj], hmp _ (List.mem_map_of_mem (f := fun x => (x.a, prObj x)) (List.getElem_mem hj))⟩
  let dum : Pr := ⟨0, 0, 0, 0, 0⟩
  have hget : ∀ j, j < ps.length → ps[j]? = some (ps.getD j dum) := fun j hj => by rw [List.getD_eq_getElem?_getD, List.getElem?_eq_getElem hj]; rfl
  have hmem : ∀ j, j < ps.length → ((ps.getD j dum).a, prObj (ps.getD j dum)) ∈ news := fun j hj => by
    obtain ⟨y, hy, hy2⟩ := hat j hj
    rw [hget j hj] at hy
    rw [Option.some.inj hy]
    exact hy2
  refine ⟨s.heap.objs.size, s.heap.objs.size :: R :: (List.range (prRefs ps).toArray.size).map (fun j => (ps.getD j dum).a), [s.heap.objs.size], (prRefs ps).toArray.size, _, _, _, news, J, rfl, hh,
    WalksU.bound (WalksU.listOfTuples hh s.heap.objs.size R (Nat.ne_of_lt hlt) (prRefs ps).toArray (fun j => (ps.getD j dum).a) (fun j => #[.int (ps.getD j dum).m (ps.getD j dum).t1, .int (ps.getD j dum).t (ps.getD j dum).t2])
      (fun j hj => by rw [hps] at hj; rw [List.getElem?_toArray, prRefs, List.getElem?_map, hget j hj]; rfl) (fun j hj => Nat.ne_of_lt (hnw _ (hmem j (by rwa [hps] at hj))))), by rw [hps]; exact hsz, ?_, ?_, ?_, ?_, ?_, ?_, F.keeps up, N.grown up, ⟨⟨_, Heap.get?_push_size _ rfl, rfl, rfl⟩, hl.push _, fun k hk => ?_⟩, hJ, ?_, ?_⟩
  · rintro i vals ⟨_, rfl⟩
    exact ⟨_, _, rfl⟩
  · rintro i h ⟨⟨oi, hoi, _⟩, _⟩ b hb
    rw [List.mem_singleton.mp hb]; exact ⟨oi, hoi⟩
  · intro b hb
    rcases List.mem_cons.mp hb with rfl | hb
    · exact .inl (.head _)
    rcases List.mem_cons.mp hb with rfl | hb
    · exact .inr (.inl ⟨_, hm⟩)
    · obtain ⟨j, hj, rfl⟩ := List.mem_map.mp hb
      rw [List.mem_range, hps] at hj
      exact .inr (.inl ⟨_, hmem j hj⟩)
  · intro b hb
    rw [List.mem_singleton.mp hb]; exact ⟨new_none F (Nat.le_refl _), Nat.ne_of_gt hLs⟩
  · intro b hb
    show b < (s.heap.push _).objs.size
    rw [Heap.size_push]
    rcases List.mem_cons.mp hb with rfl | hb
    · exact Nat.lt_succ_self _
    rcases List.mem_cons.mp hb with rfl | hb
    · exact Nat.lt_succ_of_lt hlt
    · obtain ⟨j, hj, rfl⟩ := List.mem_map.mp hb
      rw [List.mem_range, hps] at hj
      exact Nat.lt_succ_of_lt (hnw _ (hmem j hj))
  · intro p hp hb
    have := hnw p hp
    rw [List.mem_singleton.mp hb] at this; exact Nat.lt_irrefl _ this
  · rw [hps] at hk
    exact ⟨_, up _ _ (N _ (hmem k hk)).1, rfl, _, rfl⟩
  · intro i ys v₁ v₂ its C oC D m₂ h tk E' hi hj hP hits hC ha hb F' N' off c1 c2 c3
    rw [hps] at hi
    have hv := hP.2
    have hv' : v₁ = .int (ps.getD i dum).m (ps.getD i dum).t1 ∧ v₂ = .int (ps.getD i dum).t (ps.getD i dum).t2 := by simpa using hv
    obtain ⟨rfl, rfl⟩ := hv'
    obtain ⟨oI, rfl⟩ := map1_inv hits
    exact turn i ys _ _ oI C oC D m₂ h tk E' (hget i hi) hj hC ha hb F' N' off ⟨fun e => c1 (by rw [e]; exact .head _), fun e => c2 (by rw [e]; exact .head _), c3⟩
  · intro ys hj
    rw [hps] at hj
    exact fin _ ys hj
end
end
section
open PySem PySem.W PyProof.Rows PySem.Calls PySem.Spec PyProof.V
local macro_rules | `(tactic| walk_at "mine step") => `(tactic| first | (k_unfold; (try dsimp only)) | (k_end; wrow_close) | walk1 | (dsimp only; walk1) | (leave1; walk_say "STEP leave1"; try dsimp only))
local macro_rules | `(tactic| walk_at "mine rfls") => `(tactic| (repeat' first | exact List.forall_mem_nil _ | refine List.forall_mem_cons.mpr ⟨rfl, ?_⟩))
local macro_rules | `(tactic| walk_at "mine rest") => `(tactic| (intro y hy; simp only [List.forall_mem_cons, List.not_mem_nil, false_implies, implies_true, and_true, ne_eq] at hy; simp [hy]))
local macro_rules | `(tactic| walk_at "mine if") => `(tactic| (walk_at "mine step"; walk_at "mine go"))
local macro_rules | `(tactic| walk_at "mine go") => `(tactic| repeat' ((fail_if_success (with_reducible show wpAny _ _ (exec (Stmt.For _ _ _ _ _) _) _ _ _)); (fail_if_success (with_reducible show RetPost _ _ _ _ _ _)); (fail_if_success (with_reducible show wpAny _ _ (exec (Stmt.If _ _ _ _) _) _ _ _)); (fail_if_success (with_reducible show IfEnd _ _ _ _ _ _)); (fail_if_success (with_reducible show ForPost _ _ _ _ _ _ _ _)); (fail_if_success (with_reducible show wpAny _ _ (call (Value.ref _) _) _ _ _)); (fail_if_success (with_reducible show wpAny _ _ (subscriptTail _ _ (Value.ref _) _) _ _ _)); (fail_if_success (with_reducible show wpAny _ _ (call (Value.builtin "list.append") _) _ _ _)); (fail_if_success (with_reducible show ValEnd _ _ _ _ _ _ _ _)); (fail_if_success (with_reducible show wpAny _ _ (eval (Expr.IfExp _ _ _ _) _) _ _ _)); (fail_if_success (with_reducible show wpAny _ _ (compareOp CmpOp.In _ _) _ _ _)); (fail_if_success (with_reducible show wpAny _ _ (eval (Expr.ListComp _ _ _ _) _) _ _ _)); (fail_if_success (with_reducible show wpAny _ _ (exec (Stmt.Assign _ (Expr.ListComp _ _ _ _) _) _) _ _ _)); (fail_if_success (with_reducible show LCt.CompSrcT _ _ _ _ _ _ _ _ _ _ _ _ _ _ _)); (fail_if_success (with_reducible show CuSrc _ _ _ _ _ _ _ _ _ _ _ _ _ _ _ _)); (fail_if_success (with_reducible show CuEnd _ _ _ _ _ _ _ _ _ _ _ _ _)); (fail_if_success (with_reducible show LCg.CompSrc _ _ _ _ _ _ _ _ _ _ _ _ _ _)); (fail_if_success (with_reducible show wpAny _ _ (binaryOp Operator.Add (Value.bytes _ _) (Value.bytes _ _)) _ _ _)); (fail_if_success (with_reducible show LCg.CompEnd _ _ _ _ _ _ _ _ _ _ _ _ _ _));  (fail_if_success (with_reducible show wpAny _ _ (call (Value.builtin "len") _) _ _ _)); (fail_if_success (with_reducible show wpAny _ _ (compareOp CmpOp.Eq (Value.ref _) _) _ _ _)); (fail_if_success (with_reducible show wpAny _ _ (binaryOp Operator.Mult _ _) _ _ _)); (fail_if_success (with_reducible show wpAny _ _ (binaryOp Operator.Add (Value.ref _) (Value.ref _)) _ _ _)); (fail_if_success (with_reducible show wpAny _ _ (binaryOp Operator.Pow _ _) _ _ _)); (fail_if_success (with_reducible show wpAny _ _ (pyIter _) _ _ _)); walk_at "mine step"))
set_option maxRecDepth 100000
set_option maxHeartbeats 8000000
theorem mul2 {vs : List Value} (h : vs ≠ []) : List.foldl (fun x1 x2 : Array Value => x1 ++ x2) #[] (List.replicate (if vs.toArray.isEmpty = true then 0 else (2 : Int).toNat) vs.toArray) = (vs ++ vs).toArray := by
  have e : vs.toArray.isEmpty = false := by simpa using h
  rw [e]
  simp [List.replicate]
theorem slice_mid (vs : List Value) (a b : Nat) : slicePick vs.toArray (some (a : Int)) (some (b : Int)) none = ((vs.drop a).take (b - a)).toArray := by
  rw [slicePick_plain]
  simp only [Option.elim, clipAt_nat, List.size_toArray]
  congr 1
  rcases Nat.le_total a vs.length with h | h
  · rw [Nat.min_eq_left h]
    rcases Nat.le_total b vs.length with h2 | h2
    · rw [Nat.min_eq_left h2]
    · rw [Nat.min_eq_right h2, List.take_of_length_le (by simp), List.take_of_length_le (by simp; omega)]
  · rw [Nat.min_eq_right h, List.drop_of_length_le (Nat.le_refl _), List.drop_of_length_le h]
    simp
theorem stones_bound {rs : List RowR} {dm : Nat → Nat} {n : Nat} (h : rs.map rowV = stonesN dm n) (hn : n ≤ 12 := by decide) : (∀ r ∈ rs, ∀ x ∈ r.ts, x.o ≤ 100 ∧ x.p ≤ 100 ∧ x.c ≤ 100) ∧ ∀ r ∈ rs, r.ts.length ≤ 2 := by
  have key : ∀ r ∈ rs, ∃ i, i < n ∧ rowV r = hereN dm (baseN i) (othN i) := by
    intro r hr
    have : rowV r ∈ stonesN dm n := h ▸ List.mem_map_of_mem hr
    obtain ⟨i, hi, e⟩ := List.mem_map.mp this
    exact ⟨i, List.mem_range.mp hi, e.symm⟩
  refine ⟨fun r hr x hx => ?_, fun r hr => ?_⟩
  · obtain ⟨i, hi, e⟩ := key r hr
    have hm : (x.o, x.p, x.c) ∈ hereN dm (baseN i) (othN i) := e ▸ List.mem_map_of_mem (f := fun x : Tup => (x.o, x.p, x.c)) hx
    obtain ⟨h1, h2, h3, h4⟩ := here_mem dm _ _ _ hm
    have hb := base_le (show i < 12 by omega)
    have ho : x.o ≤ i + 4 := by
      have h4' : x.o ∈ othN i := h4
      unfold othN at h4'
      rcases List.mem_append.mp h4' with h | h <;> split at h <;> simp at h <;> omega
    simp only at h1 h2 h3
    omega
  · obtain ⟨i, hi, e⟩ := key r hr
    have h1 := congrArg List.length e
    have h2 := hereN_len dm (othN i) (baseN i)
    rw [rowV, List.length_map] at h1
    have : (othN i).length ≤ 2 := by unfold othN; rw [List.length_append]; split <;> split <;> simp
    omega
theorem MF_bound (dm : Nat → Nat) (left key : Nat) : (MF (uL dm left) key).natAbs < 2 ^ 401 := by
  unfold MF adjF
  cases (placeL 12).find? (fun e => keyN e.1 e.2.1 == key) with
  | none => exact Nat.pow_pos (by decide)
  | some e =>
    simp only [Option.map_some]
    rw [Int.natAbs_mul]
    have h1 : (sgnN e.1 e.2.1).natAbs ≤ 1 := by unfold sgnN; split <;> decide
    have h2 : (uL dm left e.2.2).natAbs ≤ 4096 := by
      unfold uL
      split
      · rename_i h
        have h3 : dm e.2.2 = 0 ∨ dm e.2.2 = 1 ∨ dm e.2.2 = 2 ∨ dm e.2.2 = 3 := by omega
        rcases h3 with h | h | h | h <;> rw [h] <;> decide
      · decide
    have h3 := Nat.mul_le_mul h1 h2
    have h4 : 2 ^ 13 ≤ 2 ^ 401 := Nat.pow_le_pow_right (by decide) (by decide)
    omega
theorem look_bound (dm : Nat → Nat) (left : Nat) : ∀ k, (lookN (worthsN (stonesN dm 12) left 12) k).natAbs < 2 ^ 401 := fun k => by rw [tab_MF]; exact MF_bound dm left k
def clN5 (d : Int) : Nat := ((d.fdiv 5).fmod 64 + 128 * (d.fdiv 320).fmod 2).toNat
theorem clN5_ok (d : Int) : clN5 d < 256 ∧ clN5 d / 64 % 2 = 0 ∧ (clN5 d : Int) = (d.fdiv 5).fmod 64 + 128 * (d.fdiv 320).fmod 2 := by
  unfold clN5
  rw [Int.fmod_eq_emod_of_nonneg _ (by decide), Int.fmod_eq_emod_of_nonneg _ (by decide)]
  have h1 := Int.emod_nonneg (d.fdiv 320) (show (2 : Int) ≠ 0 by decide)
  have h2 := Int.emod_lt_of_pos (d.fdiv 320) (show (0 : Int) < 2 by decide)
  have h3 := Int.emod_nonneg (d.fdiv 5) (show (64 : Int) ≠ 0 by decide)
  have h4 := Int.emod_lt_of_pos (d.fdiv 5) (show (0 : Int) < 64 by decide)
  omega
theorem clN5_eq {d : Int} : (d.fdiv 5).fmod 64 + 128 * (d.fdiv 320).fmod 2 = (clN5 d : Int) := (clN5_ok d).2.2.symm
theorem octet_nat {c : Nat} (h : c < 256) : (c.toUInt8).toNat = c := by
  simp only [Nat.toUInt8, UInt8.toNat_ofNat']; omega
theorem apL_bit (n : Nat) : ∀ x ∈ apL n, x.toNat / 64 % 2 = 1 := by
  induction n using Nat.strongRecOn with
  | ind n ih =>
    intro x hx
    by_cases h : n = 0
    · subst h; rw [apL_zero] at hx; cases hx
    · rw [apL_pos h] at hx
      rcases List.mem_append.mp hx with hx | hx
      · exact ih _ (by omega) x hx
      · simp only [List.mem_cons, List.not_mem_nil, or_false] at hx
        subst hx
        rw [apOct_toNat]
        omega
theorem law02 : PySem.Challenge.rw_pu0001_02.Holds := hd02 (by
  w_strict (
    k_fill
    intro w s₀ s₁ mg mb G Y fa o pm cd doc dV kV ho hd hcd hD hmg hg args vals as hpre hlay hrd hwl hlo
    have KX := kIn_of Y
    k_behind G ho hd hcd hD hmg hpre hlay hrd hwl hlo cd
    rename Top _ _ _ _ _ _ => T
    rename Below _ _ _ _ => B
    rename Fr _ _ _ _ => F
    rename News _ _ _ _ => N
    rename IntsAre _ _ => hI
    rename Heap.IsList _ _ _ => hL
    rename Dflts _ _ _ _ _ _ => z1
    rename Glob _ _ _ _ _ _ _ _ => z2
    rename Heap.CodeRec _ _ _ => z3
    rename CellsAre _ _ _ => z4
    clear z1 z2 z3 z4
    refine wpAny_mono (Q := RetPost s₁.heap s₁.heap.objs.size s₁ (fun v _ => v = .bool true)) (E := fun _ _ => False) ?body ?post (fun _ _ x => x.elim)
    case post =>
      rintro f s' ⟨m', news', h', tk', rfl, F', N', hv⟩
      clear N F
      cases f with
      | ret v =>
        have hv' : v = .bool true := hv
        subst hv'
        k_steps
      | _ => exact absurd hv (by intro e; cases e)
    rename_i x1 x2 x3 x4 x5 a1 a2 x6 a3 a4 ns x7 x8 x9 x10 x11 l1 l2 sc svs l3 x12 x13 x14 x15 hlen x16 h1 tk1 oc hoc
    clear x1 x2 x3 x4 x5 x6 x7 x8 x9 x10 x11 x12 x13 x14 x15 x16 G Y ho hg
    have B0 : Below callerA s₁.heap [] s₁.heap := B
    have hoc' : oc.data = .cell (some (.ref sc)) := hoc
    have F0 : Fr s₁.heap s₁.heap.objs.size h1 (fun _ => none) := F
    clear B F hoc
    generalize s₁.heap.objs.size = L at F0 N ⊢
    dsimp only
    walk_at "mine go"
    refine cu_Assign (h₀ := s₁.heap) (L := L) (m := fun _ => none) (by rfl) (by with_unfolding_all rfl) (by with_unfolding_all rfl) (by decide) (by rfl) (by decide) (by rfl) (by rfl) (by decide) (by rfl) (by rfl) ?_
    walk_at "mine go"
    rename Fr _ _ _ _ => F1
    rename News _ _ _ _ => N1
    refine cu_enum (fun i ys => ∃ ds, IntsAre ys ds ∧ ds.length = i) (by rfl) F1 N1 (.head _) (by rw [sizeLine_eq]; simp) ⟨[], .nil, rfl⟩ ?_ ?_
    · rintro i ys x t e oe it oi C oC D m₂ h tk E' hx ⟨ds, hds, hdl⟩ hC ha hb F2 N2 off ⟨c1, c2, c3, c4, c5⟩
      clear F1 N1
      obtain ⟨n, tn, rfl⟩ : ∃ n t, x = .int n t := by
        obtain ⟨ns', hns⟩ : ∃ ns', IntsAre _ ns' := ⟨_, .cons 636 tk1 (.cons 2 (tk1 + 1) (.cons 525 (tk1 + 1 + 1) (.cons 0 (tk1 + 1 + 1 + 1) (.cons 0 (tk1 + 1 + 1 + 1 + 1) (.cons 3 (tk1 + 1 + 1 + 1 + 1 + 1) (.cons 1 (tk1 + 1 + 1 + 1 + 1 + 1 + 1) (.cons 0 (tk1 + 1 + 1 + 1 + 1 + 1 + 1 + 1) (.cons 1 (tk1 + 1 + 1 + 1 + 1 + 1 + 1 + 1 + 1) (.cons 2 (tk1 + 1 + 1 + 1 + 1 + 1 + 1 + 1 + 1 + 1) (.cons 0 (tk1 + 1 + 1 + 1 + 1 + 1 + 1 + 1 + 1 + 1 + 1) (.cons 1 (tk1 + 1 + 1 + 1 + 1 + 1 + 1 + 1 + 1 + 1 + 1 + 1) (.cons 0 (tk1 + 1 + 1 + 1 + 1 + 1 + 1 + 1 + 1 + 1 + 1 + 1 + 1) (.cons 2 (tk1 + 1 + 1 + 1 + 1 + 1 + 1 + 1 + 1 + 1 + 1 + 1 + 1 + 1) (.cons 0 (tk1 + 1 + 1 + 1 + 1 + 1 + 1 + 1 + 1 + 1 + 1 + 1 + 1 + 1 + 1) (.cons 3 (tk1 + 1 + 1 + 1 + 1 + 1 + 1 + 1 + 1 + 1 + 1 + 1 + 1 + 1 + 1 + 1) (.cons 1 (tk1 + 1 + 1 + 1 + 1 + 1 + 1 + 1 + 1 + 1 + 1 + 1 + 1 + 1 + 1 + 1 + 1) (.cons 26 (tk1 + 1 + 1 + 1 + 1 + 1 + 1 + 1 + 1 + 1 + 1 + 1 + 1 + 1 + 1 + 1 + 1 + 1) .nil)))))))))))))))))⟩
        obtain ⟨n, t, e, _⟩ := hns.at i x hx
        exact ⟨n, t, e⟩
      clear hx
      refine wpAny_tests_nil ?_
      rw [if_pos rfl]
      walk_at "mine go"
      have hpk := hI.pick (some (i : Int)) (some 54) (some 18)
      refine slice_L (s := ⟨_, _, _, _, _⟩) F2 N2 (stays_list F2.keep hL) (by constructor) (by constructor) (by constructor) (by decide) ?_ (by have := hI.length; simp; omega)
      intro Sl h3 F3 N3 l3
      have hpl := slicePick_size_le svs.toArray (some (i : Int)) (some 54) (some 18)
      rw [show slicePick svs.toArray (some (i : Int)) (some 54) (some 18) = (slicePick svs.toArray (some (i : Int)) (some 54) (some 18)).toList.toArray by simp] at N3
      generalize (slicePick svs.toArray (some (i : Int)) (some 54) (some 18)).toList = pv at N3 hpk
      generalize pickNums ns (some (i : Int)) (some 54) (some 18) = pn at hpk
      walk_at "mine go"
      rename Fr _ _ _ _ => F4
      rename News _ _ _ _ => N4
      exact cuEnd F4 N4 (fun p hp => .tail _ hp) ⟨_, hds.append (.cons _ _ .nil), by simp [hdl]⟩
    rintro hq dvs ⟨ds, hds, hdl⟩
    have hdl18 : ds.length = 18 := hdl
    unfold LCg.FinA
    intro Dr hr1 tkr F2 N2 o1
    have N3 : News s₁.heap L hr1 [(Dr, LCg.lst dvs), (L + 1, oc)] := nwSub N2 (by intro p hp; simp only [List.mem_cons, List.not_mem_nil, or_false] at hp ⊢; rcases hp with rfl | rfl <;> simp)
    clear F1 N1 N2 hdl
    have N4 : News s₁.heap L hr1 [(Dr, listOf dvs.toArray dvs.length), (L + 1, oc)] := N3
    clear N3
    walk_at "mine go"
    rename Fr _ _ _ _ => F5
    rename News _ _ _ _ => N5
    refine calls_use (rest := [(Dr, listOf dvs.toArray dvs.length), (L + 1, oc)]) (law_stones w ds Dr dvs dvs.length hds hdl18) B0 F5 KX N5 T (by simp) (by intro q hq; rw [List.mem_singleton] at hq; subst hq; exact ⟨(N5 _ (.head _)).1, by simp⟩) rfl rfl (by decide) ?_
    rintro v6 news6 h6 tk6 ⟨S, e6, rs, rfl, rfl, hrv⟩ F6 N6 Ap6
    have hrl : rs.length = 12 := by have := congrArg List.length hrv; simpa [stonesN] using this
    have hrb := stones_bound hrv
    generalize hst : stLed S e6 rs = st at N6 Ap6
    have N7 : News s₁.heap L h6 ((Dr, listOf dvs.toArray dvs.length) :: (L + 1, oc) :: st) := nwSub N6 (by intro p hp; simp only [List.mem_append, List.mem_cons, List.not_mem_nil, or_false] at hp ⊢; rcases hp with rfl | rfl | hp <;> simp [*])
    clear N6 N5 F5
    obtain ⟨td, htd⟩ := hds.get 17 (ds.getD 17 0) (by rw [List.getD_eq_getElem?_getD, List.getElem?_eq_getElem (by omega)]; rfl)
    walk_at "mine go"
    refine item_list (News.isList (by assumption) (.head _)) (by decide) (by decide) (x := Value.int (ds.getD 17 0) td) (by show dvs.toArray[17]? = _; rw [List.getElem?_toArray]; exact htd) ?_
    generalize hd17 : ds.getD 17 0 = d17 at htd
    walk_at "mine go"
    rename Fr _ _ _ _ => F8
    rename News _ _ _ _ => N8
    obtain ⟨ak, hak, hakl⟩ : ∃ ak : Nat, d17.fmod 17 = (ak : Int) ∧ ak < 17 := by
      have h1 := Int.emod_nonneg d17 (show (17 : Int) ≠ 0 by decide)
      have h2 := Int.emod_lt_of_pos d17 (show (0 : Int) < 17 by decide)
      exact ⟨(d17 % 17).toNat, by rw [Int.fmod_eq_emod_of_nonneg _ (by decide)]; omega, by omega⟩
    obtain ⟨fi, hfi, hfil⟩ : ∃ fi : Nat, (d17.fdiv 17).fmod 6 = (fi : Int) ∧ fi < 6 := by
      have h1 := Int.emod_nonneg (d17.fdiv 17) (show (6 : Int) ≠ 0 by decide)
      have h2 := Int.emod_lt_of_pos (d17.fdiv 17) (show (0 : Int) < 6 by decide)
      exact ⟨((d17.fdiv 17) % 6).toNat, by rw [Int.fmod_eq_emod_of_nonneg _ (by decide)]; omega, by omega⟩
    rw [hak] at F8
    refine item_list (News.isList N8 (.head _)) (by decide) (by decide) (x := Value.int d17 td) (by show dvs.toArray[17]? = _; rw [List.getElem?_toArray]; exact htd) ?_
    walk_at "mine go"
    rename Fr _ _ _ _ => F9
    rename News _ _ _ _ => N9
    rename_i Bl hxa lB hxb Wh hxw lW
    obtain ⟨lW1, lW2, lW3, lW4⟩ := lW
    obtain ⟨lB1, lB2, lB3⟩ := lB
    rw [hfi] at F9
    obtain ⟨wvs, hwv, bvs, hbv, N9⟩ : ∃ wvs, IntsAre wvs (zs [1, 3, 4, 6, 9, 11]) ∧ ∃ bvs, IntsAre bvs (zs blks) ∧ News s₁.heap L hxw ((Wh, listOf wvs.toArray 0) :: (Bl, listOf bvs.toArray 0) :: (Dr, listOf dvs.toArray dvs.length) :: (L + 1, oc) :: st) :=
      ⟨[_, _, _, _, _, _], .cons 1 _ (.cons 3 _ (.cons 4 _ (.cons 6 _ (.cons 9 _ (.cons 11 _ .nil))))), [_, _, _, _, _, _], .cons 0 _ (.cons 2 _ (.cons 5 _ (.cons 7 _ (.cons 8 _ (.cons 10 _ .nil))))), N9⟩
    have hwvl : wvs.length = 6 := by rw [hwv.length]; rfl
    refine mul_list F9 N9 (N9 _ (.head _)).1 (by decide) (by decide) (by simp [hwvl]) ?_
    intro h10 F10 N10
    rw [mul2 (by intro e; rw [e] at hwvl; cases hwvl)] at N10
    obtain ⟨u1, u2, F10⟩ : ∃ u1 u2, Fr s₁.heap L h10 (fun y => if y = Str.ofString "blacks" then some (.ref Bl) else if y = Str.ofString "first" then some (.int (fi : Nat) u1) else if y = Str.ofString "asked" then some (.int (ak : Nat) u2) else if y = Str.ofString "stones" then some (.ref S) else if y = Str.ofString "drawn" then some (.ref Dr) else none) := ⟨_, _, F10⟩
    dsimp only at N10 ⊢
    generalize hxw.objs.size = W1 at N10 ⊢
    have N11 : News s₁.heap L h10 ((W1, listOf (wvs ++ wvs).toArray 0) :: (Bl, listOf bvs.toArray 0) :: (Dr, listOf dvs.toArray dvs.length) :: (L + 1, oc) :: st) := nwSub N10 (by intro p hp; simp only [List.mem_cons] at hp ⊢; rcases hp with rfl | rfl | rfl | rfl | hp <;> simp [*])
    clear N9 F9 N10
    walk_at "mine go"
    refine slice_L (s := ⟨_, _, _, _, _⟩) F10 N11 (News.isList N11 (.head _)) (by constructor) (by constructor) (by constructor) (by decide) ?_ (by simp; omega)
    intro Wd h11 F11 N12 l12
    rw [show slicePick (wvs ++ wvs).toArray (some (fi : Int)) (some ((fi : Int) + 6)) none = (((wvs ++ wvs).drop fi).take 6).toArray by rw [show (fi : Int) + 6 = ((fi + 6 : Nat) : Int) by omega, slice_mid, show fi + 6 - fi = 6 by omega]] at N12
    have hrw : IntsAre (((wvs ++ wvs).drop fi).take 6) (zs (rotW fi)) := by
      have := ((hwv.append hwv).drop fi).take 6
      rw [rotW, zs, List.map_take, List.map_drop]
      exact this
    generalize ((wvs ++ wvs).drop fi).take 6 = rvs at N12 hrw
    have N13 : News s₁.heap L h11 ((Wd, listOf rvs.toArray 0) :: (Bl, listOf bvs.toArray 0) :: (Dr, listOf dvs.toArray dvs.length) :: (L + 1, oc) :: st) := nwSub N12 (by intro p hp; simp only [List.mem_cons] at hp ⊢; rcases hp with rfl | rfl | rfl | rfl | hp <;> simp [*])
    clear N11 F10 N12
    have hRo : ∀ {h : Heap} {pre : Led}, News s₁.heap L h (pre ++ st) → ∀ q ∈ stLed S e6 rs, h.get? q.1 = some q.2 := fun N q hq => (N q (List.mem_append_right _ (hst ▸ hq))).1
    walk_at "mine go"
    rename Fr _ _ _ _ => F14
    rename News _ _ _ _ => N14
    refine calls_use (rest := (Wd, listOf rvs.toArray 0) :: (Bl, listOf bvs.toArray 0) :: (Dr, listOf dvs.toArray dvs.length) :: (L + 1, oc) :: st) (law_worths w S e6 rs 17 _ hrl hrb.1 hrb.2) B0 F14 KX N14 T (by simp) (fun q hq => ⟨hRo (pre := [_, _, _, _]) N14 q hq, by simp⟩) rfl rfl (by decide) ?_
    rintro v15 news15 h15 tk15 ⟨W2, o15, kvs15, rfl, rfl, hd15, hf15, hlo15⟩ F15 N15 _
    rw [hrv] at hf15
    have N16 : News s₁.heap L h15 ((W2, o15) :: (Wd, listOf rvs.toArray 0) :: (Bl, listOf bvs.toArray 0) :: (Dr, listOf dvs.toArray dvs.length) :: (L + 1, oc) :: st) := N15
    (try clear N15); (try clear N14); (try clear F14)
    walk_at "mine go"
    rename Fr _ _ _ _ => F16
    rename News _ _ _ _ => N17
    have hrwl : (rotW fi).length ≤ 7 := by have := hrw.length; simp [rotW]; omega
    refine callsU_use (rest := (W2, o15) :: (Wd, listOf rvs.toArray 0) :: (Bl, listOf bvs.toArray 0) :: (Dr, listOf dvs.toArray dvs.length) :: (L + 1, oc) :: st) (law_signed w _ W2 o15 kvs15 hlo15 hd15 hf15 (look_bound _ _) 6 blks (rotW fi) Bl Wd bvs rvs 0 0 rfl hbv hrw (by decide) hrwl (by decide)) B0 F16 KX N17 T (by simp) ?_ rfl rfl (by decide) (by decide) ?_
    · intro q hq
      simp only [List.mem_cons, List.not_mem_nil, or_false] at hq
      refine ⟨?_, by simp⟩
      rcases hq with rfl | rfl | rfl
      · exact (N17 _ (.tail _ (.tail _ (.head _)))).1
      · exact (N17 _ (.tail _ (.head _))).1
      · exact (N17 _ (.head _)).1
    rintro v18 news18 h18 tk18 ⟨⟨u18, rfl⟩, rfl⟩ F18 N18 _
    have N19 : News s₁.heap L h18 ((Wd, listOf rvs.toArray 0) :: (Bl, listOf bvs.toArray 0) :: (Dr, listOf dvs.toArray dvs.length) :: (L + 1, oc) :: st) := nwSub N18 (fun p hp => .tail _ hp)
    (try clear N18); (try clear N17); (try clear F16); (try clear N16); (try clear F15)
    have hE1 := every_eq (dmN ds) (asked := ak) hfil
    generalize hEv : signedN (worthsN (stonesN (dmN ds) 12) 17 12) blks (rotW fi) = Ev at F18 hE1
    walk_at "mine go"
    rename Fr _ _ _ _ => F24
    rename News _ _ _ _ => N24
    refine calls_use (rest := (Wd, listOf rvs.toArray 0) :: (Bl, listOf bvs.toArray 0) :: (Dr, listOf dvs.toArray dvs.length) :: (L + 1, oc) :: st) (law_worths w S e6 rs ak _ hrl hrb.1 hrb.2) B0 F24 KX N24 T (by simp) (fun q hq => ⟨hRo (pre := [_, _, _, _]) N24 q hq, by simp⟩) rfl rfl (by decide) ?_
    rintro v25 news25 h25 tk25 ⟨W3, o25, kvs25, rfl, rfl, hd25, hf25, hlo25⟩ F25 N25 _
    rw [hrv] at hf25
    have N26 : News s₁.heap L h25 ((W3, o25) :: (Wd, listOf rvs.toArray 0) :: (Bl, listOf bvs.toArray 0) :: (Dr, listOf dvs.toArray dvs.length) :: (L + 1, oc) :: st) := N25
    (try clear N25); (try clear N24); (try clear F24)
    walk_at "mine go"
    rename Fr _ _ _ _ => F26
    rename News _ _ _ _ => N27
    refine callsU_use (rest := (W3, o25) :: (Wd, listOf rvs.toArray 0) :: (Bl, listOf bvs.toArray 0) :: (Dr, listOf dvs.toArray dvs.length) :: (L + 1, oc) :: st) (law_signed w _ W3 o25 kvs25 hlo25 hd25 hf25 (look_bound _ _) 6 blks (rotW fi) Bl Wd bvs rvs 0 0 rfl hbv hrw (by decide) hrwl (by decide)) B0 F26 KX N27 T (by simp) ?_ rfl rfl (by decide) (by decide) ?_
    · intro q hq
      simp only [List.mem_cons, List.not_mem_nil, or_false] at hq
      refine ⟨?_, by simp⟩
      rcases hq with rfl | rfl | rfl
      · exact (N27 _ (.tail _ (.tail _ (.head _)))).1
      · exact (N27 _ (.tail _ (.head _))).1
      · exact (N27 _ (.head _)).1
    rintro v28 news28 h28 tk28 ⟨⟨u28, rfl⟩, rfl⟩ F28 N28 _
    have N29 : News s₁.heap L h28 ((Dr, listOf dvs.toArray dvs.length) :: (L + 1, oc) :: st) := nwSub N28 (fun p hp => .tail _ (.tail _ (.tail _ hp)))
    (try clear N28); (try clear N27); (try clear F26); (try clear N26); (try clear F25)
    have hE2 := without_eq (dmN ds) (asked := ak) hfil
    generalize hNv : signedN (worthsN (stonesN (dmN ds) 12) ak 12) blks (rotW fi) = Nv at F28 hE2
    walk_at "mine go"
    rename Fr _ _ _ _ => F30
    rename News _ _ _ _ => N30
    generalize dmN ds = dm at hrv hE1 hE2
    (try clear hf15); (try clear hf25); (try clear hEv); (try clear hNv)
    obtain ⟨d0, d1, d2, dr, rfl⟩ : ∃ d0 d1 d2 dr, ds = d0 :: d1 :: d2 :: dr := by
      match ds, hdl18 with
      | d0 :: d1 :: d2 :: dr, _ => exact ⟨d0, d1, d2, dr, rfl⟩
    refine LCg.Assign_ListComp_U (F₀ := F30) (by rfl) (by with_unfolding_all rfl) (by with_unfolding_all rfl) (by decide) (by rfl) (by decide) (by rfl) (by rfl) (by rfl) ?_
    walk_at "mine go"
    refine slice_L (s := ⟨_, _, _, _, _⟩) F30 N30 (News.isList (items := dvs.toArray) N30 (.head _)) (by constructor) (by constructor) (by constructor) (by decide) ?_ (by have := hds.length; simp at this ⊢; simp at hdl18; omega)
    intro Sc h31 F31 N31 l31
    rw [show slicePick dvs.toArray none (some 3) none = (dvs.take 3).toArray from slicePick_upto' _ 3] at N31
    have hd3 : IntsAre (dvs.take 3) [d0, d1, d2] := hds.take 3
    generalize dvs.take 3 = d3v at N31 hd3
    walk_at "mine go"
    have hd3l : d3v.length = 3 := by rw [hd3.length]; rfl
    refine LCg.CompSrc.ledger (its := d3v.toArray) (by rfl) F31 N31 (.head _) (by rw [sizeLine_eq]; simp; omega) ?_
    intro gh
    refine rest_ind (fun i ys => IntsAre ys (zs (([d0, d1, d2].take i).map clN5))) ?_ ?_ _ 0 [] (Nat.zero_add _) .nil
    · intro i ys v I2 oI2 C oC D2 m₂ h tk E' hi hJ hP hC hx F N off ne
      (try clear F31); (try clear N31); (try clear F30); (try clear N30)
      obtain ⟨d, tdd, rfl, hdi⟩ := hd3.at i v (by simpa using hP)
      walk_at "mine go"
      refine mul_int ?_ (IntMulOk.of_le (m := 8) (n := 1) (intBits_le_iff.mpr (by decide)) (intBits_le_iff.mpr (by
        have h1 := Int.emod_nonneg (d.fdiv 320) (show (2 : Int) ≠ 0 by decide)
        have h2 := Int.emod_lt_of_pos (d.fdiv 320) (show (0 : Int) < 2 by decide)
        rw [Int.fmod_eq_emod_of_nonneg _ (by decide)]
        omega)) (by decide))
      dsimp only
      walk_at "mine go"
      refine LCg.CompEnd.intro F N _ (fun p hp => hp) off (.inr ⟨_, .head _, rfl, _, rfl⟩) ⟨rfl, ?_⟩
      rw [take_succ_at hdi, List.map_append, zs, List.map_append, clN5_eq]
      exact hJ.append (.cons _ _ .nil)
    intro ys hJ
    rw [show d3v.toArray.size = 3 by simpa using hd3l] at hJ
    have hcl : IntsAre ys (zs [clN5 d0, clN5 d1, clN5 d2]) := hJ
    unfold LCg.FinA
    intro Cl h33 tk33 F33 N33 o33
    have N34 : News s₁.heap L h33 ((Cl, listOf ys.toArray ys.length) :: (L + 1, oc) :: st) := nwSub N33 (by intro p hp; simp only [List.mem_cons] at hp ⊢; rcases hp with rfl | rfl | hp <;> simp [*])
    (try clear F31); (try clear N31); (try clear F30); (try clear N30); (try clear N33)
    obtain ⟨c0, e0, hc0a, hc0b⟩ : ∃ c : Nat, clN5 d0 = c ∧ c < 256 ∧ c / 64 % 2 = 0 := ⟨_, rfl, (clN5_ok d0).1, (clN5_ok d0).2.1⟩
    obtain ⟨c1, e1', hc1a, hc1b⟩ : ∃ c : Nat, clN5 d1 = c ∧ c < 256 ∧ c / 64 % 2 = 0 := ⟨_, rfl, (clN5_ok d1).1, (clN5_ok d1).2.1⟩
    obtain ⟨c2, e2', hc2a, hc2b⟩ : ∃ c : Nat, clN5 d2 = c ∧ c < 256 ∧ c / 64 % 2 = 0 := ⟨_, rfl, (clN5_ok d2).1, (clN5_ok d2).2.1⟩
    rw [e0, e1', e2'] at hcl
    obtain ⟨ct0, ys0, rfl, hcl0⟩ := hcl.cons_inv
    obtain ⟨ct1, ys1, rfl, hcl1⟩ := IntsAre.cons_inv hcl0
    obtain ⟨ct2, ys2, rfl, hcl2⟩ := IntsAre.cons_inv hcl1
    obtain rfl := hcl2.nil_inv
    clear hJ hcl hcl0 hcl1 hcl2 e0 e1' e2'
    have hA : Ev.natAbs = ((sumsA dm ak).map (16 ^ ·)).sum := by rw [hE1, eps_abs]
    have hN0 : Nv.natAbs = ((sums0 dm ak).map (16 ^ ·)).sum := by rw [hE2, eps_abs]
    have hD1 : (Ev - Nv).natAbs = ((sums1 dm ak).map (16 ^ ·)).sum := by
      rw [hE1, hE2, sums_split dm hakl, Int.natCast_add, Int.mul_add, show ∀ x y : Int, x + y - x = y from fun x y => by omega, eps_abs]
    have lA := ap_sum_len (sumsA_len dm (asked := ak)) (sumsA_le dm hakl)
    have lN := ap_sum_len (sums0_len dm (asked := ak)) (sums0_le dm hakl)
    have lD := ap_sum_len (sums1_len dm (asked := ak)) (sums1_le dm hakl)
    rw [← hA] at lA
    rw [← hN0] at lN
    rw [← hD1] at lD
    obtain ⟨Cvs, hCvs⟩ : ∃ Cvs : List Value, Cvs = [Value.int (c0 : Int) ct0, Value.int (c1 : Int) ct1, Value.int (c2 : Int) ct2] := ⟨_, rfl⟩
    have N35 : News s₁.heap L h33 ((Cl, listOf Cvs.toArray 3) :: (L + 1, oc) :: st) := by rw [hCvs]; exact N34
    (try clear N34)
    walk_at "mine go"
    rename Fr _ _ _ _ => F36
    rename News _ _ _ _ => N36
    refine calls_use (rest := (Cl, listOf Cvs.toArray 3) :: (L + 1, oc) :: st) (int2ap w Ev _ (by omega)) B0 F36 KX N36 T (by simp) (by simp) rfl rfl (by decide) ?_
    rintro v37 news37 h37 tk37 ⟨⟨u37, rfl⟩, rfl⟩ F37 N37 _
    have N38 : News s₁.heap L h37 ((Cl, listOf Cvs.toArray 3) :: (L + 1, oc) :: st) := N37
    (try clear N37); (try clear N36); (try clear F36); (try clear N35); (try clear F33)
    walk_at "mine go"
    refine slice_L (s := ⟨_, _, _, _, _⟩) F37 N38 (News.isList N38 (.head _)) (by constructor) (by constructor) (by constructor) (by decide) ?_ (by simp [hCvs])
    intro P1 h39 F39 N39 l39
    rw [show slicePick Cvs.toArray none (some 1) none = ([Value.int (c0 : Int) ct0] : List Value).toArray by rw [hCvs]; exact slicePick_upto' _ 1] at N39
    walk_at "mine go"
    rename Fr _ _ _ _ => F40
    rename News _ _ _ _ => N40
    refine KBy.add_bytes (by simp; omega) ?_
    intro t41 k41
    dsimp only
    walk_at "mine go"
    rename Fr _ _ _ _ => F42
    rename News _ _ _ _ => N42
    refine calls_use (rest := (P1, listOf #[Value.int (c0 : Int) ct0] 0) :: (Cl, listOf Cvs.toArray 3) :: (L + 1, oc) :: st) (int2ap w Nv _ (by omega)) B0 F42 KX N42 T (by simp) (by simp) rfl rfl (by decide) ?_
    rintro v43 news43 h43 tk43 ⟨⟨u43, rfl⟩, rfl⟩ F43 N43 _
    have N44 : News s₁.heap L h43 ((Cl, listOf Cvs.toArray 3) :: (L + 1, oc) :: st) := nwSub N43 (fun p hp => .tail _ hp)
    (try clear N43); (try clear N42); (try clear F42); (try clear N40); (try clear F40); (try clear N39); (try clear F39); (try clear N38); (try clear F37)
    walk_at "mine go"
    refine KBy.add_bytes (by simp; omega) ?_
    intro t45 k45
    dsimp only
    walk_at "mine go"
    refine slice_L (s := ⟨_, _, _, _, _⟩) F43 N44 (News.isList N44 (.head _)) (by constructor) (by constructor) (by constructor) (by decide) ?_ (by simp [hCvs])
    intro P2 h46 F46 N46 l46
    rw [show slicePick Cvs.toArray (some 1) (some 2) none = ([Value.int (c1 : Int) ct1] : List Value).toArray by rw [hCvs]; exact slice_mid _ 1 2] at N46
    walk_at "mine go"
    refine KBy.add_bytes (by simp; omega) ?_
    intro t47 k47
    dsimp only
    walk_at "mine go"
    rename Fr _ _ _ _ => F48
    rename News _ _ _ _ => N48
    refine calls_use (rest := (P2, listOf #[Value.int (c1 : Int) ct1] 0) :: (Cl, listOf Cvs.toArray 3) :: (L + 1, oc) :: st) (int2ap w (Ev - Nv) _ (by omega)) B0 F48 KX N48 T (by simp) (by simp) rfl rfl (by decide) ?_
    rintro v49 news49 h49 tk49 ⟨⟨u49, rfl⟩, rfl⟩ F49 N49 _
    have N50 : News s₁.heap L h49 ((Cl, listOf Cvs.toArray 3) :: (L + 1, oc) :: st) := nwSub N49 (fun p hp => .tail _ hp)
    (try clear N49); (try clear N48); (try clear F48); (try clear N46); (try clear F46); (try clear N44); (try clear F43)
    walk_at "mine go"
    refine KBy.add_bytes (by simp; omega) ?_
    intro t51 k51
    dsimp only
    walk_at "mine go"
    refine slice_L (s := ⟨_, _, _, _, _⟩) F49 N50 (News.isList N50 (.head _)) (by constructor) (by constructor) (by constructor) (by decide) ?_ (by simp [hCvs])
    intro P3 h52 F52 N52 l52
    rw [show slicePick Cvs.toArray (some 2) none none = ([Value.int (c2 : Int) ct2] : List Value).toArray by rw [hCvs]; exact slicePick_from' _ 2] at N52
    walk_at "mine go"
    refine KBy.add_bytes (by simp; omega) ?_
    intro t53 k53
    dsimp only
    walk_at "mine go"
    rename_i hX tkX tX1 tX2 tX3 RX FX NX aX hY tkY ysR F60 N60 hkX hn0 xX hNP hCA mkX
    clear xX hkX RX FX NX aX mkX
    dsimp only at hn0 hNP ⊢
    generalize hX.objs.size = Ra at hn0 hNP ⊢
    have hRL : Ra ≠ L := hNP.ne_locals F60
    obtain ⟨⟨nR, eR⟩, offR⟩ := hNP
    have hR12 : IntsAre ysR (zs (List.range 12)) := by
      have := IntsAre.ofCarried hCA
      rw [show ((12 : Int) - 0).toNat = 12 from rfl, rangeInts_zero_one] at this
      exact this
    obtain ⟨q0, hq0⟩ : ∃ q : UInt8, (c0 : Int).toNat.toUInt8 = q := ⟨_, rfl⟩
    obtain ⟨q1, hq1⟩ : ∃ q : UInt8, (c1 : Int).toNat.toUInt8 = q := ⟨_, rfl⟩
    obtain ⟨q2, hq2⟩ : ∃ q : UInt8, (c2 : Int).toNat.toUInt8 = q := ⟨_, rfl⟩
    obtain ⟨u3, u4, u5, F61⟩ : ∃ u3 u4 u5, Fr s₁.heap L hY (fun y => if y = Str.ofString "row" then some (.bytes ((apL Ev.natAbs).toArray ++ #[q0] ++ (apL Nv.natAbs).toArray ++ #[q1] ++ (apL (Ev - Nv).natAbs).toArray ++ #[q2]) u3) else if y = Str.ofString "closings" then some (.ref Cl) else if y = Str.ofString "without" then some (.int Nv u4) else if y = Str.ofString "every" then some (.int Ev u5) else if y = Str.ofString "whites" then some (.ref Wd) else if y = Str.ofString "blacks" then some (.ref Bl) else if y = Str.ofString "first" then some (.int (fi : Nat) u1) else if y = Str.ofString "asked" then some (.int (ak : Nat) u2) else if y = Str.ofString "stones" then some (.ref S) else if y = Str.ofString "drawn" then some (.ref Dr) else none) := by
      rw [hq0, hq1, hq2] at F60
      exact ⟨_, _, _, F60⟩
    have N61 : News s₁.heap L hY ((Ra, listOf ysR.toArray nR) :: (Cl, listOf Cvs.toArray 3) :: (L + 1, oc) :: st) := fun p hp => by
      rcases List.mem_cons.mp hp with rfl | hp
      · exact ⟨eR, hRL, hn0⟩
      · exact N60 p (.tail _ hp)
    (try clear F60); (try clear N60)
    refine callsU_use (rest := (Ra, listOf ysR.toArray nR) :: (Cl, listOf Cvs.toArray 3) :: (L + 1, oc) :: st) (law_layings w S e6 rs ak u2 hrl hrb.2 12 (List.range 12) Ra ysR nR (by simp) hR12 (by decide) (fun f hf => List.mem_range.mp hf)) B0 F61 KX N61 T (by simp) ?_ rfl rfl (by decide) (by decide) ?_
    · intro q hq
      refine ⟨?_, by simp⟩
      rcases List.mem_cons.mp hq with rfl | hq
      · exact eR
      · exact hRo (pre := [_, _, _]) N61 q hq
    rintro v62 news62 h62 tk62 ⟨Rl, e62, ps, rfl, rfl, hps⟩ F62 N62 Ap62
    rw [hrv] at hps
    have hps' : prV ps = lays dm ak := hps
    have N63 : News s₁.heap L h62 ((Rl, listOf (prRefs ps).toArray e62) :: (Cl, listOf Cvs.toArray 3) :: (L + 1, oc) :: prLed ps) := nwSub N62 (by
      intro p hp
      simp only [List.mem_cons, List.mem_append] at hp ⊢
      rcases hp with rfl | rfl | rfl | hp <;> simp [*])
    (try clear N62); (try clear N61); (try clear F61)
    generalize hpl : prLed ps = pl at N63 Ap62
    have hpsl : ps.length ≤ 11 := by
      have h1 := lays_len dm (asked := ak)
      rw [← hps', prV, List.length_map] at h1
      exact h1
    walk_at "mine go"
    refine item_list (News.isList (by assumption) (.tail _ (.head _))) (by decide) (by decide) (x := Value.int (c0 : Int) ct0) (by rw [hCvs]; rfl) ?_
    walk_at "mine go"
    rename Fr _ _ _ _ => F70
    rename News _ _ _ _ => N70
    refine cu_ListComp' F70 (by with_unfolding_all rfl) (by decide) (by rfl) (by decide) (by rfl) (by rfl) (by decide) ?_
    walk_at "mine go"
    refine cu_prs (ps := ps) (k0 := e62) (fun i ys => IntsAre ys (zs ((((prV ps).take i)).map (·.1)))) (by rfl) F70 N70 (.head _) (fun p hp => by rw [hpl] at hp; simp [hp]) (by rw [sizeLine_eq]; omega) .nil ?_ ?_
    · rintro i ys y I oI C oC D m₂ h tk E' hy hJ hC ha hb F2 N2 off ⟨k1, k2, k3⟩
      (try clear F70); (try clear N70)
      have hqy : (prV ps)[i]? = some (y.m, y.t) := by rw [prV, List.getElem?_map, hy]; rfl
      refine wpAny_tests_nil ?_
      rw [if_pos rfl]
      walk_at "mine go"
      rename Fr _ _ _ _ => F80
      rename News _ _ _ _ => N80
      refine cuEnd F80 N80 (fun p hp => hp) ?_
      rw [take_succ_at hqy, List.map_append, zs, List.map_append]
      exact hJ.append (.cons _ _ .nil)
    intro hz0 ys0 hJ0
    rw [show ps.length = (prV ps).length by simp [prV], List.take_length, hps'] at hJ0
    have hJ0' : IntsAre ys0 (zs (sumsA dm ak)) := hJ0
    unfold LCg.FinE
    intro D0 h80 tk80 F80 N80 o80
    have N90 : News s₁.heap L h80 ((D0, listOf ys0.toArray ys0.length) :: (Rl, listOf (prRefs ps).toArray e62) :: (Cl, listOf Cvs.toArray 3) :: (L + 1, oc) :: pl) := N80
    (try clear N80); (try clear F70); (try clear N70)
    walk_at "mine go"
    refine calls_use (rest := (D0, listOf ys0.toArray ys0.length) :: (Rl, listOf (prRefs ps).toArray e62) :: (Cl, listOf Cvs.toArray 3) :: (L + 1, oc) :: pl) (law_due w c0 _ (sumsA dm ak) D0 ys0 ys0.length hJ0' (fun p hp => by have := sumsA_le dm hakl p hp; omega) (by have := sumsA_len dm (asked := ak); omega)) B0 F80 KX N90 T (by simp) (by intro q hq; rw [List.mem_singleton] at hq; subst hq; exact ⟨(N90 _ (.head _)).1, by simp⟩) rfl rfl (by decide) ?_
    rintro v90 news90 h90 tk90 ⟨⟨uu0, rfl⟩, rfl⟩ F90 M90 _
    have P90 : News s₁.heap L h90 ((Rl, listOf (prRefs ps).toArray e62) :: (Cl, listOf Cvs.toArray 3) :: (L + 1, oc) :: pl) := nwSub M90 (fun p hp => .tail _ hp)
    (try clear M90); (try clear N90); (try clear F80)
    walk_at "mine go"
    refine item_list (News.isList (by assumption) (.tail _ (.head _))) (by decide) (by decide) (x := Value.int (c1 : Int) ct1) (by rw [hCvs]; rfl) ?_
    walk_at "mine go"
    rename Fr _ _ _ _ => F71
    rename News _ _ _ _ => N71
    refine cu_ListComp' F71 (by with_unfolding_all rfl) (by decide) (by rfl) (by decide) (by rfl) (by rfl) (by decide) ?_
    walk_at "mine go"
    refine cu_prs (ps := ps) (k0 := e62) (fun i ys => IntsAre ys (zs ((((prV ps).take i).filter (fun q => q.2 == 0)).map (·.1)))) (by rfl) F71 N71 (.head _) (fun p hp => by rw [hpl] at hp; simp [hp]) (by rw [sizeLine_eq]; omega) .nil ?_ ?_
    · rintro i ys y I oI C oC D m₂ h tk E' hy hJ hC ha hb F2 N2 off ⟨k1, k2, k3⟩
      (try clear F71); (try clear N71)
      have hqy : (prV ps)[i]? = some (y.m, y.t) := by rw [prV, List.getElem?_map, hy]; rfl
      refine wpAny_tests_one ?_
      walk_at "mine go"
      · rename _ = _ => hty
        rename Fr _ _ _ _ => F80
        rename News _ _ _ _ => N80
        refine cuEnd F80 N80 (fun p hp => hp) ?_
        have hty' : y.t = 0 := by omega
        rw [take_succ_at hqy, List.filter_append, List.map_append, zs, List.map_append, show [(y.m, y.t)].filter (fun q : Nat × Nat => q.2 == 0) = [(y.m, y.t)] by simp [hty']]
        exact hJ.append (.cons _ _ .nil)
      · rename ¬ _ = _ => hty
        rename Fr _ _ _ _ => F80
        rename News _ _ _ _ => N80
        refine cuEnd F80 N80 (fun p hp => hp) ?_
        have hty' : ¬ y.t = 0 := by omega
        rw [take_succ_at hqy, List.filter_append, show [(y.m, y.t)].filter (fun q : Nat × Nat => q.2 == 0) = [] by simp [hty'], List.append_nil]
        exact hJ
    intro hz1 ys1 hJ1
    rw [show ps.length = (prV ps).length by simp [prV], List.take_length, hps'] at hJ1
    have hJ1' : IntsAre ys1 (zs (sums0 dm ak)) := hJ1
    unfold LCg.FinE
    intro D1 h81 tk81 F81 N81 o81
    have N91 : News s₁.heap L h81 ((D1, listOf ys1.toArray ys1.length) :: (Rl, listOf (prRefs ps).toArray e62) :: (Cl, listOf Cvs.toArray 3) :: (L + 1, oc) :: pl) := N81
    (try clear N81); (try clear F71); (try clear N71)
    walk_at "mine go"
    refine calls_use (rest := (D1, listOf ys1.toArray ys1.length) :: (Rl, listOf (prRefs ps).toArray e62) :: (Cl, listOf Cvs.toArray 3) :: (L + 1, oc) :: pl) (law_due w c1 _ (sums0 dm ak) D1 ys1 ys1.length hJ1' (fun p hp => by have := sums0_le dm hakl p hp; omega) (by have := sums0_len dm (asked := ak); omega)) B0 F81 KX N91 T (by simp) (by intro q hq; rw [List.mem_singleton] at hq; subst hq; exact ⟨(N91 _ (.head _)).1, by simp⟩) rfl rfl (by decide) ?_
    rintro v91 news91 h91 tk91 ⟨⟨uu1, rfl⟩, rfl⟩ F91 M91 _
    have P91 : News s₁.heap L h91 ((Rl, listOf (prRefs ps).toArray e62) :: (Cl, listOf Cvs.toArray 3) :: (L + 1, oc) :: pl) := nwSub M91 (fun p hp => .tail _ hp)
    (try clear M91); (try clear N91); (try clear F81)
    walk_at "mine go"
    refine item_list (News.isList (by assumption) (.tail _ (.head _))) (by decide) (by decide) (x := Value.int (c2 : Int) ct2) (by rw [hCvs]; rfl) ?_
    walk_at "mine go"
    rename Fr _ _ _ _ => F72
    rename News _ _ _ _ => N72
    refine cu_ListComp' F72 (by with_unfolding_all rfl) (by decide) (by rfl) (by decide) (by rfl) (by rfl) (by decide) ?_
    walk_at "mine go"
    refine cu_prs (ps := ps) (k0 := e62) (fun i ys => IntsAre ys (zs ((((prV ps).take i).filter (fun q => q.2 == 1)).map (·.1)))) (by rfl) F72 N72 (.head _) (fun p hp => by rw [hpl] at hp; simp [hp]) (by rw [sizeLine_eq]; omega) .nil ?_ ?_
    · rintro i ys y I oI C oC D m₂ h tk E' hy hJ hC ha hb F2 N2 off ⟨k1, k2, k3⟩
      (try clear F72); (try clear N72)
      have hqy : (prV ps)[i]? = some (y.m, y.t) := by rw [prV, List.getElem?_map, hy]; rfl
      refine wpAny_tests_one ?_
      walk_at "mine go"
      · rename _ = _ => hty
        rename Fr _ _ _ _ => F80
        rename News _ _ _ _ => N80
        refine cuEnd F80 N80 (fun p hp => hp) ?_
        have hty' : y.t = 1 := by omega
        rw [take_succ_at hqy, List.filter_append, List.map_append, zs, List.map_append, show [(y.m, y.t)].filter (fun q : Nat × Nat => q.2 == 1) = [(y.m, y.t)] by simp [hty']]
        exact hJ.append (.cons _ _ .nil)
      · rename ¬ _ = _ => hty
        rename Fr _ _ _ _ => F80
        rename News _ _ _ _ => N80
        refine cuEnd F80 N80 (fun p hp => hp) ?_
        have hty' : ¬ y.t = 1 := by omega
        rw [take_succ_at hqy, List.filter_append, show [(y.m, y.t)].filter (fun q : Nat × Nat => q.2 == 1) = [] by simp [hty'], List.append_nil]
        exact hJ
    intro hz2 ys2 hJ2
    rw [show ps.length = (prV ps).length by simp [prV], List.take_length, hps'] at hJ2
    have hJ2' : IntsAre ys2 (zs (sums1 dm ak)) := hJ2
    unfold LCg.FinE
    intro D2 h82 tk82 F82 N82 o82
    have N92 : News s₁.heap L h82 ((D2, listOf ys2.toArray ys2.length) :: (Rl, listOf (prRefs ps).toArray e62) :: (Cl, listOf Cvs.toArray 3) :: (L + 1, oc) :: pl) := N82
    (try clear N82); (try clear F72); (try clear N72)
    walk_at "mine go"
    refine calls_use (rest := (D2, listOf ys2.toArray ys2.length) :: (Rl, listOf (prRefs ps).toArray e62) :: (Cl, listOf Cvs.toArray 3) :: (L + 1, oc) :: pl) (law_due w c2 _ (sums1 dm ak) D2 ys2 ys2.length hJ2' (fun p hp => by have := sums1_le dm hakl p hp; omega) (by have := sums1_len dm (asked := ak); omega)) B0 F82 KX N92 T (by simp) (by intro q hq; rw [List.mem_singleton] at hq; subst hq; exact ⟨(N92 _ (.head _)).1, by simp⟩) rfl rfl (by decide) ?_
    rintro v92 news92 h92 tk92 ⟨⟨uu2, rfl⟩, rfl⟩ F92 M92 _
    have P92 : News s₁.heap L h92 ((Rl, listOf (prRefs ps).toArray e62) :: (Cl, listOf Cvs.toArray 3) :: (L + 1, oc) :: pl) := nwSub M92 (fun p hp => .tail _ hp)
    (try clear M92); (try clear N92); (try clear F82)
    walk_at "mine go"
    have hq0n : q0 = c0.toUInt8 := by rw [← hq0, Int.toNat_natCast]
    have hq1n : q1 = c1.toUInt8 := by rw [← hq1, Int.toNat_natCast]
    have hq2n : q2 = c2.toUInt8 := by rw [← hq2, Int.toNat_natCast]
    have hv0 : vval (apL Ev.natAbs ++ [q0]) = dueN c0 (sumsA dm ak) := by rw [hA, hq0n]; exact word_due (sumsA_len dm) hc0a
    have hv1 : vval (apL Nv.natAbs ++ [q1]) = dueN c1 (sums0 dm ak) := by rw [hN0, hq1n]; exact word_due (sums0_len dm) hc1a
    have hv2 : vval (apL (Ev - Nv).natAbs ++ [q2]) = dueN c2 (sums1 dm ak) := by rw [hD1, hq2n]; exact word_due (sums1_len dm) hc2a
    have hb0 : q0.toNat / 64 % 2 = 0 := by rw [hq0n, octet_nat hc0a]; exact hc0b
    have hb1 : q1.toNat / 64 % 2 = 0 := by rw [hq1n, octet_nat hc1a]; exact hc1b
    have hb2 : q2.toNat / 64 % 2 = 0 := by rw [hq2n, octet_nat hc2a]; exact hc2b
    rename Fr _ _ _ _ => G1
    rename News _ _ _ _ => M1
    rename_i Du hxda lDu hxd
    obtain ⟨lD1, lD2, lD3, lD4⟩ := lDu
    generalize dueN c0 (sumsA dm ak) = w0 at M1 hv0
    generalize dueN c1 (sums0 dm ak) = w1 at M1 hv1
    generalize dueN c2 (sums1 dm ak) = w2 at M1 hv2
    have tA := apL_bit Ev.natAbs
    have tN := apL_bit Nv.natAbs
    have tD := apL_bit (Ev - Nv).natAbs
    generalize apL Ev.natAbs = bA at lA hv0 tA G1 ⊢
    generalize apL Nv.natAbs = bN at lN hv1 tN G1 ⊢
    generalize apL (Ev - Nv).natAbs = bD at lD hv2 tD G1 ⊢
    have hrow : (bA.toArray ++ #[q0] ++ bN.toArray ++ #[q1] ++ bD.toArray ++ #[q2]).toList = segL [(bA, q0), (bN, q1), (bD, q2)] ++ [] := by simp [segL]
    generalize hrowg : bA.toArray ++ #[q0] ++ bN.toArray ++ #[q1] ++ bD.toArray ++ #[q2] = bR at G1 hrow ⊢
    have hrl2 : bR.toList.length = bA.length + bN.length + bD.length + 3 := by rw [hrow]; simp [segL]; omega
    refine callsS_use0 (rest := (Du, listOf #[Value.int (w0 : Int) uu0, Value.int (w1 : Int) uu1, Value.int (w2 : Int) uu2] 0) :: (Rl, listOf (prRefs ps).toArray e62) :: (Cl, listOf Cvs.toArray 3) :: (L + 1, oc) :: pl) (law_read w bR u3 [(bA, q0), (bN, q1), (bD, q2)] [] hrow (by
      intro p hp
      simp only [List.mem_cons, List.not_mem_nil, or_false] at hp
      rcases hp with rfl | rfl | rfl
      · exact ⟨tA, hb0⟩
      · exact ⟨tN, hb1⟩
      · exact ⟨tD, hb2⟩) (by simp) (by omega)) B0 G1 KX M1 T (by simp) (by simp) rfl rfl (by decide) ?_
    rintro v101 news101 h101 tk101 ⟨R1, vs1, er1, rfl, rfl, hr1v⟩ G2 M2 _
    have hr1v' : IntsAre vs1 (zs [w0, w1, w2]) := by
      have e : segV [(bA, q0), (bN, q1), (bD, q2)] = [w0, w1, w2] := by rw [← hv0, ← hv1, ← hv2]; rfl
      rw [e] at hr1v
      exact hr1v
    have M3 : News s₁.heap L h101 ((R1, listOf vs1.toArray er1) :: (Du, listOf #[Value.int (w0 : Int) uu0, Value.int (w1 : Int) uu1, Value.int (w2 : Int) uu2] 0) :: (L + 1, oc) :: pl) := nwSub M2 (by
      intro p hp
      simp only [List.mem_append, List.mem_cons, List.not_mem_nil, or_false] at hp ⊢
      rcases hp with rfl | rfl | rfl | hp <;> simp [*])
    (try clear M2); (try clear M1); (try clear G1)
    walk_at "mine go"
    refine eq_intsK (ms := zs [w0, w1, w2]) (us := [Value.int (w0 : Int) uu0, Value.int (w1 : Int) uu1, Value.int (w2 : Int) uu2]) (News.isList M3 (.head _)) hr1v' (News.isList M3 (.tail _ (.head _))) (.cons _ _ (.cons _ _ (.cons _ _ .nil))) (show 7 + 64 < 9900 by decide) ?_
    rw [show decide (zs [w0, w1, w2] = zs [w0, w1, w2]) = true from decide_eq_true rfl]
    walk_at "mine go"
    have hbRs : bR.size = bA.length + bN.length + bD.length + 3 := by rw [← Array.length_toList, hrl2]
    have hbP : (KBy.picked bR none (some (-1))).toList = segL [(bA, q0), (bN, q1)] ++ bD := by
      rw [KBc.picked_eq]
      have hc : clipAt bR.size (-1) = bA.length + bN.length + bD.length + 2 := by unfold clipAt; rw [hbRs]; simp; omega
      have e3 : segL [(bA, q0), (bN, q1), (bD, q2)] ++ [] = (segL [(bA, q0), (bN, q1)] ++ bD) ++ [q2] := by simp [segL]
      simp only [Option.elim, List.drop_zero, Nat.sub_zero]
      rw [hc, hrow, e3]
      exact List.take_left' (by simp [segL]; omega)
    refine KBc.slice_K (s := ⟨_, _, _, _, _⟩) G2 M3 rfl (by constructor) (by constructor) (by rw [KBw.ints_length]; omega) ?_
    intro h110 t110 k110 G3 M4 _
    generalize KBy.picked bR none (some (-1)) = bP at hbP ⊢
    (try clear G2); (try clear M3)
    have hbPl : bP.toList.length = bA.length + bN.length + bD.length + 2 := by rw [hbP]; simp [segL]; omega
    walk_at "mine go"
    rename Fr _ _ _ _ => G4
    rename News _ _ _ _ => M5
    refine callsS_use0 (rest := (R1, listOf vs1.toArray er1) :: (Du, listOf #[Value.int (w0 : Int) uu0, Value.int (w1 : Int) uu1, Value.int (w2 : Int) uu2] 0) :: (L + 1, oc) :: pl) (law_read w bP t110 [(bA, q0), (bN, q1)] bD hbP (by
      intro p hp
      simp only [List.mem_cons, List.not_mem_nil, or_false] at hp
      rcases hp with rfl | rfl
      · exact ⟨tA, hb0⟩
      · exact ⟨tN, hb1⟩) tD (by omega)) B0 G4 KX M5 T (by simp) (by simp) rfl rfl (by decide) ?_
    rintro v111 news111 h111 tk111 ⟨R2, vs2, er2, rfl, rfl, hr2v⟩ G5 M6 _
    have hr2v' : IntsAre vs2 (zs [w0, w1]) := by
      have e : segV [(bA, q0), (bN, q1)] = [w0, w1] := by rw [← hv0, ← hv1]; rfl
      rw [e] at hr2v
      exact hr2v
    have M7 : News s₁.heap L h111 ((R2, listOf vs2.toArray er2) :: (Du, listOf #[Value.int (w0 : Int) uu0, Value.int (w1 : Int) uu1, Value.int (w2 : Int) uu2] 0) :: (L + 1, oc) :: pl) := nwSub M6 (by
      intro p hp
      simp only [List.mem_append, List.mem_cons, List.not_mem_nil, or_false] at hp ⊢
      rcases hp with rfl | rfl | rfl | hp <;> simp [*])
    (try clear M6); (try clear M5); (try clear G4); (try clear M4); (try clear G3)
    walk_at "mine go"
    refine slice_L (s := ⟨_, _, _, _, _⟩) G5 M7 (News.isList (items := ([Value.int (w0 : Int) uu0, Value.int (w1 : Int) uu1, Value.int (w2 : Int) uu2] : List Value).toArray) M7 (.tail _ (.head _))) (by constructor) (by constructor) (by constructor) (by decide) ?_ (by simp)
    intro Dv h112 G6 M8 l112
    rw [show slicePick ([Value.int (w0 : Int) uu0, Value.int (w1 : Int) uu1, Value.int (w2 : Int) uu2] : List Value).toArray none (some 2) none = ([Value.int (w0 : Int) uu0, Value.int (w1 : Int) uu1] : List Value).toArray from slicePick_upto' _ 2] at M8
    walk_at "mine go"
    refine eq_intsK (ms := zs [w0, w1]) (us := [Value.int (w0 : Int) uu0, Value.int (w1 : Int) uu1]) (News.isList M8 (.tail _ (.head _))) hr2v' (News.isList M8 (.head _)) (.cons _ _ (.cons _ _ .nil)) (show 7 + 64 < 9900 by decide) ?_
    rw [show decide (zs [w0, w1] = zs [w0, w1]) = true from decide_eq_true rfl]
    walk_at "mine go"
    exact retPost G6 M8 rfl))
end
end Mine
theorem PySem.Challenge.cw_pu0001_02_holds : PySem.Challenge.rw_pu0001_02.Holds :=
  Mine.law02
