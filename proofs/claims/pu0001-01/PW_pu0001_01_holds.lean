import PyProof.Rows.All
import Wide.All
import OpenK.AllK
import Wide.FinOn
import Lean
import PySem.Challenge.RW_pu0001_01
set_option Elab.async false
namespace Mine
section
open PySem PySem.W PyProof.Rows
set_option Elab.async false
set_option maxRecDepth 100000
set_option maxHeartbeats 8000000
open_top hd01 for PySem.Challenge.rw_pu0001_01
end
section
open PySem PySem.W PyProof.Rows PySem.Calls PySem.Spec
abbrev Led := List (Addr × Obj)
abbrev cxA (hd : Option Value) (dp un : Nat) (gd : Option (List Code)) (env : Env) (outer : List Env) : Around := { handled := hd, depth := dp, frames := some (env :: outer), guards := gd, units := un }
def flowVal : Flow → Value
  | .ret v => v
  | _ => .none
/-- how a def's body ends: it hands back a value, the frame's ground stands, the ledger is told -/
def RetPost (g : Heap) (L : Addr) (s : Shared) (Ret : Value → Led → Prop) (f : Flow) (s' : Shared) : Prop :=
  ∃ m' news' h' tk', s' = { s with heap := h', toks := tk' } ∧ Fr g L h' m' ∧ News g L h' news' ∧ Ret (flowVal f) news'
theorem retPost {g : Heap} {L : Addr} {s : Shared} {Ret : Value → Led → Prop} {v : Value} {h' : Heap} {tk' : Nat} {m' : Str → Option Value} {news' : Led} (F : Fr g L h' m') (N : News g L h' news') (R : Ret v news') :
    RetPost g L s Ret (.ret v) { s with heap := h', toks := tk' } := ⟨m', news', h', tk', rfl, F, N, R⟩
theorem nwSub {h₀ h : Heap} {L : Addr} {n n' : Led} (N : News h₀ L h n) (hs : ∀ p ∈ n', p ∈ n) : News h₀ L h n' := fun p hp => N p (hs p hp)
theorem nwL {h₀ h : Heap} {L : Addr} {n n' : Led} (N : News h₀ L h (n ++ n')) : News h₀ L h n := fun p hp => N p (List.mem_append_left _ hp)
theorem nwR {h₀ h : Heap} {L : Addr} {n n' : Led} (N : News h₀ L h (n ++ n')) : News h₀ L h n' := fun p hp => N p (List.mem_append_right _ hp)
theorem nwApp {h₀ h : Heap} {L : Addr} {n n' : Led} (N : News h₀ L h n) (N' : News h₀ L h n') : News h₀ L h (n ++ n') := fun p hp => (List.mem_append.mp hp).elim (N p) (N' p)
section
variable (prog : Program) (w : World) (K : Frag) (p : Program) (loose : List Str)
/-- a call that hands back: touch is what it may change, ro what it reads, the rest stays -/
def CallsTo (hd : Option Value) (room : Nat) (f : Addr) (vs : List Value) (touch ro : Led) (Ret : Value → Led → Prop) : Prop :=
  ∀ (mean : ExcName → Option Value) (mg mb : Str → Option Value) (dp un : Nat) (gd : Option (List Code)) (env : Env) (outer : List Env) (A₀ : Around) (base h₀ : Heap) (L : Addr) (m : Str → Option Value) (s : Shared) (Q E : Value → Shared → Prop) (rest : Led),
    Below A₀ base outer h₀ → Fr h₀ L s.heap m → K.In h₀ → News h₀ L s.heap (touch ++ rest) → (∀ p ∈ touch, ∀ q ∈ rest, p.1 ≠ q.1) → (∀ q ∈ ro, s.heap.get? q.1 = some q.2 ∧ ∀ p ∈ touch, p.1 ≠ q.1) →
    Top p loose mean mg mb h₀ → env.frame = some L → env.scope.kind = .function → dp + room < recursionLimit →
    (∀ v news' h' tk', Ret v news' → Fr h₀ L h' m → News h₀ L h' (news' ++ rest) → (∀ p ∈ news', ∀ q ∈ rest, p.1 ≠ q.1) → Q v { s with heap := h', toks := tk' }) →
    wpAny (model prog w) (cxA hd dp un gd env outer) (call (.ref f) vs) Q E s
def BodyTo (hd : Option Value) (room : Nat) (qual : Str) (scope : Scope) (f : Addr) (cdv : Value) (body : List Stmt) (m : Str → Option Value) (touch ro : Led) (Ret : Value → Led → Prop) : Prop :=
  ∀ (mean : ExcName → Option Value) (mg mb : Str → Option Value) (dp un : Nat) (gd : Option (List Code)) (outer : List Env) (A₀ : Around) (base g : Heap) (L : Addr) (s : Shared),
    Below A₀ base outer g → Fr g L s.heap m → K.In g → News g L s.heap touch → Top p loose mean mg mb g → (∀ q ∈ ro, g.get? q.1 = some q.2) → dp + room ≤ recursionLimit →
    wpAny (model prog w) (cxA hd dp un gd (envOf qual scope L f cdv) outer) (execs body (envOf qual scope L f cdv)) (RetPost g L s Ret) (fun _ _ => False) s
/-- the same for a def with cells -/
def BodyToC (hd : Option Value) (room : Nat) (qual : Str) (scope : Scope) (f : Addr) (cdv : Value) (body : List Stmt) (binds : List (Str × Value)) (touch ro : Led) (Ret : Value → Led → Prop) : Prop :=
  ∀ (mean : ExcName → Option Value) (mg mb : Str → Option Value) (dp un : Nat) (gd : Option (List Code)) (outer : List Env) (A₀ : Around) (base g : Heap) (L : Addr) (s : Shared) (cells : Led),
    Below A₀ base outer g → Fr g L s.heap (bindL (envOfC qual scope L f cdv).kindOf binds fun _ => none) → K.In g → News g L s.heap (cells ++ touch) →
    CellsAre (bindC (envOfC qual scope L f cdv).kindOf binds fun _ => none) (cellsFrom (L + 1) scope.names []) cells → (∀ p ∈ touch, p.1 < L) →
    Top p loose mean mg mb g → (∀ q ∈ ro, g.get? q.1 = some q.2) → dp + room ≤ recursionLimit →
    wpAny (model prog w) (cxA hd dp un gd (envOfC qual scope L f cdv) outer) (execs body (envOfC qual scope L f cdv)) (RetPost g L s Ret) (fun _ _ => False) s
/-- the call raises: what the caller finds -/
def RaisesTo (room : Nat) (f : Addr) (vs : List Value) (touch ro : Led) (cls : String) : Prop :=
  ∀ (mean : ExcName → Option Value) (mg mb : Str → Option Value) (dp un : Nat) (gd : Option (List Code)) (env : Env) (outer : List Env) (A₀ : Around) (base h₀ : Heap) (L : Addr) (m : Str → Option Value) (s : Shared) (Q E : Value → Shared → Prop) (rest : Led),
    Below A₀ base outer h₀ → Fr h₀ L s.heap m → K.In h₀ → News h₀ L s.heap (touch ++ rest) → (∀ p ∈ touch, ∀ q ∈ rest, p.1 ≠ q.1) → (∀ q ∈ ro, s.heap.get? q.1 = some q.2 ∧ ∀ p ∈ touch, p.1 ≠ q.1) →
    Top p loose mean mg mb h₀ → env.frame = some L → env.scope.kind = .function → dp + room < recursionLimit →
    (∀ G e h' tk', Fr h₀ L G m → RaisedSN base G (env :: outer) e (.type cls) rest h' → G.UpToSlots h' → E (.ref e) { s with heap := h', toks := tk' }) →
    wpAny (model prog w) (cxA none dp un gd env outer) (call (.ref f) vs) Q E s
def BodyRaises (room : Nat) (qual : Str) (scope : Scope) (f : Addr) (cdv : Value) (body : List Stmt) (m : Str → Option Value) (touch ro : Led) (cls : String) : Prop :=
  ∀ (mean : ExcName → Option Value) (mg mb : Str → Option Value) (dp un : Nat) (gd : Option (List Code)) (env : Env) (outer : List Env) (base g : Heap) (L : Addr) (s : Shared) (E : Value → Shared → Prop),
    Below (cxA none dp un gd env outer) base (env :: outer) g → Fr g L s.heap m → K.In g → News g L s.heap touch → Top p loose mean mg mb g → (∀ q ∈ ro, g.get? q.1 = some q.2) → dp + room < recursionLimit →
    (∀ e h' tk', RaisedSN base g (env :: outer) e (.type cls) [] h' → g.UpToSlots h' → E (.ref e) { s with heap := h', toks := tk' }) →
    wpAny (model prog w) ((cxA none dp un gd env outer).deeper (envOf qual scope L f cdv)) (execs body (envOf qual scope L f cdv)) (fun _ _ => False)
      (fun e s' => wpAny (model prog w) ((cxA none dp un gd env outer).deeper (envOf qual scope L f cdv)) (leaving (envOf qual scope L f cdv) e) (fun _ s'' => E e s'') (fun e' s'' => E e' s'') s') s
/-- as RetPost, the ground's frames may have turned their marks -/
def RetPostS (fs : List Addr) (g : Heap) (L : Addr) (s : Shared) (Ret : Value → Led → Prop) (f : Flow) (s' : Shared) : Prop :=
  ∃ g' m' news' h' tk', s' = { s with heap := h', toks := tk' } ∧ KtsTurn fs g g' ∧ Fr g' L h' m' ∧ News g' L h' news' ∧ Ret (flowVal f) news'
def CallsToS (room : Nat) (f : Addr) (vs : List Value) (touch ro : Led) (Ret : Value → Led → Prop) : Prop :=
  ∀ (mean : ExcName → Option Value) (mg mb : Str → Option Value) (dp un : Nat) (gd : Option (List Code)) (env : Env) (outer : List Env) (A₀ : Around) (base h₀ : Heap) (L : Addr) (m : Str → Option Value) (s : Shared) (Q E : Value → Shared → Prop) (rest : Led),
    Below A₀ base outer h₀ → Fr h₀ L s.heap m → K.In h₀ → News h₀ L s.heap (touch ++ rest) → (∀ p ∈ touch, ∀ q ∈ rest, p.1 ≠ q.1) → (∀ q ∈ ro, s.heap.get? q.1 = some q.2 ∧ q.1 ∉ (env :: outer).filterMap (·.frame) ∧ ∀ p ∈ touch, p.1 ≠ q.1) →
    Top p loose mean mg mb h₀ → K.In base → Top p loose mean mg mb base → KtsDicts (outer.filterMap (·.frame)) h₀ → env.frame = some L → env.scope.kind = .function → dp + room < recursionLimit →
    (∀ v news' h₀' h' tk', Ret v news' → KtsTurn (outer.filterMap (·.frame)) h₀ h₀' → Fr h₀' L h' m → News h₀' L h' (news' ++ rest) → (∀ p ∈ news', ∀ q ∈ rest, p.1 ≠ q.1) → Below A₀ base outer h₀' → K.In h₀' → Top p loose mean mg mb h₀' → KtsDicts (outer.filterMap (·.frame)) h₀' → Q v { s with heap := h', toks := tk' }) →
    wpAny (model prog w) (cxA none dp un gd env outer) (call (.ref f) vs) Q E s
def BodyToS (room : Nat) (qual : Str) (scope : Scope) (f : Addr) (cdv : Value) (body : List Stmt) (m : Str → Option Value) (touch ro : Led) (Ret : Value → Led → Prop) : Prop :=
  ∀ (mean : ExcName → Option Value) (mg mb : Str → Option Value) (dp un : Nat) (gd : Option (List Code)) (env : Env) (outer : List Env) (base g : Heap) (L : Addr) (s : Shared),
    Below (cxA none dp un gd env outer) base (env :: outer) g → Fr g L s.heap m → K.In g → News g L s.heap touch → Top p loose mean mg mb g → (∀ q ∈ ro, g.get? q.1 = some q.2 ∧ q.1 ∉ (env :: outer).filterMap (·.frame)) → K.In base → Top p loose mean mg mb base →
    KtsDicts ((env :: outer).filterMap (·.frame)) g → dp + room < recursionLimit →
    wpAny (model prog w) ((cxA none dp un gd env outer).deeper (envOf qual scope L f cdv)) (execs body (envOf qual scope L f cdv)) (RetPostS ((env :: outer).filterMap (·.frame)) g L s Ret) (fun _ _ => False) s
end
theorem retPostS {fs : List Addr} {g g' : Heap} {L : Addr} {s : Shared} {Ret : Value → Led → Prop} {v : Value} {h' : Heap} {tk' : Nat} {m' : Str → Option Value} {news' : Led} (T : KtsTurn fs g g') (F : Fr g' L h' m') (N : News g' L h' news') (R : Ret v news') :
    RetPostS fs g L s Ret (.ret v) { s with heap := h', toks := tk' } := ⟨g', m', news', h', tk', rfl, T, F, N, R⟩
theorem fs_mem {env : Env} {outer : List Env} {L b : Addr} (hf : env.frame = some L) (hm : b ∈ (env :: outer).filterMap (·.frame)) : b = L ∨ b ∈ outer.filterMap (·.frame) := by
  obtain ⟨e, he, hfe⟩ := List.mem_filterMap.mp hm
  rcases List.mem_cons.mp he with rfl | he
  · rw [hf] at hfe; exact .inl (Option.some.inj hfe).symm
  · exact .inr (List.mem_filterMap.mpr ⟨e, he, hfe⟩)
theorem hide_rest {h : Heap} {touch : Led} {q : Addr × Obj} (hq : h.get? q.1 = some q.2) (hne : ∀ p ∈ touch, p.1 ≠ q.1) : (hideAll h (touch.map (·.1))).get? q.1 = some q.2 :=
  hideAll_get _ hq fun hm => by
    obtain ⟨p, hp, e⟩ := List.mem_map.mp hm
    exact hne p hp e
section
variable {prog : Program} {w : World} {K : Frag} {p : Program} {loose : List Str} {hd : Option Value} {room : Nat} {f : Addr} {vs : List Value} {touch ro : Led} {Ret : Value → Led → Prop} {cls : String}
  {name qual : Str} {params : Arguments} {body : List Stmt} {scope : Scope} {dV kV doc pm cdv ct oc : Value} {an od : Option Addr} {osl : Array (Option Value)} {binds : List (Str × Value)}
theorem calls_of_body (ho : K.lookup f = some ⟨oc, od, .func (fnOf name qual params body scope dV kV doc pm an cdv ct), osl⟩) (hcd : codeIn K cdv qual = true)
    (hbind : bindArgs (fnOf name qual params body scope dV kV doc pm an cdv ct) ⟨vs, []⟩ = pure binds) (hloc : (binds.all fun x => decide (scope.names.lookup x.1 = some .local)) = true)
    (hco : scope.isCoroutine = false) (hgen : scope.isGenerator = false) (hk : scope.kind = .function) (hcell : ∀ x ∈ scope.names, x.2 ≠ .cell)
    {m : Str → Option Value} (hm : (fun y => binds.reverse.lookup y) = m)
    (hb : BodyTo prog w K p loose hd room qual scope f cdv body m touch ro Ret) : CallsTo prog w K p loose hd room f vs touch ro Ret := by
  intro mean mg mb dp un gd env outer A₀ base h₀ L m₀ s Q E rest B F X₀ N Ap Ro T hf hke hroom hret
  refine wpAny_call ?_
  have X := X₀.keeps F.keep
  refine codeAny_call_def (fd := fnOf name qual params body scope dV kV doc pm an cdv ct) (body := body) (binds := binds) (by show dp < recursionLimit; omega) (X _ _ ho) rfl (T.nolimit.keeps F.keep) (codeRec_of X hcd) rfl (BindsTo.of_eq hbind) hcell (locs hloc) (fun h₁ hns hk₁ => ?_) hco hgen hk
  obtain ⟨FG, BG, st, lv⟩ := groundX (A := cxA hd dp un gd env outer) (R := fun r s' => match r with | .ok (.ret v) => Q v s' | .ok _ => False | .error e => E e s') B F (nwL N) rfl hf hke
  rw [hm] at hns
  refine wpAny_mono (hb mean mg mb (dp + 1) (un + 3) gd (env :: outer) _ base _ s.heap.objs.size _ BG ⟨hns, fun b o e => hk₁ b o (of_hideAll _ e), Nat.le_of_eq (hideAll_size _ _)⟩ (X₀.keeps st)
    (fun p hp => ⟨hk₁ _ _ ((nwL N) p hp).1, Nat.ne_of_lt (Heap.lt_size ((nwL N) p hp).1), hideAll_none _ (List.mem_map_of_mem hp)⟩) (T.keeps st) (fun q hq => hide_rest (Ro q hq).1 (Ro q hq).2) (by omega)) (fun fl s' hl => ?_) fun _ _ y => y.elim
  obtain ⟨m', news', h', tk', rfl, F', N', hR⟩ := hl
  refine lv _ _ ⟨_, m', news', F', N', fun F3 N3 => ?_⟩
  refine hret _ _ _ _ hR F3 (nwApp N3 fun q hq => ⟨F'.keep _ _ (hide_rest ((nwR N) q hq).1 fun p hp => Ap p hp q hq), ((nwR N) q hq).2⟩) fun p hp q hq e => ?_
  have h1 := (N' p hp).2.2
  rw [e, hide_rest ((nwR N) q hq).1 fun p hp => Ap p hp q hq] at h1
  cases h1
theorem callsC_of_body (ho : K.lookup f = some ⟨oc, od, .func (fnOf name qual params body scope dV kV doc pm an cdv ct), osl⟩) (hcd : codeIn K cdv qual = true)
    (hbind : bindArgs (fnOf name qual params body scope dV kV doc pm an cdv ct) ⟨vs, []⟩ = pure binds) (hkind : (binds.all fun y => scope.names.lookup y.1 == some .local || scope.names.lookup y.1 == some .cell) = true)
    (hnd : ((cellsFrom 0 scope.names []).map (·.1)).Nodup)
    (hco : scope.isCoroutine = false) (hgen : scope.isGenerator = false) (hk : scope.kind = .function)
    (hb : BodyToC prog w K p loose hd room qual scope f cdv body binds touch ro Ret) : CallsTo prog w K p loose hd room f vs touch ro Ret := by
  intro mean mg mb dp un gd env outer A₀ base h₀ L m₀ s Q E rest B F X₀ N Ap Ro T hf hke hroom hret
  refine wpAny_call ?_
  have X := X₀.keeps F.keep
  obtain ⟨FG, BG, st, lv⟩ := groundX (A := cxA hd dp un gd env outer) (R := fun r s' => match r with | .ok (.ret v) => Q v s' | .ok _ => False | .error e => E e s') B F (nwL N) rfl hf hke
  refine codeAny_call_function (by show dp < recursionLimit; omega) (X _ _ ho) rfl hco hgen rfl (codeRec_of X hcd) (BindsTo.of_eq hbind _ _ _ _ ?_)
  refine wpAny_newFunctionEnv_cells hk (kindsX hkind _) fun env' he s' x => ?_
  subst he
  refine ⟨(T.nolimit.keeps F.keep).keeps x.toInCall.keep, codeAny_func ?_⟩
  obtain ⟨h₁, tk, rfl, _⟩ := x.done
  have hk₁ := x.toInCall.keep
  obtain ⟨cells, NC, Y⟩ := Cl.news (h₀ := s.heap) (Nat.le_refl _) fun n c hm => ⟨x.cell n c (lookup_of_mem_nodup (cellsFrom_names scope.names 0 (s.heap.objs.size + 1) [] [] rfl ▸ hnd) hm), x.above n c hm⟩
  refine wpAny_mono (hb mean mg mb (dp + 1) (un + 3) gd (env :: outer) _ base _ s.heap.objs.size _ cells BG ⟨x.toInCall.ns, fun b o e => hk₁ b o (of_hideAll _ e), Nat.le_of_eq (hideAll_size _ _)⟩ (X₀.keeps st)
    (nwApp (fun p hp => ⟨(NC p hp).1, (NC p hp).2.1, ?_⟩) (fun p hp => ⟨hk₁ _ _ ((nwL N) p hp).1, Nat.ne_of_lt (Heap.lt_size ((nwL N) p hp).1), hideAll_none _ (List.mem_map_of_mem hp)⟩)) Y
    (fun p hp => Heap.lt_size ((nwL N) p hp).1) (T.keeps st) (fun q hq => hide_rest (Ro q hq).1 (Ro q hq).2) (by omega)) (fun fl s' hl => ?_) fun _ _ y => y.elim
  · cases q : (hideAll s.heap (touch.map (·.1))).get? p.1 with
    | none => rfl
    | some o => have := of_hideAll _ q; rw [(NC p hp).2.2] at this; cases this
  obtain ⟨m', news', h', tk', rfl, F', N', hR⟩ := hl
  refine lv _ _ ⟨_, m', news', F', N', fun F3 N3 => ?_⟩
  refine hret _ _ _ _ hR F3 (nwApp N3 fun q hq => ⟨F'.keep _ _ (hide_rest ((nwR N) q hq).1 fun p hp => Ap p hp q hq), ((nwR N) q hq).2⟩) fun p hp q hq e => ?_
  have h1 := (N' p hp).2.2
  rw [e, hide_rest ((nwR N) q hq).1 fun p hp => Ap p hp q hq] at h1
  cases h1
theorem raises_of_body (ho : K.lookup f = some ⟨oc, od, .func (fnOf name qual params body scope dV kV doc pm an cdv ct), osl⟩) (hcd : codeIn K cdv qual = true)
    (hbind : bindArgs (fnOf name qual params body scope dV kV doc pm an cdv ct) ⟨vs, []⟩ = pure binds) (hloc : (binds.all fun x => decide (scope.names.lookup x.1 = some .local)) = true)
    (hco : scope.isCoroutine = false) (hgen : scope.isGenerator = false) (hk : scope.kind = .function) (hcell : ∀ x ∈ scope.names, x.2 ≠ .cell)
    {m : Str → Option Value} (hm : (fun y => binds.reverse.lookup y) = m)
    (hb : BodyRaises prog w K p loose room qual scope f cdv body m touch ro cls) : RaisesTo prog w K p loose room f vs touch ro cls := by
  intro mean mg mb dp un gd env outer A₀ base h₀ L m₀ s Q E rest B F X₀ N Ap Ro T hf hke hroom hret
  refine wpAny_call ?_
  have X := X₀.keeps F.keep
  refine codeAny_call_def (fd := fnOf name qual params body scope dV kV doc pm an cdv ct) (body := body) (binds := binds) (by show dp < recursionLimit; omega) (X _ _ ho) rfl (T.nolimit.keeps F.keep) (codeRec_of X hcd) rfl (BindsTo.of_eq hbind) hcell (locs hloc) (fun h₁ hns hk₁ => ?_) hco hgen hk
  obtain ⟨FG, BG, st, lv⟩ := groundX (A := cxA none dp un gd env outer) (R := fun _ _ => True) B F (nwL N) rfl hf hke
  rw [hm] at hns
  refine wpAny_mono (hb mean mg mb dp un gd env outer base _ s.heap.objs.size _ E BG ⟨hns, fun b o e => hk₁ b o (of_hideAll _ e), Nat.le_of_eq (hideAll_size _ _)⟩ (X₀.keeps st)
    (fun p hp => ⟨hk₁ _ _ ((nwL N) p hp).1, Nat.ne_of_lt (Heap.lt_size ((nwL N) p hp).1), hideAll_none _ (List.mem_map_of_mem hp)⟩) (T.keeps st) (fun q hq => hide_rest (Ro q hq).1 (Ro q hq).2) hroom ?_) (fun _ _ x => x.elim) (fun _ _ x => x)
  intro e h' tk' R U
  obtain ⟨Bh, a0, hB, hBG, _, hfl⟩ := R
  have hrest : ∀ q ∈ rest, (hideAll s.heap (touch.map (·.1))).get? q.1 = some q.2 := fun q hq => hide_rest ((nwR N) q hq).1 fun p hp => Ap p hp q hq
  have hnf : ∀ q ∈ rest, q.1 ∉ (env :: outer).filterMap (·.frame) := fun q hq hm => by
    rcases fs_mem hf hm with z | z
    · exact ((nwR N) q hq).2.1 z
    · obtain ⟨_, o, ho', _⟩ := B.frames.mem z
      rw [((nwR N) q hq).2.2] at ho'
      cases ho'
  have nr : ∀ b o, h₀.get? b = some o → b ∉ rest.map (·.1) := fun b o q hm => by
    obtain ⟨x, hx, rfl⟩ := List.mem_map.mp hm
    rw [((nwR N) x hx).2.2] at q
    cases q
  refine hret (hideAll (hideAll s.heap (touch.map (·.1))) (rest.map (·.1))) e h' tk' ⟨?_, fun b o q => hideAll_get _ (FG.keep b o q) (nr b o q), F.above⟩ ⟨Bh, a0, hB, fun b o q nm => hBG b o (of_hideAll _ q) nm, fun q hq => ⟨hBG _ _ (hrest q hq) (hnf q hq), hideAll_none _ (List.mem_map_of_mem hq), fresh_of_stays B.stays ((nwR N) q hq).2.2⟩, hfl⟩ (fun b o q hd => U b o (of_hideAll _ q) hd)
  obtain ⟨oL, es, ep, hLg, r⟩ := FG.ns
  exact ⟨oL, es, ep, hideAll_get _ hLg fun hm => by
    obtain ⟨x, hx, e⟩ := List.mem_map.mp hm
    exact ((nwR N) x hx).2.1 e, r⟩
theorem callsS_of_body (ho : K.lookup f = some ⟨oc, od, .func (fnOf name qual params body scope dV kV doc pm an cdv ct), osl⟩) (hcd : codeIn K cdv qual = true)
    (hbind : bindArgs (fnOf name qual params body scope dV kV doc pm an cdv ct) ⟨vs, []⟩ = pure binds) (hloc : (binds.all fun x => decide (scope.names.lookup x.1 = some .local)) = true)
    (hco : scope.isCoroutine = false) (hgen : scope.isGenerator = false) (hk : scope.kind = .function) (hcell : ∀ x ∈ scope.names, x.2 ≠ .cell)
    {m : Str → Option Value} (hm : (fun y => binds.reverse.lookup y) = m)
    (hb : BodyToS prog w K p loose room qual scope f cdv body m touch ro Ret) : CallsToS prog w K p loose room f vs touch ro Ret := by
  intro mean mg mb dp un gd env outer A₀ base h₀ L m₀ s Q E rest B F X₀ N Ap Ro T XB TB D hf hke hroom hret
  refine wpAny_call ?_
  have X := X₀.keeps F.keep
  refine codeAny_call_def (fd := fnOf name qual params body scope dV kV doc pm an cdv ct) (body := body) (binds := binds) (by show dp < recursionLimit; omega) (X _ _ ho) rfl (T.nolimit.keeps F.keep) (codeRec_of X hcd) rfl (BindsTo.of_eq hbind) hcell (locs hloc) (fun h₁ hns hk₁ => ?_) hco hgen hk
  obtain ⟨FG, BG, st, _⟩ := groundX (A := cxA none dp un gd env outer) (R := fun _ _ => True) B F (nwL N) rfl hf hke
  obtain ⟨oL, es, ep, hLg, hLd, hLk, hLf⟩ := FG.ns
  have hNs : ∀ (sl : Array (Option Value)) h', h'.get? L = some { oL with slots := sl } → Heap.Ns h' L m₀ := fun sl h' e => ⟨_, es, ep, e, hLd, hLk, hLf⟩
  rw [hm] at hns
  refine wpAny_mono (hb mean mg mb dp un gd env outer base _ s.heap.objs.size _ BG ⟨hns, fun b o e => hk₁ b o (of_hideAll _ e), Nat.le_of_eq (hideAll_size _ _)⟩ (X₀.keeps st)
    (fun p hp => ⟨hk₁ _ _ ((nwL N) p hp).1, Nat.ne_of_lt (Heap.lt_size ((nwL N) p hp).1), hideAll_none _ (List.mem_map_of_mem hp)⟩) (T.keeps st) (fun q hq => ⟨hide_rest (Ro q hq).1 (Ro q hq).2.2, (Ro q hq).2.1⟩) XB TB (fun b hb => ?_) hroom) (fun fl s' hl => ?_) fun _ _ y => y.elim
  · rcases fs_mem hf hb with rfl | hb
    · exact ⟨oL, es, ep, hLg, hLd⟩
    · obtain ⟨o, es', n', ho', hd'⟩ := D b hb
      exact ⟨o, es', n', st b o ho', hd'⟩
  have nL₀ : h₀.get? L = none := kts_self F
  obtain ⟨g', m', news', h', tk', rfl, T', F', N', hR⟩ := hl
  obtain ⟨sl, hs⟩ := T'.up hLg
  obtain ⟨T₁, S₁⟩ := kts_turn_at (h := h') (fs := outer.filterMap (·.frame)) (g := h₀)
    (fun b hb => by
      obtain ⟨_, o, ho', _⟩ := B.frames.mem hb
      exact ⟨o, ho'⟩)
    (fun b o e nmem => F'.keep b o (T'.other b o (st b o e) (fun q => by
      rcases fs_mem hf q with z | z
      · rw [z, nL₀] at e
        cases e
      · exact nmem z)))
    (fun b o e hm => by
      obtain ⟨sl', hs'⟩ := T'.up (st b o e)
      exact ⟨sl', F'.keep _ _ hs'⟩)
  have B₃ : Below A₀ base outer (ktsHeap h' (outer.filterMap (·.frame)) h₀) := ⟨B.stack, fun b o e => T₁.other b o (B.stays b o e) (fun hm => by
    rw [(B.frames.mem hm).1] at e
    cases e), B.frames.of_keeps fun b o e _ => by
    obtain ⟨sl', hs'⟩ := T₁.up e
    exact ⟨_, hs', rfl⟩⟩
  have hrest : ∀ q ∈ rest, (hideAll s.heap (touch.map (·.1))).get? q.1 = some q.2 := fun q hq => hide_rest ((nwR N) q hq).1 fun p hp => Ap p hp q hq
  have hnf : ∀ q ∈ rest, q.1 ∉ (env :: outer).filterMap (·.frame) := fun q hq hm => by
    rcases fs_mem hf hm with z | z
    · exact ((nwR N) q hq).2.1 z
    · obtain ⟨_, o, ho', _⟩ := B.frames.mem z
      rw [((nwR N) q hq).2.2] at ho'
      cases ho'
  have hrest' : ∀ q ∈ rest, g'.get? q.1 = some q.2 := fun q hq => T'.other _ _ (hrest q hq) (hnf q hq)
  refine hret _ news' _ h' tk' hR T₁ ⟨hNs sl _ (F'.keep _ _ hs), S₁, by rw [T₁.size]; exact F.above⟩ (nwApp (fun p hp => ⟨(N' p hp).1, fun q => ?_, ?_⟩) fun q hq => ⟨F'.keep _ _ (hrest' q hq), ((nwR N) q hq).2.1, T₁.none_ _ ((nwR N) q hq).2.2⟩)
    (fun p hp q hq e => by
      have h1 := (N' p hp).2.2
      rw [e, hrest' q hq] at h1
      cases h1) B₃ (XB.keeps B₃.stays) (TB.keeps B₃.stays) (D.turn T₁)
  · have := (N' p hp).2.2
    rw [q, hs] at this
    cases this
  · refine T₁.none_ _ ?_
    cases q : h₀.get? p.1 with
    | none => rfl
    | some o =>
      obtain ⟨sl', hs'⟩ := T'.up (st _ _ q)
      have := (N' p hp).2.2
      rw [hs'] at this
      cases this
theorem calls_use {mean : ExcName → Option Value} {mg mb : Str → Option Value} {dp un : Nat} {gd : Option (List Code)} {env : Env} {outer : List Env} {A₀ : Around} {base h₀ : Heap} {L : Addr} {m : Str → Option Value} {s : Shared} {Q E : Value → Shared → Prop} {rest : Led}
    (C : CallsTo prog w K p loose hd room f vs touch ro Ret)
    (B : Below A₀ base outer h₀) (F : Fr h₀ L s.heap m) (X : K.In h₀) (N : News h₀ L s.heap (touch ++ rest)) (T : Top p loose mean mg mb h₀) (Ap : ∀ p ∈ touch, ∀ q ∈ rest, p.1 ≠ q.1) (Ro : ∀ q ∈ ro, s.heap.get? q.1 = some q.2 ∧ ∀ p ∈ touch, p.1 ≠ q.1)
    (hf : env.frame = some L) (hk : env.scope.kind = .function) (hr : dp + room < recursionLimit)
    (ret : ∀ v news' h' tk', Ret v news' → Fr h₀ L h' m → News h₀ L h' (news' ++ rest) → (∀ p ∈ news', ∀ q ∈ rest, p.1 ≠ q.1) → Q v { s with heap := h', toks := tk' }) :
    wpAny (model prog w) (cxA hd dp un gd env outer) (call (.ref f) vs) Q E s := C _ _ _ _ _ _ _ _ _ _ _ _ _ _ _ _ _ B F X N Ap Ro T hf hk hr ret
theorem raises_use {mean : ExcName → Option Value} {mg mb : Str → Option Value} {dp un : Nat} {gd : Option (List Code)} {env : Env} {outer : List Env} {A₀ : Around} {base h₀ : Heap} {L : Addr} {m : Str → Option Value} {s : Shared} {Q E : Value → Shared → Prop} {rest : Led}
    (C : RaisesTo prog w K p loose room f vs touch ro cls)
    (B : Below A₀ base outer h₀) (F : Fr h₀ L s.heap m) (X : K.In h₀) (N : News h₀ L s.heap (touch ++ rest)) (T : Top p loose mean mg mb h₀) (Ap : ∀ p ∈ touch, ∀ q ∈ rest, p.1 ≠ q.1) (Ro : ∀ q ∈ ro, s.heap.get? q.1 = some q.2 ∧ ∀ p ∈ touch, p.1 ≠ q.1)
    (hf : env.frame = some L) (hk : env.scope.kind = .function) (hr : dp + room < recursionLimit)
    (ret : ∀ G e h' tk', Fr h₀ L G m → RaisedSN base G (env :: outer) e (.type cls) rest h' → G.UpToSlots h' → E (.ref e) { s with heap := h', toks := tk' }) :
    wpAny (model prog w) (cxA none dp un gd env outer) (call (.ref f) vs) Q E s := C _ _ _ _ _ _ _ _ _ _ _ _ _ _ _ _ _ B F X N Ap Ro T hf hk hr ret
theorem callsS_use {mean : ExcName → Option Value} {mg mb : Str → Option Value} {dp un : Nat} {gd : Option (List Code)} {env : Env} {outer : List Env} {A₀ : Around} {base h₀ : Heap} {L : Addr} {m : Str → Option Value} {s : Shared} {Q E : Value → Shared → Prop} {rest : Led}
    (C : CallsToS prog w K p loose room f vs touch ro Ret)
    (B : Below A₀ base outer h₀) (F : Fr h₀ L s.heap m) (X : K.In h₀) (N : News h₀ L s.heap (touch ++ rest)) (T : Top p loose mean mg mb h₀) (Ap : ∀ p ∈ touch, ∀ q ∈ rest, p.1 ≠ q.1) (Ro : ∀ q ∈ ro, s.heap.get? q.1 = some q.2 ∧ q.1 ∉ (env :: outer).filterMap (·.frame) ∧ ∀ p ∈ touch, p.1 ≠ q.1)
    (XB : K.In base) (TB : Top p loose mean mg mb base) (D : KtsDicts (outer.filterMap (·.frame)) h₀) (hf : env.frame = some L) (hk : env.scope.kind = .function) (hr : dp + room < recursionLimit)
    (ret : ∀ v news' h₀' h' tk', Ret v news' → KtsTurn (outer.filterMap (·.frame)) h₀ h₀' → Fr h₀' L h' m → News h₀' L h' (news' ++ rest) → (∀ p ∈ news', ∀ q ∈ rest, p.1 ≠ q.1) → Below A₀ base outer h₀' → K.In h₀' → Top p loose mean mg mb h₀' → KtsDicts (outer.filterMap (·.frame)) h₀' → Q v { s with heap := h', toks := tk' }) :
    wpAny (model prog w) (cxA none dp un gd env outer) (call (.ref f) vs) Q E s := C _ _ _ _ _ _ _ _ _ _ _ _ _ _ _ _ _ B F X N Ap Ro T XB TB D hf hk hr ret
end
theorem turn_nil {h₀ h₀' h : Heap} {L : Addr} {m : Str → Option Value} {news : Led} (T : KtsTurn [] h₀ h₀') (F : Fr h₀' L h m) (N : News h₀' L h news) : Fr h₀ L h m ∧ News h₀ L h news := by
  have e : ∀ b o, h₀.get? b = some o → h₀'.get? b = some o := fun b o q => T.other b o q (by simp)
  refine ⟨⟨F.ns, fun b o q => F.keep b o (e b o q), by rw [← T.size]; exact F.above⟩, fun p hp => ⟨(N p hp).1, (N p hp).2.1, ?_⟩⟩
  cases q : h₀.get? p.1 with
  | none => rfl
  | some o => have := e _ _ q; rw [(N p hp).2.2] at this; cases this
/-- a call of the turning kind out of the lowest frame -/
theorem callsS_use0 {prog : Program} {w : World} {K : Frag} {p : Program} {loose : List Str} {room : Nat} {f : Addr} {vs : List Value} {touch ro : Led} {Ret : Value → Led → Prop}
    {mean : ExcName → Option Value} {mg mb : Str → Option Value} {dp un : Nat} {gd : Option (List Code)} {env : Env} {A₀ : Around} {h₀ : Heap} {L : Addr} {m : Str → Option Value} {s : Shared} {Q E : Value → Shared → Prop} {rest : Led}
    (C : CallsToS prog w K p loose room f vs touch ro Ret)
    (B : Below A₀ h₀ [] h₀) (F : Fr h₀ L s.heap m) (X : K.In h₀) (N : News h₀ L s.heap (touch ++ rest)) (T : Top p loose mean mg mb h₀) (Ap : ∀ p ∈ touch, ∀ q ∈ rest, p.1 ≠ q.1) (Ro : ∀ q ∈ ro, s.heap.get? q.1 = some q.2 ∧ q.1 ≠ L ∧ ∀ p ∈ touch, p.1 ≠ q.1)
    (hf : env.frame = some L) (hk : env.scope.kind = .function) (hr : dp + room < recursionLimit)
    (ret : ∀ v news' h' tk', Ret v news' → Fr h₀ L h' m → News h₀ L h' (news' ++ rest) → (∀ p ∈ news', ∀ q ∈ rest, p.1 ≠ q.1) → Q v { s with heap := h', toks := tk' }) :
    wpAny (model prog w) (cxA none dp un gd env []) (call (.ref f) vs) Q E s := by
  refine callsS_use C B F X N T Ap (fun q hq => ⟨(Ro q hq).1, ?_, (Ro q hq).2.2⟩) X T ktsDicts_nil hf hk hr ?_
  · simpa [hf] using (Ro q hq).2.1
  · intro v news' h₀' h' tk' hR T' F' N' Ap' _ _ _ _
    obtain ⟨F2, N2⟩ := turn_nil T' F' N'
    exact ret v news' h' tk' hR F2 N2 Ap'
theorem apart1 {a : Addr} {o : Obj} {rest : Led} (h : ∀ q ∈ rest, q.1 < a) : ∀ p ∈ [(a, o)], ∀ q ∈ rest, p.1 ≠ q.1 := by
  intro p hp q hq
  rw [List.mem_singleton] at hp
  subst hp
  exact Nat.ne_of_gt (h q hq)
theorem look_cons (y x : Str) (v : Value) (r : List (Str × Value)) : List.lookup y ((x, v) :: r) = if y = x then some v else List.lookup y r := by
  rw [List.lookup_cons]
  by_cases h : y = x
  · subst h; simp
  · have e : (y == x) = false := by simpa using h
    rw [e, if_neg h]
theorem look1 (x : Str) (v : Value) : (fun y => ([(x, v)] : List (Str × Value)).reverse.lookup y) = fun y => if y = x then some v else none := by
  funext y
  simp only [List.reverse_cons, List.reverse_nil, List.nil_append, look_cons, List.lookup_nil]
theorem look2 (x z : Str) (v u : Value) : (fun y => ([(x, v), (z, u)] : List (Str × Value)).reverse.lookup y) = fun y => if y = z then some u else if y = x then some v else none := by
  funext y
  simp only [List.reverse_cons, List.reverse_nil, List.nil_append, List.cons_append, look_cons, List.lookup_nil]
theorem look3 (x z q : Str) (v u r : Value) : (fun y => ([(x, v), (z, u), (q, r)] : List (Str × Value)).reverse.lookup y) = fun y => if y = q then some r else if y = z then some u else if y = x then some v else none := by
  funext y
  simp only [List.reverse_cons, List.reverse_nil, List.nil_append, List.cons_append, look_cons, List.lookup_nil]
end
section
open PySem PySem.W PyProof.Rows PySem.Calls PySem.Spec
def vval (l : List UInt8) : Nat := l.foldl (fun a x => a * 64 + x.toNat % 64) 0
theorem vval_snoc (l : List UInt8) (x : UInt8) : vval (l ++ [x]) = vval l * 64 + x.toNat % 64 := by
  simp [vval, List.foldl_append]
theorem vval_lt (l : List UInt8) : vval l < 2 ^ (6 * l.length) := by
  have h : ∀ (l : List UInt8) (a k : Nat), a < 2 ^ k → l.foldl (fun a x => a * 64 + x.toNat % 64) a < 2 ^ (k + 6 * l.length) := by
    intro l
    induction l with
    | nil => intro a k h; simpa using h
    | cons x l ih =>
      intro a k h
      rw [List.foldl_cons, List.length_cons, show k + 6 * (l.length + 1) = (k + 6) + 6 * l.length by omega]
      refine ih _ _ ?_
      rw [Nat.pow_add]
      have : x.toNat % 64 < 64 := Nat.mod_lt _ (by decide)
      have h2 : (a + 1) * 64 ≤ 2 ^ k * 64 := Nat.mul_le_mul_right _ h
      omega
  simpa [vval] using h l 0 0 (by decide)
theorem and64 : ∀ x : Fin 256, Builtin.bitAnd ((x.val : Nat) : Int) 64 = ((x.val / 64 % 2 * 64 : Nat) : Int) := by decide +kernel
theorem and64_octet (c : UInt8) : Builtin.bitAnd (c.toNat : Int) 64 = ((c.toNat / 64 % 2 * 64 : Nat) : Int) := and64 ⟨c.toNat, c.toNat_lt⟩
theorem and63_octet (c : UInt8) : Builtin.bitAnd (c.toNat : Int) 63 = ((c.toNat % 64 : Nat) : Int) := by
  rw [bitAnd_m6]; omega
theorem bitNot_bitNot (x : Int) : Builtin.bitNot (Builtin.bitNot x) = x := by
  unfold Builtin.bitNot; omega
theorem bitOr_nat (x y : Nat) : Builtin.bitOr (x : Int) (y : Int) = ((x ||| y : Nat) : Int) := by
  unfold Builtin.bitOr Builtin.bitAnd
  have hx : decide (0 ≤ Builtin.bitNot (x : Int)) = false := by unfold Builtin.bitNot; simp; omega
  have hy : decide (0 ≤ Builtin.bitNot (y : Int)) = false := by unfold Builtin.bitNot; simp; omega
  rw [hx, hy]
  simp only [bitNot_bitNot, Int.toNat_natCast]
theorem shl6 (a m : Nat) (hm : m < 64) : Builtin.bitOr ((a : Int) * 2 ^ (6 : Int).toNat) (m : Int) = ((a * 64 + m : Nat) : Int) := by
  rw [show ((a : Int) * 2 ^ (6 : Int).toNat) = ((a * 64 : Nat) : Int) by simp, bitOr_nat]
  have h := Nat.shiftLeft_add_eq_or_of_lt (i := 6) (b := m) (by simpa using hm) a
  rw [Nat.shiftLeft_eq] at h
  rw [← h]
end
section
open PySem PySem.W PyProof.Rows PySem.Calls PySem.Spec
set_option maxRecDepth 100000
abbrev itO (b : Array UInt8) (t : Tok) (i : Nat) : Obj := { cls := .type "bytes_iterator", data := .fields #[.bytes b t, .int i 0] }
theorem isIt {h : Heap} {a : Addr} {b : Array UInt8} {t : Tok} {i : Nat} (e : h.get? a = some (itO b t i)) : KBw.IsBytesIter h a b t i := ⟨_, e, rfl, rfl⟩
section
variable {prog : Program} {w : World} {A : Around} {E : Value → Shared → Prop} {s : Shared} {h₀ : Heap} {L it : Addr} {m : Str → Option Value} {news : Led} {b : Array UInt8} {t : Tok} {i : Nat}
theorem iter_bytes {Q : Value → Shared → Prop} (F : Fr h₀ L s.heap m) (N : News h₀ L s.heap news)
    (h : ∀ (I : Addr) h', Fr h₀ L h' m → News h₀ L h' ((I, itO b t 0) :: news) → (∀ p ∈ news, p.1 < I) → Q (.ref I) { s with heap := h' }) :
    wpAny (model prog w) A (call (.builtin "iter") [.bytes b t]) Q E s := by
  refine call_function_entry (by decide +kernel) (by decide +kernel) kdk_entry_iter (kdk_args_iter _) ?_
  unfold Builtin.«iter»
  refine wpAny_bind (m := someArgs "iter" 1 2 _) (wpAny_of_eq (a := [Value.bytes b t]) (by first | rfl | kernel_rfl!) ?_)
  show wpAny _ _ (pyIter (.bytes b t) >>= _) _ _ _
  refine wpAny_bind (KBw.pyIter_bytes ?_)
  exact wpAny_pure ⟨_, rfl, h _ _ (F.push _) (News.push F N _ rfl) fun q hq => Heap.lt_size (N q hq).1⟩
theorem next_item {c : UInt8} {Q : Value → Shared → Prop} (F : Fr h₀ L s.heap m) (N : News h₀ L s.heap ((it, itO b t i) :: news)) (Ap : ∀ p ∈ news, p.1 ≠ it) (hx : b[i]? = some c)
    (h : ∀ h' u tk, Fr h₀ L h' m → News h₀ L h' ((it, itO b t (i + 1)) :: news) → Q (.int (c.toNat : Int) u) { s with heap := h', toks := tk }) :
    wpAny (model prog w) A (call (.builtin "next") [.ref it]) Q E s := by
  have hm := N (it, itO b t i) (.head _)
  have hit := isIt hm.1
  obtain ⟨o, ho, hc, hd⟩ := id hit
  refine call_function_entry (by decide +kernel) (by decide +kernel) kdk_entry_next (kdk_args_next _) ?_
  unfold Builtin.«next»
  refine wpAny_bind (m := someArgs "next" 1 2 _) (wpAny_of_eq (a := [Value.ref it]) (by first | rfl | kernel_rfl!) ?_)
  dsimp only
  refine wpAny_bind (wpAny_specialOf (name := Str.ofString "__next__") (KBw.iter_typeIs hit) KBw.slot_next.lookup ?_)
  refine wpAny_ite_split (fun hab => absurd hab (by decide)) (fun _ => ?_)
  refine wpAny_bind ?_
  refine wpAny_callSpecial?_slot (name := PySem.Str.ofString "__next__") (KBw.iter_typeIs hit) KBw.slot_next
    (wpAny_call_entry KBw.slot_next (KBw.iter_typeIs hit) KBw.entry_next ?_ (KBw.args_next _))
  show wpAny _ _ (field (.ref it) 0 >>= _) _ _ s
  refine wpAny_bind (wpAny_field ho hd (x := .bytes b t) rfl ?_)
  show wpAny _ _ (if (Value.bytes b t == Value.none) = true then _ else _) _ _ s
  rw [if_neg (show ¬ ((Value.bytes b t == Value.none) = true) from Bool.false_ne_true)]
  show wpAny _ _ (field (.ref it) 1 >>= _) _ _ s
  refine wpAny_bind (wpAny_field ho hd (x := .int i 0) rfl ?_)
  refine wpAny_bind (wpAny_of_eq (a := b) rfl ?_)
  simp only [Int.toNat_natCast, hx]
  refine wpAny_bind (wpAny_setField ho hd (by simp) (wpAny_bind (wpAny_mkInt (wpAny_pure ⟨_, rfl, wpAny_pure ⟨_, rfl, h _ _ _ (F.change (Heap.SameBut.update ..) hm.2.1 hm.2.2) ?_⟩⟩))))
  refine News.setIn (own := []) N (fun _ hp => nomatch hp) Ap (Heap.SameBut.update ..) ?_
  rw [Heap.get?_update_self _ hm.1 rfl]
  rfl
theorem next_stop {Q : Value → Shared → Prop} (hh : A.handled = none) (F : Fr h₀ L s.heap m) (N : News h₀ L s.heap ((it, itO b t i) :: news)) (Ap : ∀ p ∈ news, p.1 ≠ it) (hx : b[i]? = none)
    (h : ∀ h₁ h' e, Fr h₀ L h₁ m → News h₀ L h₁ news → Heap.NewExc h₁ h' e "StopIteration" → E (.ref e) { s with heap := h' }) :
    wpAny (model prog w) A (call (.builtin "next") [.ref it]) Q E s := by
  have hm := N (it, itO b t i) (.head _)
  have hit := isIt hm.1
  obtain ⟨o, ho, hc, hd⟩ := id hit
  refine call_function_entry (by decide +kernel) (by decide +kernel) kdk_entry_next (kdk_args_next _) ?_
  unfold Builtin.«next»
  refine wpAny_bind (m := someArgs "next" 1 2 _) (wpAny_of_eq (a := [Value.ref it]) (by first | rfl | kernel_rfl!) ?_)
  dsimp only
  refine wpAny_bind (wpAny_specialOf (name := Str.ofString "__next__") (KBw.iter_typeIs hit) KBw.slot_next.lookup ?_)
  refine wpAny_ite_split (fun hab => absurd hab (by decide)) (fun _ => ?_)
  refine wpAny_bind ?_
  refine wpAny_callSpecial?_slot (name := PySem.Str.ofString "__next__") (KBw.iter_typeIs hit) KBw.slot_next
    (wpAny_call_entry KBw.slot_next (KBw.iter_typeIs hit) KBw.entry_next ?_ (KBw.args_next _))
  show wpAny _ _ (field (.ref it) 0 >>= _) _ _ s
  refine wpAny_bind (wpAny_field ho hd (x := .bytes b t) rfl ?_)
  show wpAny _ _ (if (Value.bytes b t == Value.none) = true then _ else _) _ _ s
  rw [if_neg (show ¬ ((Value.bytes b t == Value.none) = true) from Bool.false_ne_true)]
  show wpAny _ _ (field (.ref it) 1 >>= _) _ _ s
  refine wpAny_bind (wpAny_field ho hd (x := .int i 0) rfl ?_)
  refine wpAny_bind (wpAny_of_eq (a := b) rfl ?_)
  simp only [Int.toNat_natCast, hx]
  refine wpAny_bind (wpAny_rule (wpAny_bind (wpAny_setField ho hd (by simp) ?_)))
  show wpAny _ _ (newExc (.type "StopIteration") [] >>= _) _ _ _
  refine wpAny_bind ?_
  simp only [newExc, newTuple]
  refine wpAny_bind (wpAny_newObj_type ?_ (by size_fits))
  refine wpAny_bind (m := firstArgMember _ _) (wpAny_of_eq (a := Value.none) (by first | rfl | (simp only [firstArgMember]; rfl)) ?_)
  refine wpAny_newObj_type ?_ (by size_fits)
  simp only [raiseNew]
  refine wpAny_bind (wpAny_handled ?_)
  rw [show A.in1.in1.handled = none from hh]
  refine wpAny_bind (wpAny_pure (wpAny_throw ?_))
  refine h (s.heap.update it _) _ _ (F.change (Heap.SameBut.update ..) hm.2.1 hm.2.2) (fun p hp => ?_) ⟨fun b o e => Heap.get?_push_of_some _ (Heap.get?_push_of_some _ e), ?_, ?_⟩
  · have hq := N p (.tail _ hp)
    exact ⟨(Heap.get?_update_ne _ _ _ _ (Ap p hp)).trans hq.1, hq.2⟩
  · exact Heap.get?_none_of_le (by rw [Heap.size_push]; exact Nat.le_succ _)
  · exact ⟨_, _, Heap.get?_push_size _ rfl, rfl, rfl⟩
end
end
section
open PySem PySem.W PyProof.Rows PySem.Calls PySem.Spec
/-- the letters of a number -/
def apL (n : Nat) : List UInt8 := if n = 0 then [] else apL (n / 16) ++ [(65 + n % 16).toUInt8]
termination_by n
decreasing_by omega
def apOct (m : Nat) : UInt8 := (65 + m).toUInt8
theorem ap_pick : ∀ m : Fin 16, KBy.picked #[65, 66, 67, 68, 69, 70, 71, 72, 73, 74, 75, 76, 77, 78, 79, 80] (some (m.val : Int)) (some ((m.val : Int) + 1)) = #[(65 + m.val).toUInt8] := by decide +kernel
theorem ap_pick' {k : Int} (hk : 0 ≤ k) : KBy.picked #[65, 66, 67, 68, 69, 70, 71, 72, 73, 74, 75, 76, 77, 78, 79, 80] (some (k.fmod 16)) (some (k.fmod 16 + 1)) = #[(65 + k.toNat % 16).toUInt8] := by
  have h := ap_pick ⟨k.toNat % 16, by omega⟩
  have e : k.fmod 16 = ((k.toNat % 16 : Nat) : Int) := by rw [Int.fmod_eq_emod_of_nonneg _ (by decide)]; omega
  rw [e]; exact h
local macro_rules | `(tactic| walk_at "mine step") => `(tactic| first | (k_unfold; (try dsimp only)) | (k_end; wrow_close) | walk1 | (dsimp only; walk1) | (leave1; walk_say "STEP leave1"; try dsimp only))
local macro_rules | `(tactic| walk_at "mine while") => `(tactic| repeat' ((fail_if_success (with_reducible show wpAny _ _ (exec (Stmt.While _ _ _ _) _) _ _ _)); (fail_if_success (with_reducible show RetPost _ _ _ _ _ _)); (fail_if_success (with_reducible show KswEnd _ _ _ _ _ _ _ _ _ _ _ _)); (fail_if_success (with_reducible show wpAny _ _ (subscriptTail _ _ (Value.bytes _ _) _) _ _ _)); (fail_if_success (with_reducible show wpAny _ _ (binaryOp Operator.Add (Value.bytes _ _) (Value.bytes _ _)) _ _ _)); walk_at "mine step"))
set_option maxRecDepth 100000
set_option maxHeartbeats 8000000
theorem apL_pos {n : Nat} (h : n ≠ 0) : apL n = apL (n / 16) ++ [(65 + n % 16).toUInt8] := by
  rw [apL, if_neg h]
theorem apL_zero : apL 0 = [] := by
  rw [apL, if_pos rfl]
theorem int2ap (w : World) (n : Int) (t : Tok) (hsz : (apL n.natAbs).length ≤ 10000) : CallsTo Challenge.rw_pu0001_01.row.prog w (hd01.heap_39 w.params) hd01.view_39 (looseW hd01.view_39 []) none 1 28 [.int n t] [] [] (fun v news' => (∃ u, v = .bytes (apL n.natAbs).toArray u) ∧ news' = []) := by
  k_fill
  refine calls_of_body (binds := [(Str.ofString "num", .int n t)]) (by k_is) (by k_is) rfl rfl rfl rfl rfl (by decide) (look1 _ _) ?_
  intro mean mg mb dp un gd outer A₀ base g L s B F X N T Ro hr
  walk_at "mine while"
  refine' ksw_while (σ := Int × Array UInt8 × Tok × Tok) (fun _ => []) (fun c => [(Str.ofString "num", .int c.1 c.2.2.1), (Str.ofString "val", .bytes c.2.1 c.2.2.2)]) (fun _ => True) [Str.ofString "mod"] (fun c => 0 ≤ c.1 ∧ apL c.1.toNat ++ c.2.1.toList = apL n.natAbs) (fun c => c.1.toNat) (_, _, _, _) (by assumption) (by assumption) trivial ?kk ?kp ?turn
  case kk => kst_all
  case kp => 
    refine ⟨?_, ?_⟩
    · show 0 ≤ (if n < 0 then -n else n)
      omega
    · show apL (if n < 0 then -n else n).toNat ++ [] = _
      rw [show (if n < 0 then -n else n).toNat = n.natAbs by omega]; simp
  case turn =>
    intro c u h tk _ hc F2 N2
    obtain ⟨k, v, t1, t2⟩ := c
    dsimp only [kstB] at F2 hc ⊢
    obtain ⟨hk0, hc⟩ := hc
    walk_at "mine while"
    · have hk : k.toNat ≠ 0 := by omega
      rw [apL_pos hk] at hc
      have hl := congrArg List.length hc
      simp only [List.length_append, List.length_cons, List.length_nil, Array.length_toList] at hl
      refine KBc.slice_K (s := ⟨_, _, _, _, _⟩) (by assumption) (by assumption) rfl (by constructor) (by constructor) (by decide) ?_
      intro h3 t3 k3 F3 N3 _
      rw [ap_pick' hk0]
      walk_at "mine while"
      refine KBy.add_bytes (by simp; omega) ?_
      intro t4 k4
      walk_at "mine while"
      refine' ksw_end (_, _, _, _) (by assumption) (by assumption) (fun p hp => nomatch hp) trivial ?kk (by ksw_same) ?kp ?km
      case kk => kst_all
      case kp =>
        dsimp only
        have e : (k.fdiv 16).toNat = k.toNat / 16 := by rw [Int.fdiv_eq_ediv_of_nonneg _ (by decide)]; omega
        refine ⟨by rw [Int.fdiv_eq_ediv_of_nonneg _ (by decide)]; omega, ?_⟩
        rw [e, ← hc]; simp
      case km =>
        show (k.fdiv 16).toNat < k.toNat
        rw [Int.fdiv_eq_ediv_of_nonneg _ (by decide)]; omega
    · refine retPost (by assumption) (by assumption) ⟨?_, rfl⟩
      have hk : k = 0 := by omega
      subst hk
      rw [Int.toNat_zero, apL_zero, List.nil_append] at hc
      exact ⟨_, by rw [← hc, Array.toArray_toList]⟩
end
section
open PySem PySem.W PyProof.Rows PySem.Calls PySem.Spec
/-- where the reader stands: j octets of q are read, the last one is bb, their value v -/
def PvAt (q : List UInt8) (bb v : Int) (j : Nat) : Prop := 1 ≤ j ∧ j ≤ q.length ∧ bb = ((q[j - 1]?.getD 0).toNat : Int) ∧ v = (vval (q.take j) : Int)
theorem pvAt_one {q : List UInt8} (h : 1 ≤ q.length) : PvAt q ((q[0]?.getD 0).toNat : Int) (Builtin.bitAnd ((q[0]?.getD 0).toNat : Int) 63) 1 := by
  refine ⟨Nat.le_refl _, h, rfl, ?_⟩
  rw [and63_octet]
  cases q with
  | nil => simp at h
  | cons x r => simp [vval]
theorem pvAt_more {l : List UInt8} {c : UInt8} {bb v : Int} {j : Nat} (hc : c.toNat / 64 % 2 = 0) (h : PvAt (l ++ [c]) bb v j) (hb : Builtin.bitAnd bb 64 ≠ 0) : j < (l ++ [c]).length := by
  obtain ⟨h1, h2, h3, _⟩ := h
  rcases Nat.lt_or_ge j (l ++ [c]).length with h | h
  · exact h
  · have e : j = l.length + 1 := by simp at h2 h; omega
    subst e
    rw [h3] at hb
    simp only [Nat.add_sub_cancel, List.getElem?_concat_length, Option.getD_some] at hb
    rw [and64_octet, hc] at hb
    exact absurd rfl hb
theorem pvAt_end {l : List UInt8} {c : UInt8} {bb v : Int} {j : Nat} (hl : ∀ x ∈ l, x.toNat / 64 % 2 = 1) (h : PvAt (l ++ [c]) bb v j) (hb : Builtin.bitAnd bb 64 = 0) : j = l.length + 1 ∧ v = (vval (l ++ [c]) : Int) := by
  obtain ⟨h1, h2, h3, h4⟩ := h
  simp only [List.length_append, List.length_cons, List.length_nil] at h2
  rcases Nat.lt_or_ge (j - 1) l.length with h | h
  · rw [List.getElem?_append_left h, List.getElem?_eq_getElem h, Option.getD_some] at h3
    have := hl _ (List.getElem_mem h)
    rw [h3, and64_octet, this] at hb
    exact absurd hb (by decide)
  · have e : j = l.length + 1 := by omega
    subst e
    refine ⟨rfl, ?_⟩
    rw [h4, List.take_of_length_le (by simp)]
theorem pvAt_bits {q : List UInt8} {bb v : Int} {j : Nat} (h : PvAt q bb v j) (hq : q.length ≤ 10000) : (Builtin.Int.intBits v : Int) + 6 ≤ 2 ^ 27 := by
  obtain ⟨h1, h2, h3, h4⟩ := h
  have hv := vval_lt (q.take j)
  have hb : Builtin.Int.intBits v ≤ 6 * (q.take j).length := intBits_le_iff.mpr (by rw [h4]; simpa using hv)
  have hlen : (q.take j).length ≤ 10000 := by rw [List.length_take]; omega
  omega
theorem pvAt_next {q : List UInt8} {bb v : Int} {j : Nat} (h : PvAt q bb v j) (hj : j < q.length) : PvAt q ((q[j]?.getD 0).toNat : Int) (Builtin.bitOr (v * 2 ^ (6 : Int).toNat) (Builtin.bitAnd ((q[j]?.getD 0).toNat : Int) 63)) (j + 1) := by
  obtain ⟨h1, h2, h3, h4⟩ := h
  refine ⟨by omega, hj, rfl, ?_⟩
  rw [h4, and63_octet, shl6 _ _ (Nat.mod_lt _ (by decide)), List.take_add_one, List.getElem?_eq_getElem hj]
  simp only [Option.getD_some, Option.toList_some]
  rw [vval_snoc]
theorem at_of_drop {b : Array UInt8} {i j : Nat} {q rest : List UInt8} (hb : b.toList.drop i = q ++ rest) (hj : j < q.length) : b[i + j]? = some (q[j]?.getD 0) := by
  have h : (b.toList.drop i)[j]? = (q ++ rest)[j]? := by rw [hb]
  rw [List.getElem?_drop, List.getElem?_append_left hj, Array.getElem?_toList] at h
  rw [h, List.getElem?_eq_getElem hj]
  rfl
local macro_rules | `(tactic| walk_at "mine step") => `(tactic| first | (k_unfold; (try dsimp only)) | (k_end; wrow_close) | walk1 | (dsimp only; walk1) | (leave1; walk_say "STEP leave1"; try dsimp only))
local macro_rules | `(tactic| walk_at "mine while") => `(tactic| repeat' ((fail_if_success (with_reducible show wpAny _ _ (exec (Stmt.While _ _ _ _) _) _ _ _)); (fail_if_success (with_reducible show RetPost _ _ _ _ _ _)); (fail_if_success (with_reducible show KswEnd _ _ _ _ _ _ _ _ _ _ _ _));  (fail_if_success (with_reducible show wpAny _ _ (call (Value.builtin "next") _) _ _ _)); (fail_if_success (with_reducible show wpAny _ _ (inplaceOp Operator.LShift _ _) _ _ _)); walk_at "mine step"))
set_option maxRecDepth 100000
set_option maxHeartbeats 8000000
theorem parse_ok (w : World) (hd : Option Value) (it : Addr) (b : Array UInt8) (t : Tok) (i : Nat) (l rest : List UInt8) (c : UInt8) (hb : b.toList.drop i = (l ++ [c]) ++ rest) (hl : ∀ x ∈ l, x.toNat / 64 % 2 = 1) (hc : c.toNat / 64 % 2 = 0) (hsz : (l ++ [c]).length ≤ 10000) :
    CallsTo Challenge.rw_pu0001_01.row.prog w (hd01.heap_39 w.params) hd01.view_39 (looseW hd01.view_39 []) hd 1 21 [.ref it] [(it, itO b t i)] [] (fun v news' => (∃ u, v = .int (vval (l ++ [c])) u) ∧ news' = [(it, itO b t (i + (l.length + 1)))]) := by
  k_fill
  refine calls_of_body (binds := [(Str.ofString "iterator", .ref it)]) (by k_is) (by k_is) rfl rfl rfl rfl rfl (by decide) (look1 _ _) ?_
  intro mean mg mb dp un gd outer A₀ base g L s B F X N T Ro hr
  walk_at "mine while"
  refine next_item (c := (l ++ [c])[0]?.getD 0) (by assumption) (by assumption) (by simp) (at_of_drop (j := 0) hb (by simp)) ?_
  intro h' u tk F1 N1
  walk_at "mine while"
  refine' ksw_while (σ := Int × Int × Nat × Tok × Tok) (fun c => [(it, itO b t (i + c.2.2.1))]) (fun c => [(Str.ofString "b", .int c.1 c.2.2.2.1), (Str.ofString "val", .int c.2.1 c.2.2.2.2)]) (fun _ => True) [] (fun x => PvAt (l ++ [c]) x.1 x.2.1 x.2.2.1) (fun c => (l.length + 1) - c.2.2.1) (_, _, 1, _, _) (by assumption) (by assumption) trivial ?kk ?kp ?turn
  case kk => kst_all
  case kp => exact pvAt_one (by simp)
  case turn =>
    intro x u h tk _ hx F2 N2
    obtain ⟨bb, v, j, t1, t2⟩ := x
    dsimp only [kstB] at F2 hx N2 ⊢
    walk_at "mine while"
    · have hj := pvAt_more hc hx (by assumption)
      refine ilshift_int (by decide) (pvAt_bits hx hsz) ?_
      walk_at "mine while"
      refine next_item (c := (l ++ [c])[j]?.getD 0) (by assumption) (by assumption) (by simp) (at_of_drop hb hj) ?_
      intro h3 u3 tk3 F3 N3
      walk_at "mine while"
      refine' ksw_end (_, _, j + 1, _, _) (by assumption) (by assumption) (fun p hp => hp) trivial ?kk (by ksw_same) ?kp ?km
      case kk => kst_all
      case kp => exact pvAt_next hx hj
      case km => show l.length + 1 - (j + 1) < l.length + 1 - j; simp at hj; omega
    · obtain ⟨e1, e2⟩ := pvAt_end hl hx (by assumption)
      subst e1 e2
      exact retPost (by assumption) (by assumption) ⟨⟨_, rfl⟩, rfl⟩
end
section
open PySem PySem.W PyProof.Rows PySem.Calls PySem.Spec
local macro_rules | `(tactic| walk_at "mine step") => `(tactic| first | (k_unfold; (try dsimp only)) | (k_end; wrow_close) | walk1 | (dsimp only; walk1) | (leave1; walk_say "STEP leave1"; try dsimp only))
local macro_rules | `(tactic| walk_at "mine while") => `(tactic| repeat' ((fail_if_success (with_reducible show wpAny _ _ (exec (Stmt.While _ _ _ _) _) _ _ _)); (fail_if_success (with_reducible show RetPost _ _ _ _ _ _)); (fail_if_success (with_reducible show KswEnd _ _ _ _ _ _ _ _ _ _ _ _));  (fail_if_success (with_reducible show wpAny _ _ (call (Value.builtin "next") _) _ _ _)); (fail_if_success (with_reducible show wpAny _ _ (inplaceOp Operator.LShift _ _) _ _ _)); walk_at "mine step"))
set_option maxRecDepth 100000
set_option maxHeartbeats 8000000
theorem none_of_drop {b : Array UInt8} {i : Nat} {q : List UInt8} (hb : b.toList.drop i = q) : b[i + q.length]? = none := by
  have h : (b.toList.drop i)[q.length]? = q[q.length]? := by rw [hb]
  rw [List.getElem?_drop, Array.getElem?_toList] at h
  rw [h]; simp
theorem pvAt_bit {q : List UInt8} {bb v : Int} {j : Nat} (hl : ∀ x ∈ q, x.toNat / 64 % 2 = 1) (h : PvAt q bb v j) : Builtin.bitAnd bb 64 ≠ 0 := by
  obtain ⟨h1, h2, h3, h4⟩ := h
  have h : j - 1 < q.length := by omega
  rw [List.getElem?_eq_getElem h, Option.getD_some] at h3
  have := hl _ (List.getElem_mem h)
  rw [h3, and64_octet, this]
  decide
theorem parse_stop (w : World) (it : Addr) (b : Array UInt8) (t : Tok) (i : Nat) (q : List UInt8) (hb : b.toList.drop i = q) (hl : ∀ x ∈ q, x.toNat / 64 % 2 = 1) (hsz : q.length ≤ 10000) :
    RaisesTo Challenge.rw_pu0001_01.row.prog w (hd01.heap_39 w.params) hd01.view_39 (looseW hd01.view_39 []) 1 21 [.ref it] [(it, itO b t i)] [] "StopIteration" := by
  k_fill
  refine raises_of_body (binds := [(Str.ofString "iterator", .ref it)]) (by k_is) (by k_is) rfl rfl rfl rfl rfl (by decide) (look1 _ _) ?_
  intro mean mg mb dp un gd env outer base g L s E B F X N T Ro hr hE
  have hb' : b.toList.drop i = q ++ [] := by simpa using hb
  walk_at "mine while"
  rcases Nat.eq_zero_or_pos q.length with h0 | h0
  · refine next_stop rfl (by assumption) (by assumption) (by simp) ?_ ?_
    · have := none_of_drop hb; rwa [h0] at this
    · intro h₁ h' e F1 N1 hx
      exact leave_newS B hx F1 N1 (fun h2 R1 _ U1 => hE _ _ _ R1 U1)
  refine next_item (c := q[0]?.getD 0) (by assumption) (by assumption) (by simp) (at_of_drop (j := 0) hb' h0) ?_
  intro h' u tk F1 N1
  walk_at "mine while"
  refine' ksw_while (σ := Int × Int × Nat × Tok × Tok) (fun c => [(it, itO b t (i + c.2.2.1))]) (fun c => [(Str.ofString "b", .int c.1 c.2.2.2.1), (Str.ofString "val", .int c.2.1 c.2.2.2.2)]) (fun _ => True) [] (fun x => PvAt q x.1 x.2.1 x.2.2.1) (fun c => q.length - c.2.2.1) (_, _, 1, _, _) (by assumption) (by assumption) trivial ?kk ?kp ?turn
  case kk => kst_all
  case kp => exact pvAt_one (by omega)
  case turn =>
    intro x u h tk _ hx F2 N2
    obtain ⟨bb, v, j, t1, t2⟩ := x
    dsimp only [kstB] at F2 hx N2 ⊢
    walk_at "mine while"
    · refine ilshift_int (by decide) (pvAt_bits hx hsz) ?_
      walk_at "mine while"
      rcases Nat.lt_or_ge j q.length with hj | hj
      · refine next_item (c := q[j]?.getD 0) (by assumption) (by assumption) (by simp) (at_of_drop hb' hj) ?_
        intro h3 u3 tk3 F3 N3
        walk_at "mine while"
        refine' ksw_end (_, _, j + 1, _, _) (by assumption) (by assumption) (fun p hp => hp) trivial ?kk (by ksw_same) ?kp ?km
        case kk => kst_all
        case kp => exact pvAt_next hx hj
        case km => show q.length - (j + 1) < q.length - j; omega
      · have e : j = q.length := Nat.le_antisymm hx.2.1 hj
        refine next_stop rfl (by assumption) (by assumption) (by simp) (by rw [e]; exact none_of_drop hb) ?_
        intro h₁ h' e F1 N1 hx
        exact leave_newS B hx F1 N1 (fun h2 R1 _ U1 => hE _ _ _ R1 U1)
    · exact absurd (by assumption) (pvAt_bit hl hx)
end
section
open PySem PySem.W PyProof.Rows PySem.Calls PySem.Spec
local macro_rules | `(tactic| walk_at "mine step") => `(tactic| first | (k_unfold; (try dsimp only)) | (k_end; wrow_close) | walk1 | (dsimp only; walk1) | (leave1; walk_say "STEP leave1"; try dsimp only))
local macro_rules | `(tactic| walk_at "mine go") => `(tactic| repeat' ((fail_if_success (with_reducible show wpAny _ _ (exec (Stmt.While _ _ _ _) _) _ _ _)); (fail_if_success (with_reducible show RetPostS _ _ _ _ _ _ _)); (fail_if_success (with_reducible show KswEnd _ _ _ _ _ _ _ _ _ _ _ _));  (fail_if_success (with_reducible show wpAny _ _ (call (Value.ref _) _) _ _ _)); (fail_if_success (with_reducible show wpAny _ _ (call (Value.builtin "iter") _) _ _ _)); (fail_if_success (with_reducible show wpAny _ _ (binaryOp Operator.Add (Value.bytes _ _) (Value.bytes _ _)) _ _ _)); walk_at "mine step"))
set_option maxRecDepth 100000
set_option maxHeartbeats 8000000
def nextN (n c : Nat) : Nat := vval (apL n ++ [c.toUInt8])
theorem apL_bit (n : Nat) : ∀ x ∈ apL n, x.toNat / 64 % 2 = 1 := by
  induction n using Nat.strongRecOn with
  | ind n ih =>
    intro x hx
    by_cases h : n = 0
    · subst h; rw [apL_zero] at hx; cases hx
    · rw [apL_pos h] at hx
      rcases List.mem_append.mp hx with hx | hx
      · exact ih _ (by omega) x hx
      · simp only [List.mem_cons, List.not_mem_nil, or_false] at hx
        subst hx
        have h2 : n % 16 < 16 := Nat.mod_lt _ (by decide)
        have e : ((65 + n % 16).toUInt8).toNat = 65 + n % 16 := by
          simp only [Nat.toUInt8, UInt8.toNat_ofNat']
          omega
        omega
theorem octet_of {c : Nat} (hc : c < 256) : ((c : Int).toNat.toUInt8).toNat = c := by
  simp only [Int.toNat_natCast, Nat.toUInt8, UInt8.toNat_ofNat']
  omega
theorem isExc_stop : isSubtype (.type "StopIteration") (.type "BaseException") = pure true := by rw [isSubtype_type]; kernel_rfl
theorem notTuple_stop : isSubtype (.type ((Manifest.find? "StopIteration").elim "type" fun y => y.metatype)) (.type "tuple") = pure false := by
  rw [show ((Manifest.find? "StopIteration").elim "type" fun x => x.metatype) = "type" from by kernel_rfl, isSubtype_type]; kernel_rfl
theorem law_next (w : World) (n c : Nat) (t1 t2 : Tok) (hc : c < 256) (hc2 : c / 64 % 2 = 0) (hsz : (apL n).length ≤ 5000) :
    CallsToS Challenge.rw_pu0001_01.row.prog w (hd01.heap_39 w.params) hd01.view_39 (looseW hd01.view_39 []) 2 35 [.int n t1, .int c t2] [] [] (fun v news' => (∃ u, v = .int (nextN n c) u) ∧ news' = []) := by
  k_fill
  refine callsS_of_body (binds := [(Str.ofString "number", .int n t1), (Str.ofString "closing", .int c t2)]) (by k_is) (by k_is) rfl rfl rfl rfl rfl (by decide) (look2 _ _ _ _) ?_
  intro mean mg mb dp un gd env outer base g L s B F X N T Ro XB TB D hr
  have hoc := octet_of hc
  walk_at "mine go"
  all_goals refine calls_use (rest := []) (int2ap w _ _ ?_) B (by assumption) X (by assumption) T (by simp) (by simp) rfl rfl (by show dp + 1 + 1 < recursionLimit; omega) ?_
  any_goals (first | (rw [Int.natAbs_neg, Int.natAbs_natCast]; omega) | (rw [Int.natAbs_natCast]; omega))
  all_goals (
    rintro v2 news2 h2 tk2 ⟨⟨u2, rfl⟩, rfl⟩ F2 N2 _
    (try rw [Int.natAbs_neg])
    rw [Int.natAbs_natCast]
    walk_at "mine go"
    refine KBy.add_bytes (by simp; omega) ?_
    intro t3 k3
    walk_at "mine go"
    refine iter_bytes (by assumption) (by assumption) ?_
    intro I1 h3 F3 N3 l3
    walk_at "mine go"
    refine iter_bytes (by assumption) (by assumption) ?_
    intro I2 h4 F4 N4 l4
    walk_at "mine go"
    refine raises_use (parse_stop w I2 _ _ 0 (apL n) rfl (apL_bit n) (by omega)) B F4 X N4 T (apart1 l4) (by simp) rfl rfl (by show dp + 1 + 1 < recursionLimit; omega) ?_
    intro G e h5 tk5 FG R U
    refine caught_SN0 (T' := "StopIteration") R FG B U XB TB D KtsTurn.refl (by k_is) PyProof.Rows.Boot.«StopIteration» (by decide) isExc_stop notTuple_stop isSubtype_stop ?_
    intro h6 g' T6 F6 N6 B6 X6 P6 D6
    clear R FG B X T D F4 N4
    walk_at "mine go"
    refine calls_use (parse_ok w (some (.ref e)) I1 _ _ 0 (apL n) [(c : Int).toNat.toUInt8] ((c : Int).toNat.toUInt8) (by simp) (apL_bit n) (by rw [hoc]; exact hc2) (by simp; omega)) B6 F6 X6 N6 P6 (apart1 l3) (by simp) rfl rfl (by show dp + 1 + 1 < recursionLimit; omega) ?_
    rintro v7 news7 h7 tk7 ⟨⟨u7, rfl⟩, rfl⟩ F7 N7 _
    walk_at "mine go"
    refine calls_use (parse_ok w (some (.ref e)) I1 ((apL n).toArray ++ #[(c : Int).toNat.toUInt8, (c : Int).toNat.toUInt8]) _ (0 + ((apL n).length + 1)) [] [] ((c : Int).toNat.toUInt8) (by simp [List.drop_append]) (by simp) (by rw [hoc]; exact hc2) (by simp)) B6 (by assumption) X6 (by assumption) P6 (apart1 l3) (by simp) rfl rfl (by show dp + 1 + 1 < recursionLimit; omega) ?_
    rintro v8 news8 h8 tk8 ⟨⟨u8, rfl⟩, rfl⟩ F8 N8 _
    walk_at "mine go")
  all_goals first
    | exact retPostS T6 (by assumption) News.nil ⟨⟨_, rfl⟩, rfl⟩
    | (exfalso
       have hv : vval ([] ++ [(c : Int).toNat.toUInt8]) = c % 64 := by rw [vval_snoc, octet_of hc]; simp [vval]
       have hm : (c : Int).fmod 64 = ((c % 64 : Nat) : Int) := by rw [Int.fmod_eq_emod_of_nonneg _ (by decide)]; omega
       rename_i hne
       rw [hv, hm] at hne
       exact hne rfl)
end
section
open PySem PySem.W PyProof.Rows PySem.Calls PySem.Spec
set_option maxRecDepth 100000
def IsLit (o : Obj) (l : Addr) (i : Nat) : Prop := o.cls = .type "list_iterator" ∧ o.data = .fields #[.ref l, .int i 0]
abbrev ritO (x left step : Int) : Obj := { cls := .type "range_iterator", data := .fields #[rawInt x, rawInt left, rawInt step] }
/-- how a turn of a loop ends: io is the iterator's object, J what holds between the turns -/
def ForPost (L : Addr) (s : Shared) (J : Heap → (Str → Option Value) → Led → Prop) (I : Addr) (io : Obj) (Q : Flow → Shared → Prop) (f : Flow) (s₃ : Shared) : Prop :=
  match f with
  | .next | .cont => ∃ g' m' news' h' tk', s₃ = { s with heap := h', toks := tk' } ∧ Fr g' L h' m' ∧ News g' L h' ((I, io) :: news') ∧ (∀ p ∈ news', p.1 ≠ I) ∧ J g' m' news'
  | .brk => Q .next s₃
  | .ret v => Q (.ret v) s₃
theorem forPost {L : Addr} {s : Shared} {J : Heap → (Str → Option Value) → Led → Prop} {I : Addr} {io : Obj} {Q : Flow → Shared → Prop} {g' : Heap} {m' : Str → Option Value} {news' : Led} {h' : Heap} {tk' : Nat}
    (F : Fr g' L h' m') (N : News g' L h' ((I, io) :: news')) (Ap : ∀ p ∈ news', p.1 ≠ I) (j : J g' m' news') : ForPost L s J I io Q .next { s with heap := h', toks := tk' } := ⟨g', m', news', h', tk', rfl, F, N, Ap, j⟩
theorem news_keep {g h h' : Heap} {L I : Addr} {news : Led} (N : News g L h news) (Ap : ∀ p ∈ news, p.1 ≠ I) (he : Heap.ExtBut I h h') : News g L h' news := fun p hp => ⟨he _ _ (Ap p hp) (N p hp).1, (N p hp).2⟩
theorem fr_keep {g h h' : Heap} {L I : Addr} {m : Str → Option Value} (F : Fr g L h m) (hL : I ≠ L) (hn : g.get? I = none) (he : Heap.ExtBut I h h') : Fr g L h' m := by
  obtain ⟨oL, es, ep, e, r⟩ := F.ns
  refine ⟨⟨oL, es, ep, he _ _ (Ne.symm hL) e, r⟩, fun b o q => he _ _ (fun z => ?_) (F.keep b o q), F.above⟩
  rw [z, hn] at q
  cases q
theorem map_ext {m m' : Str → Option Value} (ns : List Str) (h : ∀ x ∈ ns, m x = m' x) (h2 : ∀ y, (∀ x ∈ ns, y ≠ x) → m y = m' y) : m = m' := by
  funext y
  by_cases hy : y ∈ ns
  · exact h y hy
  · exact h2 y fun x hx e => hy (e ▸ hx)
section
variable {prog : Program} {w : World} {A : Around} {E : Value → Shared → Prop} {s : Shared} {env : Env} {g : Heap} {L : Addr} {m : Str → Option Value} {news : Led} {target : Expr} {body : List Stmt} {Q : Flow → Shared → Prop}
theorem for_list {l : Addr} {items : Array Value} (J : Nat → Heap → (Str → Option Value) → Led → Prop) (hh : A.handled = none) (F : Fr g L s.heap m) (N : News g L s.heap news) (hJ : J 0 g m news)
    (hl : ∀ i g m news h, J i g m news → Fr g L h m → News g L h news → h.IsList l items)
    (turn : ∀ i g m news h tk I io v, items[i]? = some v → J i g m news → Fr g L h m → News g L h ((I, io) :: news) → (∀ p ∈ news, p.1 ≠ I) →
      wpAny (model prog w) A (assign target env v) (fun _ s₂ => wpAny (model prog w) A (execs body env) (ForPost L s (J (i + 1)) I io Q) E s₂) E { s with heap := h, toks := tk })
    (done : ∀ g m news h tk, J items.size g m news → Fr g L h m → News g L h news → Q .next { s with heap := h, toks := tk })
    (ht : ∀ it v, letOwnedTupleGo target it v = pure () := by intro _ _; rfl)
    (hE : PassesOwn (model prog w) A env E := by passes_own) :
    wpAny (model prog w) A (pyIter (.ref l)) (fun it s₂ => codeAny (model prog w) A (.forLoop target it body [] env) (fun r s' => match r with | .ok f => Q f s' | .error e => cameBackBy (model prog w) A env E e s') s₂) E s := by
  refine wpAny_pyIter_list (hl 0 g m news _ hJ F N) ?_
  have hsz := fun p hp => Heap.lt_size (N p hp).1
  refine codeAny_forLoop (fun k s' => ∃ i g' m' news' h' tk' io, k = items.size - i ∧ i ≤ items.size ∧ s' = { s with heap := h', toks := tk' } ∧ J i g' m' news' ∧ Fr g' L h' m' ∧ News g' L h' ((s.heap.objs.size, io) :: news') ∧ (∀ p ∈ news', p.1 ≠ s.heap.objs.size) ∧ IsLit io l i) ?_ (items.size - 0)
    ⟨0, g, m, news, _, s.toks, _, rfl, Nat.zero_le _, rfl, hJ, F.push _, News.push F N _ rfl, fun p hp => Nat.ne_of_lt (hsz p hp), rfl, rfl⟩ (ht _)
  rintro k s' ⟨i, g', m', news', h', tk', io, rfl, hi, rfl, hj, F', N', Ap, hio⟩
  have hit := N' (s.heap.objs.size, io) (.head _)
  have hN := nwSub N' (fun p hp => List.mem_cons_of_mem _ hp)
  have hlist := hl i g' m' news' _ hj F' hN
  rcases Nat.lt_or_ge i items.size with h | h
  · refine wpAny_pyNext_list_item (x := items[i]) ⟨_, hit.1, hio⟩ hlist (by simp [h]) fun h₁ hit₁ hs₁ => ?_
    obtain ⟨io₁, hit₂, hio₁⟩ := hit₁
    have he := hs₁.extBut
    refine wpAny_mono (turn i g' m' news' h₁ tk' s.heap.objs.size io₁ items[i] (by simp [h]) hj (fr_keep F' hit.2.1 hit.2.2 he) (fun p hp => ?_) Ap) (fun _ s₂ h₂ => wpAny_mono h₂ (fun f s₃ h₃ => ?_) hE) hE
    · rcases List.mem_cons.mp hp with rfl | hp
      · exact ⟨hit₂, hit.2⟩
      · exact news_keep hN Ap he p hp
    · cases f with
      | next =>
        obtain ⟨g₂, m₂, news₂, h₂, tk₂, rfl, F₂, N₂, Ap₂, j₂⟩ := h₃
        exact ⟨items.size - (i + 1), by omega, i + 1, g₂, m₂, news₂, h₂, tk₂, io₁, rfl, h, rfl, j₂, F₂, N₂, Ap₂, hio₁⟩
      | cont =>
        obtain ⟨g₂, m₂, news₂, h₂, tk₂, rfl, F₂, N₂, Ap₂, j₂⟩ := h₃
        exact ⟨items.size - (i + 1), by omega, i + 1, g₂, m₂, news₂, h₂, tk₂, io₁, rfl, h, rfl, j₂, F₂, N₂, Ap₂, hio₁⟩
      | brk => exact h₃
      | ret v => exact h₃
  · have e : i = items.size := Nat.le_antisymm hi h
    subst e
    refine wpAny_pyNext_list_end hh ⟨_, hit.1, hio⟩ hlist (by simp) fun h₁ he => ?_
    exact wpAny_execs_nil (done g' m' news' h₁ tk' hj (fr_keep F' hit.2.1 hit.2.2 he) (news_keep hN Ap he))
theorem for_range {r : Addr} {a b c : Int} {t u v : Tok} {n : Nat} (J : Nat → Heap → (Str → Option Value) → Led → Prop) (hh : A.handled = none) (F : Fr g L s.heap m) (N : News g L s.heap news) (hJ : J 0 g m news)
    (hr : IsRange s.heap r a b c t u v) (hsmall : Builtin.Range.small a b c = true) (hn : Builtin.Range.rangeSize a b c = (n : Int))
    (turn : ∀ i g m news h tk I io t, i < n → J i g m news → Fr g L h m → News g L h ((I, io) :: news) → (∀ p ∈ news, p.1 ≠ I) →
      wpAny (model prog w) A (assign target env (.int (a + c * i) t)) (fun _ s₂ => wpAny (model prog w) A (execs body env) (ForPost L s (J (i + 1)) I io Q) E s₂) E { s with heap := h, toks := tk })
    (done : ∀ g m news h tk, J n g m news → Fr g L h m → News g L h news → Q .next { s with heap := h, toks := tk })
    (ht : ∀ it v, letOwnedTupleGo target it v = pure () := by intro _ _; rfl)
    (hE : PassesOwn (model prog w) A env E := by passes_own) :
    wpAny (model prog w) A (pyIter (.ref r)) (fun it s₂ => codeAny (model prog w) A (.forLoop target it body [] env) (fun r s' => match r with | .ok f => Q f s' | .error e => cameBackBy (model prog w) A env E e s') s₂) E s := by
  refine wpAny_pyIter_range hr hsmall ?_
  have hsz := fun p hp => Heap.lt_size (N p hp).1
  rw [hn]
  refine codeAny_forLoop (fun k s' => ∃ i g' m' news' h' tk', k = n - i ∧ i ≤ n ∧ s' = { s with heap := h', toks := tk' } ∧ J i g' m' news' ∧ Fr g' L h' m' ∧ News g' L h' ((s.heap.objs.size, ritO (a + c * i) ((n : Int) - i) c) :: news') ∧ (∀ p ∈ news', p.1 ≠ s.heap.objs.size)) ?_ (n - 0)
    ⟨0, g, m, news, _, s.toks, rfl, Nat.zero_le _, rfl, hJ, F.push _, by simpa using News.push F N { cls := .type "range_iterator", data := .fields #[rawInt a, rawInt n, rawInt c] } rfl, fun p hp => Nat.ne_of_lt (hsz p hp)⟩ (ht _)
  rintro k s' ⟨i, g', m', news', h', tk', rfl, hi, rfl, hj, F', N', Ap⟩
  have hit := N' (s.heap.objs.size, ritO (a + c * i) ((n : Int) - i) c) (.head _)
  have hN := nwSub N' (fun p hp => List.mem_cons_of_mem _ hp)
  rcases Nat.lt_or_ge i n with h | h
  · refine wpAny_pyNext_range_item hit.1 (by omega) fun h₁ hit₂ hs₁ => ?_
    have he := hs₁.extBut
    have e1 : a + c * (i : Int) + c = a + c * ((i + 1 : Nat) : Int) := by rw [Int.natCast_add, Int.mul_add]; simp [Int.add_assoc]
    have e2 : (n : Int) - i - 1 = (n : Int) - ((i + 1 : Nat) : Int) := by omega
    rw [e1, e2] at hit₂
    refine wpAny_mono (turn i g' m' news' h₁ (tk' + 1) s.heap.objs.size (ritO (a + c * ((i + 1 : Nat) : Int)) ((n : Int) - ((i + 1 : Nat) : Int)) c) tk' h hj (fr_keep F' hit.2.1 hit.2.2 he) (fun p hp => ?_) Ap) (fun _ s₂ h₂ => wpAny_mono h₂ (fun f s₃ h₃ => ?_) hE) hE
    · rcases List.mem_cons.mp hp with rfl | hp
      · exact ⟨hit₂, hit.2⟩
      · exact news_keep hN Ap he p hp
    · cases f with
      | next =>
        obtain ⟨g₂, m₂, news₂, h₂, tk₂, rfl, F₂, N₂, Ap₂, j₂⟩ := h₃
        exact ⟨n - (i + 1), by omega, i + 1, g₂, m₂, news₂, h₂, tk₂, rfl, h, rfl, j₂, F₂, N₂, Ap₂⟩
      | cont =>
        obtain ⟨g₂, m₂, news₂, h₂, tk₂, rfl, F₂, N₂, Ap₂, j₂⟩ := h₃
        exact ⟨n - (i + 1), by omega, i + 1, g₂, m₂, news₂, h₂, tk₂, rfl, h, rfl, j₂, F₂, N₂, Ap₂⟩
      | brk => exact h₃
      | ret v => exact h₃
  · have e : i = n := Nat.le_antisymm hi h
    subst e
    refine wpAny_pyNext_range_end hh hit.1 (by omega) fun h₁ he => ?_
    exact wpAny_execs_nil (done g' m' news' h₁ tk' hj (fr_keep F' hit.2.1 hit.2.2 he) (news_keep hN Ap he))
end
section
variable {prog : Program} {w : World} {A : Around} {E : Value → Shared → Prop} {s : Shared} {g : Heap} {L : Addr} {m : Str → Option Value} {news : Led}
/-- a list's slice is a new list -/
theorem slice_L {value slice : PySem.Expr} {ops : List Value} {l : Addr} {items : Array Value} {vl vu vst : Value} {lo hi st : Option Int} {Q : Value → Shared → Prop} (F : Fr g L s.heap m) (N : News g L s.heap news) (hl : s.heap.IsList l items) (pl : IsPart vl lo) (pu : IsPart vu hi) (ps : IsPart vst st) (h0 : st ≠ some 0)
    (h : ∀ (D : Addr) h', Fr g L h' m → News g L h' ((D, listOf (slicePick items lo hi st) 0) :: news) → (∀ p ∈ news, p.1 < D) → Q (.ref D) { s with heap := h' }) (hsz : items.size ≤ 16777216)
    (hs : subscripted slice false (.ref l) (.ref s.heap.objs.size) = operate ops (getItem (.ref l) (.ref s.heap.objs.size)) := by with_unfolding_all rfl) :
    wpAny (model prog w) A (subscriptTail value slice (.ref l) (.ref s.heap.objs.size)) Q E { s with heap := s.heap.push { cls := .type "slice", data := .fields #[vl, vu, vst] } } := by
  have hl' : ({ s with heap := s.heap.push { cls := .type "slice", data := .fields #[vl, vu, vst] } } : Shared).heap.IsList l items := hl.push _
  refine tail_any hl'.typeIs slot_list_getitem.lookup (wpAny_getItem_list_slice hl' (Heap.IsSliceOf.new _ _ _ _) pl pu ps h0 ?_ (by rw [sizeLine_eq]; exact hsz)) hs
  have F1 := F.push { cls := .type "slice", data := .fields #[vl, vu, vst] }
  have N1 := News.push F N { cls := .type "slice", data := .fields #[vl, vu, vst] } rfl
  refine h _ _ (F1.push _) (nwSub (News.push F1 N1 _ rfl) ?_) fun p hp => ?_
  · intro p hp
    rcases List.mem_cons.mp hp with rfl | hp
    · exact .head _
    · exact .tail _ (.tail _ hp)
  · show p.1 < (s.heap.push _).objs.size
    rw [Heap.size_push]
    exact Nat.lt_succ_of_lt (Heap.lt_size (N p hp).1)
/-- two lists joined are a new one -/
theorem add_L {l b : Addr} {vs ws : List Value} {Q : Value → Shared → Prop} (F : Fr g L s.heap m) (N : News g L s.heap news) (hl : s.heap.IsList l vs.toArray) (hb : s.heap.IsList b ws.toArray)
    (h : ∀ (D : Addr) h', Fr g L h' m → News g L h' ((D, listOf (vs ++ ws).toArray 0) :: news) → (∀ p ∈ news, p.1 < D) → Q (.ref D) { s with heap := h' }) (hsz : vs.length + ws.length ≤ 16777216) :
    wpAny (model prog w) A (binaryOp .Add (.ref l) (.ref b)) Q E s :=
  add_lists F N hl hb (fun h' F' N' => h _ h' F' N' fun p hp => Heap.lt_size (N p hp).1) (by rw [sizeLine_eq]; exact hsz)
theorem ints6 {vs : List Value} {ns : List Int} (h : IntsAre vs ns) (hl : ns.length = 6) : ∃ d0 d1 d2 d3 d4 d5 t0 t1 t2 t3 t4 t5, vs = [Value.int d0 t0, .int d1 t1, .int d2 t2, .int d3 t3, .int d4 t4, .int d5 t5] := by
  match ns, hl with
  | [d0, d1, d2, d3, d4, d5], _ =>
    obtain ⟨t0, v0, rfl, h0⟩ := h.cons_inv
    obtain ⟨t1, v1, rfl, h1⟩ := h0.cons_inv
    obtain ⟨t2, v2, rfl, h2⟩ := h1.cons_inv
    obtain ⟨t3, v3, rfl, h3⟩ := h2.cons_inv
    obtain ⟨t4, v4, rfl, h4⟩ := h3.cons_inv
    obtain ⟨t5, v5, rfl, h5⟩ := h4.cons_inv
    obtain rfl := h5.nil_inv
    exact ⟨d0, d1, d2, d3, d4, d5, t0, t1, t2, t3, t4, t5, rfl⟩
end
end
section
open PySem PySem.W PyProof.Rows PySem.Calls PySem.Spec
local macro_rules | `(tactic| walk_at "mine step") => `(tactic| first | (k_unfold; (try dsimp only)) | (k_end; wrow_close) | walk1 | (dsimp only; walk1) | (leave1; walk_say "STEP leave1"; try dsimp only))
local macro_rules | `(tactic| walk_at "mine go") => `(tactic| repeat' ((fail_if_success (with_reducible show wpAny _ _ (exec (Stmt.For _ _ _ _ _) _) _ _ _)); (fail_if_success (with_reducible show RetPostS _ _ _ _ _ _ _)); (fail_if_success (with_reducible show ForPost _ _ _ _ _ _ _ _));  (fail_if_success (with_reducible show wpAny _ _ (call (Value.ref _) _) _ _ _)); (fail_if_success (with_reducible show wpAny _ _ (call (Value.builtin "list.append") _) _ _ _)); (fail_if_success (with_reducible show wpAny _ _ (subscriptTail _ _ (Value.ref _) (Value.int _ _)) _ _ _)); (fail_if_success (with_reducible show wpAny _ _ (pyIter _) _ _ _)); walk_at "mine step"))
set_option maxRecDepth 100000
set_option maxHeartbeats 8000000
def iterN (st : Nat) (cs : List Nat) : Nat := cs.foldl nextN st
def runTo (st : Nat) (cs : List Nat) (i : Nat) : List Nat := (List.range (i + 1)).map fun j => iterN st (cs.take j)
theorem runTo_len (st : Nat) (cs : List Nat) (i : Nat) : (runTo st cs i).length = i + 1 := by simp [runTo]
theorem runTo_at (st : Nat) (cs : List Nat) (i j : Nat) (h : j ≤ i) : (runTo st cs i)[j]? = some (iterN st (cs.take j)) := by
  simp [runTo, Nat.lt_succ_of_le h]
theorem iterN_succ {st : Nat} {cs : List Nat} {i c : Nat} (h : cs[i]? = some c) : iterN st (cs.take (i + 1)) = nextN (iterN st (cs.take i)) c := by
  simp [iterN, List.take_add_one, h, List.foldl_append]
theorem runTo_succ {st : Nat} {cs : List Nat} {i c : Nat} (h : cs[i]? = some c) : runTo st cs (i + 1) = runTo st cs i ++ [nextN (iterN st (cs.take i)) c] := by
  rw [runTo, List.range_succ, List.map_append, List.map_singleton, iterN_succ h]
  rfl
theorem item_last {prog : Program} {w : World} {A : Around} {E : Value → Shared → Prop} {s : Shared} {value slice : PySem.Expr} {l : Addr} {items : Array Value} {u : Tok} {x : Value} {Q : Value → Shared → Prop}
    (hl : s.heap.IsList l items) (h1 : 1 ≤ items.size) (hx : items[items.size - 1]? = some x) (h : Q x s)
    (hs : subscripted slice false (.ref l) (.int (-1) u) = operate [.ref l, .int (-1) u] (getItem (.ref l) (.int (-1) u)) := by with_unfolding_all rfl) :
    wpAny (model prog w) A (subscriptTail value slice (.ref l) (.int (-1) u)) Q E s :=
  tail_any hl.typeIs slot_list_getitem.lookup (wpAny_getItem_list_neg hl (by decide) (by omega) (by decide) (by rw [← hx]; congr 1; omega) h) hs
abbrev zs (l : List Nat) : List Int := l.map Int.ofNat
theorem upd_none {m : Str → Option Value} {x : Str} (h : m x = none) : m = fun y => if y = x then none else m y := by
  funext y
  by_cases e : y = x
  · subst e; simp [h]
  · simp [e]
theorem upd_upd {m : Str → Option Value} {x : Str} {a b : Option Value} : (fun y => if y = x then a else if y = x then b else m y) = fun y => if y = x then a else m y := by
  funext y
  by_cases e : y = x <;> simp [e]
theorem law_run (w : World) (st : Nat) (cs : List Nat) (t : Tok) (cl : Addr) (cvs : List Value) (ep : Nat) (hcs : IntsAre cvs (zs cs)) (hc : ∀ c ∈ cs, c < 256 ∧ c / 64 % 2 = 0) (hsz : ∀ i ≤ cs.length, (apL (iterN st (cs.take i))).length ≤ 5000) (hlen : cs.length ≤ 1000) :
    CallsToS Challenge.rw_pu0001_01.row.prog w (hd01.heap_39 w.params) hd01.view_39 (looseW hd01.view_39 []) 3 42 [.int st t, .ref cl] [] [(cl, listOf cvs.toArray ep)] (fun v news' => ∃ r vs e, v = .ref r ∧ news' = [(r, listOf vs.toArray e)] ∧ IntsAre vs (zs (runTo st cs cs.length))) := by
  k_fill
  refine callsS_of_body (binds := [(Str.ofString "start", .int st t), (Str.ofString "closings", .ref cl)]) (by k_is) (by k_is) rfl rfl rfl rfl rfl (by decide) (look2 _ _ _ _) ?_
  intro mean mg mb dp un gd env outer base g L s B F X N T Ro XB TB D hr
  walk_at "mine go"
  refine wpAny_For ?_
  walk_at "mine go"
  rename_i r h00 l00 h1 F1 N1
  have hro := Ro _ (.head _)
  refine for_list (items := cvs.toArray) (fun i g' m' news' => ∃ vs e cv, i ≤ cs.length ∧ news' = [(r, listOf vs.toArray e)] ∧ IntsAre vs (zs (runTo st cs i)) ∧ m' = (fun y => if y = Str.ofString "closing" then cv else if y = Str.ofString "run" then some (.ref r) else if y = Str.ofString "closings" then some (.ref cl) else if y = Str.ofString "start" then some (.int st t) else none) ∧
    KtsTurn ((env :: outer).filterMap (·.frame)) g g' ∧ Below (cxA none dp un gd env outer) base (env :: outer) g' ∧ (hd01.heap_39 w.params).In g' ∧ Top hd01.view_39 (looseW hd01.view_39 []) mean mg mb g' ∧ KtsDicts ((env :: outer).filterMap (·.frame)) g') rfl F1 N1 ?_ ?_ ?_ ?_
  · exact ⟨[.int st t], 0, none, Nat.zero_le _, rfl, .cons _ _ .nil, upd_none rfl, KtsTurn.refl, B, X, T, D⟩
  · rintro i g' m' news' h ⟨_, _, _, _, rfl, _, rfl, T', _⟩ F' N'
    exact ⟨_, F'.keep _ _ (T'.other _ _ hro.1 hro.2), rfl, _, rfl⟩
  · rintro i g' m' news' h tk' I io v hv ⟨vs, e, cv, hi, rfl, hvs, rfl, T', B', X', P', D'⟩ F' N' Ap
    have hne : r ≠ I := Ap _ (.head _)
    clear F1 N1 B X T D
    obtain ⟨n, tn, rfl, hn⟩ := hcs.at i v (by simpa using hv)
    obtain ⟨c, hci, rfl⟩ : ∃ c, cs[i]? = some c ∧ n = (c : Int) := by
      rw [List.getElem?_map] at hn
      obtain ⟨c, h1, h2⟩ := Option.map_eq_some_iff.mp hn
      exact ⟨c, h1, h2.symm⟩
    have hcm := hc c (List.mem_of_getElem? hci)
    have hil : i < cs.length := by
      rcases Nat.lt_or_ge i cs.length with h | h
      · exact h
      · rw [List.getElem?_eq_none h] at hci; cases hci
    have hlv : vs.length = i + 1 := by rw [hvs.length, List.length_map, runTo_len]
    obtain ⟨tl, htl⟩ := hvs.get i (iterN st (cs.take i) : Nat) (by rw [List.getElem?_map, runTo_at _ _ _ _ (Nat.le_refl _)]; rfl)
    walk_at "mine go"
    refine item_last (News.isList (by assumption) (by k_mem)) (by simp; omega) (x := .int (iterN st (cs.take i) : Nat) tl) (by simpa [hlv] using htl) ?_
    walk_at "mine go"
    refine callsS_use (law_next w _ _ _ _ hcm.1 hcm.2 (hsz i hi)) B' (by assumption) X' (by assumption) P' (by simp) (by simp) XB TB D' rfl rfl (by show dp + 1 + 2 < recursionLimit; omega) ?_
    rintro v2 news2 g2 h2 tk2 ⟨⟨u2, rfl⟩, rfl⟩ T2 F2 N2 _ B2 X2 P2 D2
    clear B' X' P' D'
    walk_at "mine go"
    refine append_K F2 N2 (Upd.tail (Ne.symm hne) (Upd.head (by simp))) ?_ (by rw [sizeLine_eq]; simp; omega)
    intro h3 F3 N3
    rw [List.push_toArray] at N3
    rw [upd_upd] at F3
    walk_at "mine go"
    exact forPost F3 N3 (by simpa using hne) ⟨_, _, _, hil, rfl, (by rw [runTo_succ hci, zs, List.map_append]; exact hvs.append (.cons _ _ .nil)), rfl, T'.trans T2, B2, X2, P2, D2⟩
  · rintro g' m' news' h tk' ⟨vs, e, cv, hi, rfl, hvs, rfl, T', B', X', P', D'⟩ F' N'
    clear F1 N1 B X T D
    walk_at "mine go"
    have e : cvs.toArray.size = cs.length := by simpa using hcs.length
    rw [e] at hvs
    exact retPostS T' F' N' ⟨_, _, _, rfl, rfl, hvs⟩
end
section
open PySem PySem.W PyProof.Rows PySem.Calls PySem.Spec
local macro_rules | `(tactic| walk_at "mine step") => `(tactic| first | (k_unfold; (try dsimp only)) | (k_end; wrow_close) | walk1 | (dsimp only; walk1) | (leave1; walk_say "STEP leave1"; try dsimp only))
local macro_rules | `(tactic| walk_at "mine while") => `(tactic| repeat' ((fail_if_success (with_reducible show wpAny _ _ (exec (Stmt.While _ _ _ _) _) _ _ _)); (fail_if_success (with_reducible show RetPost _ _ _ _ _ _)); (fail_if_success (with_reducible show KswEnd _ _ _ _ _ _ _ _ _ _ _ _)); walk_at "mine step"))
set_option maxRecDepth 100000
set_option maxHeartbeats 8000000
def alikeN (a b : Nat) : Nat := if a ≠ b ∧ a % 2 = b % 2 then alikeN (a / 2) (b / 2) + 1 else 0
termination_by a + b
decreasing_by omega
theorem alikeN_more {x y : Int} (hx : 0 ≤ x) (hy : 0 ≤ y) (h : x ≠ y) (h2 : x.fmod 2 = y.fmod 2) : (alikeN x.toNat y.toNat : Int) = 1 + (alikeN (x.fdiv 2).toNat (y.fdiv 2).toNat : Int) := by
  rw [Int.fmod_eq_emod_of_nonneg _ (by decide), Int.fmod_eq_emod_of_nonneg _ (by decide)] at h2
  rw [Int.fdiv_eq_ediv_of_nonneg _ (by decide), Int.fdiv_eq_ediv_of_nonneg _ (by decide)]
  rw [alikeN, if_pos (by omega), show (x / 2).toNat = x.toNat / 2 by omega, show (y / 2).toNat = y.toNat / 2 by omega]
  omega
theorem alikeN_stop {x y : Int} (hx : 0 ≤ x) (hy : 0 ≤ y) (h : x = y ∨ x.fmod 2 ≠ y.fmod 2) : (alikeN x.toNat y.toNat : Int) = 0 := by
  rw [Int.fmod_eq_emod_of_nonneg _ (by decide), Int.fmod_eq_emod_of_nonneg _ (by decide)] at h
  rw [alikeN, if_neg (by omega)]
  rfl
theorem law_alike (w : World) (a b : Nat) (t1 t2 : Tok) :
    CallsTo Challenge.rw_pu0001_01.row.prog w (hd01.heap_39 w.params) hd01.view_39 (looseW hd01.view_39 []) none 1 49 [.int a t1, .int b t2] [] [] (fun v news' => (∃ u, v = .int (alikeN a b) u) ∧ news' = []) := by
  k_fill
  refine calls_of_body (binds := [(Str.ofString "one", .int a t1), (Str.ofString "other", .int b t2)]) (by k_is) (by k_is) rfl rfl rfl rfl rfl (by decide) (look2 _ _ _ _) ?_
  intro mean mg mb dp un gd outer A₀ base g L s B F X N T Ro hr
  walk_at "mine while"
  refine' ksw_while (σ := Int × Int × Int × Tok × Tok × Tok) (fun _ => []) (fun c => [(Str.ofString "one", .int c.1 c.2.2.2.1), (Str.ofString "other", .int c.2.1 c.2.2.2.2.1), (Str.ofString "count", .int c.2.2.1 c.2.2.2.2.2)]) (fun _ => True) []
    (fun c => 0 ≤ c.1 ∧ 0 ≤ c.2.1 ∧ c.2.2.1 + alikeN c.1.toNat c.2.1.toNat = alikeN a b) (fun c => c.1.toNat + c.2.1.toNat) (_, _, _, _, _, _) (by assumption) (by assumption) trivial ?kk ?kp ?turn
  case kk => kst_all
  case kp => exact ⟨Int.natCast_nonneg _, Int.natCast_nonneg _, by show (0 : Int) + _ = _; simp⟩
  case turn =>
    intro c u h tk _ hc F2 N2
    obtain ⟨x, y, k, t3, t4, t5⟩ := c
    dsimp only [kstB] at F2 hc ⊢
    obtain ⟨hx, hy, hk⟩ := hc
    walk_at "mine while"
    · have e := alikeN_more hx hy (by assumption) (by assumption)
      refine' ksw_end (_, _, _, _, _, _) (by assumption) (by assumption) (fun p hp => nomatch hp) trivial ?kk (by ksw_same) ?kp ?km
      case kk => kst_all
      case kp =>
        refine ⟨?_, ?_, ?_⟩
        · show 0 ≤ x.fdiv 2
          rw [Int.fdiv_eq_ediv_of_nonneg _ (by decide)]; omega
        · show 0 ≤ y.fdiv 2
          rw [Int.fdiv_eq_ediv_of_nonneg _ (by decide)]; omega
        · show k + 1 + _ = _
          dsimp only
          omega
      case km =>
        show (x.fdiv 2).toNat + (y.fdiv 2).toNat < x.toNat + y.toNat
        rw [Int.fdiv_eq_ediv_of_nonneg _ (by decide), Int.fdiv_eq_ediv_of_nonneg _ (by decide)]; omega
    · have e := alikeN_stop hx hy (.inr (by assumption))
      exact retPost (by assumption) (by assumption) ⟨⟨_, by rw [← hk, e, Int.add_zero]⟩, rfl⟩
    · have e := alikeN_stop hx hy (.inl (by assumption))
      exact retPost (by assumption) (by assumption) ⟨⟨_, by rw [← hk, e, Int.add_zero]⟩, rfl⟩
end
section
open PySem PySem.W PyProof.Rows PySem.Calls PySem.Spec
local macro_rules | `(tactic| walk_at "mine step") => `(tactic| first | (k_unfold; (try dsimp only)) | (k_end; wrow_close) | walk1 | (dsimp only; walk1) | (leave1; walk_say "STEP leave1"; try dsimp only))
local macro_rules | `(tactic| walk_at "mine while") => `(tactic| repeat' ((fail_if_success (with_reducible show wpAny _ _ (exec (Stmt.While _ _ _ _) _) _ _ _)); (fail_if_success (with_reducible show RetPost _ _ _ _ _ _)); (fail_if_success (with_reducible show KswEnd _ _ _ _ _ _ _ _ _ _ _ _)); (fail_if_success (with_reducible show wpAny _ _ (binaryOp Operator.Mult _ _) _ _ _)); walk_at "mine step"))
set_option maxRecDepth 100000
set_option maxHeartbeats 8000000
theorem apOct_toNat (n : Nat) : ((65 + n % 16).toUInt8).toNat = 65 + n % 16 := by
  simp only [Nat.toUInt8, UInt8.toNat_ofNat']
  omega
theorem vval_ap {k : Nat} (hk : k ≠ 0) : vval (apL k) = vval (apL (k / 16)) * 64 + (k % 16 + 1) := by
  rw [apL_pos hk, vval_snoc, apOct_toNat]
  omega
theorem vval_ap_zero : vval (apL 0) = 0 := by rw [apL_zero]; rfl
theorem nextN_eq {n c : Nat} (hc : c < 256) : nextN n c = vval (apL n) * 64 + c % 64 := by
  rw [nextN, vval_snoc]
  congr 1
  simp only [Nat.toUInt8, UInt8.toNat_ofNat']
  omega
theorem ap_lt (n : Nat) : n < 16 ^ (apL n).length := by
  induction n using Nat.strongRecOn with
  | ind n ih =>
    by_cases h : n = 0
    · subst h; rw [apL_zero]; decide
    · rw [apL_pos h, List.length_append, List.length_singleton, Nat.pow_succ]
      have := ih (n / 16) (by omega)
      omega
theorem fmod64 (k : Nat) : (k : Int).fmod 64 = ((k % 64 : Nat) : Int) := by rw [Int.fmod_eq_emod_of_nonneg _ (by decide)]; omega
theorem fdiv64 (k : Nat) : (k : Int).fdiv 64 = ((k / 64 : Nat) : Int) := by rw [Int.fdiv_eq_ediv_of_nonneg _ (by decide)]; omega
/-- the reader back: k is still to be read -/
def BkAt (n : Nat) (back worth rest : Int) : Prop := ∃ k b x : Nat, rest = (vval (apL k) : Nat) ∧ back = (b : Nat) ∧ worth = (x : Nat) ∧ b + k * x = n ∧ 0 < x ∧ (k = 0 → x ≤ 16 * b)
theorem bkAt_bits {n : Nat} {back worth rest : Int} (hsz : (apL n).length ≤ 5000) (h : BkAt n back worth rest) (hr : rest ≠ 0) : Builtin.Int.intBits worth ≤ 20000 := by
  obtain ⟨k, b, x, rfl, rfl, rfl, h1, h2, h3⟩ := h
  refine intBits_le_iff.mpr ?_
  have hk : k ≠ 0 := by rintro rfl; rw [vval_ap_zero] at hr; exact hr rfl
  have hx : x ≤ k * x := Nat.le_mul_of_pos_left _ (Nat.pos_of_ne_zero hk)
  have hn := ap_lt n
  have hp : 16 ^ (apL n).length ≤ 16 ^ 5000 := Nat.pow_le_pow_right (by decide) hsz
  have e : (16 : Nat) ^ 5000 = 2 ^ 20000 := by rw [show (16 : Nat) = 2 ^ 4 from rfl, ← Nat.pow_mul]
  rw [Int.natAbs_natCast, ← e]
  omega
theorem bkAt_octet {n : Nat} {back worth rest : Int} (h : BkAt n back worth rest) (hr : rest ≠ 0) : 1 ≤ rest.fmod 64 ∧ rest.fmod 64 ≤ 16 := by
  obtain ⟨k, b, x, rfl, rfl, rfl, h1, h2, h3⟩ := h
  have hk : k ≠ 0 := by rintro rfl; rw [vval_ap_zero] at hr; exact hr rfl
  rw [fmod64, vval_ap hk]
  omega
theorem bkAt_next {n : Nat} {back worth rest : Int} (h : BkAt n back worth rest) (hr : rest ≠ 0) : BkAt n (back + (rest.fmod 64 - 1) * worth) (16 * worth) (rest.fdiv 64) ∧ (rest.fdiv 64).toNat < rest.toNat := by
  obtain ⟨k, b, x, rfl, rfl, rfl, h1, h2, h3⟩ := h
  have hk : k ≠ 0 := by rintro rfl; rw [vval_ap_zero] at hr; exact hr rfl
  have ev := vval_ap hk
  have e1 : vval (apL k) % 64 = k % 16 + 1 := by omega
  have e2 : vval (apL k) / 64 = vval (apL (k / 16)) := by omega
  rw [fmod64, fdiv64, e1, e2]
  refine ⟨⟨k / 16, b + k % 16 * x, 16 * x, rfl, by simp, by simp, ?_, by omega, fun h => ?_⟩, by simp; omega⟩
  · rw [← h1]
    have : k * x = (k % 16) * x + (k / 16) * (16 * x) := by
      rw [← Nat.mul_assoc, ← Nat.add_mul]
      congr 1
      omega
    omega
  · have h16 : 1 ≤ k % 16 := by omega
    have : x ≤ k % 16 * x := Nat.le_mul_of_pos_left _ h16
    omega
theorem bkAt_end {n : Nat} {back worth rest : Int} (h : BkAt n back worth rest) (hr : rest = 0) : back = n ∧ worth ≤ 16 * back := by
  obtain ⟨k, b, x, rfl, rfl, rfl, h1, h2, h3⟩ := h
  have hk : k = 0 := by
    by_cases hk : k = 0
    · exact hk
    · have := vval_ap hk
      omega
  subst hk
  have := h3 rfl
  omega
theorem bkAt_start {n c : Nat} (hn : 0 < n) (hc : c < 256) : BkAt n 0 1 ((nextN n c : Int).fdiv 64) := by
  refine ⟨n, 0, 1, ?_, rfl, rfl, by omega, by decide, fun h => by omega⟩
  rw [fdiv64, nextN_eq hc]
  congr 1
  omega
theorem law_back (w : World) (n c : Nat) (t1 t2 : Tok) (hn : 0 < n) (hc : c < 256) (hsz : (apL n).length ≤ 5000) :
    CallsTo Challenge.rw_pu0001_01.row.prog w (hd01.heap_39 w.params) hd01.view_39 (looseW hd01.view_39 []) none 1 61 [.int (nextN n c) t1, .int c t2] [] [] (fun v news' => (∃ u, v = .int n u) ∧ news' = []) := by
  k_fill
  refine calls_of_body (binds := [(Str.ofString "number", .int (nextN n c) t1), (Str.ofString "closing", .int c t2)]) (by k_is) (by k_is) rfl rfl rfl rfl rfl (by decide) (look2 _ _ _ _) ?_
  intro mean mg mb dp un gd outer A₀ base g L s B F X N T Ro hr
  walk_at "mine while"
  · exfalso
    rename_i hne
    rw [fmod64, fmod64, nextN_eq hc] at hne
    exact hne (by congr 1; omega)
  refine' ksw_while (σ := Int × Int × Int × Tok × Tok × Tok) (fun _ => []) (fun c => [(Str.ofString "back", .int c.1 c.2.2.2.1), (Str.ofString "worth", .int c.2.1 c.2.2.2.2.1), (Str.ofString "rest", .int c.2.2.1 c.2.2.2.2.2)]) (fun _ => True) []
    (fun c => BkAt n c.1 c.2.1 c.2.2.1) (fun c => c.2.2.1.toNat) (_, _, _, _, _, _) (by assumption) (by assumption) trivial ?kk ?kp ?turn
  case kk => kst_all
  case kp => exact bkAt_start hn hc
  case turn =>
    intro x u h tk _ hx F2 N2
    obtain ⟨bk, wo, re, t3, t4, t5⟩ := x
    dsimp only [kstB] at F2 hx ⊢
    walk_at "mine while"
    · have := bkAt_octet hx (by assumption); omega
    · have := bkAt_octet hx (by assumption); omega
    · have ho := bkAt_octet hx (by assumption)
      have hb := bkAt_bits hsz hx (by assumption)
      obtain ⟨hn1, hn2⟩ := bkAt_next hx (by assumption)
      refine mul_int ?_ (IntMulOk.of_le (m := 6) (n := 20000) (intBits_le_iff.mpr (by omega)) hb (by decide))
      walk_at "mine while"
      refine mul_int ?_ (IntMulOk.of_le (m := 6) (n := 20000) (intBits_le_iff.mpr (by decide)) hb (by decide))
      walk_at "mine while"
      refine' ksw_end (_, _, _, _, _, _) (by assumption) (by assumption) (fun p hp => nomatch hp) trivial ?kk (by ksw_same) ?kp ?km
      case kk => kst_all
      case kp => exact hn1
      case km => exact hn2
    · obtain ⟨e1, e2⟩ := bkAt_end hx (by assumption)
      subst e1
      refine mul_int ?_ (IntMulOk.of_le (m := 6) (n := 20000) (intBits_le_iff.mpr (by decide)) (intBits_le_iff.mpr ?_) (by decide))
      · walk_at "mine while"
        exact retPost (by assumption) (by assumption) ⟨⟨_, rfl⟩, rfl⟩
      · have hn := ap_lt n
        have hp : 16 ^ (apL n).length ≤ 16 ^ 5000 := Nat.pow_le_pow_right (by decide) hsz
        have e : (16 : Nat) ^ 5000 = 2 ^ 20000 := by rw [show (16 : Nat) = 2 ^ 4 from rfl, ← Nat.pow_mul]
        rw [Int.natAbs_natCast, ← e]
        omega
end
section
open PySem PySem.W PyProof.Rows PySem.Calls PySem.Spec
local macro_rules | `(tactic| walk_at "mine step") => `(tactic| first | (k_unfold; (try dsimp only)) | (k_end; wrow_close) | walk1 | (dsimp only; walk1) | (leave1; walk_say "STEP leave1"; try dsimp only))
local macro_rules | `(tactic| walk_at "mine go") => `(tactic| repeat' ((fail_if_success (with_reducible show wpAny _ _ (exec (Stmt.For _ _ _ _ _) _) _ _ _)); (fail_if_success (with_reducible show RetPost _ _ _ _ _ _)); (fail_if_success (with_reducible show ForPost _ _ _ _ _ _ _ _));  (fail_if_success (with_reducible show wpAny _ _ (call (Value.ref _) _) _ _ _)); (fail_if_success (with_reducible show wpAny _ _ (subscriptTail _ _ (Value.ref _) (Value.ref _)) _ _ _)); (fail_if_success (with_reducible show wpAny _ _ (pyIter _) _ _ _)); walk_at "mine step"))
set_option maxRecDepth 100000
set_option maxHeartbeats 8000000
theorem nextN_pos {n c : Nat} (hn : 0 < n) (hc : c < 256) : 0 < nextN n c := by
  have := vval_ap (k := n) (by omega)
  rw [nextN_eq hc]
  omega
theorem iterN_pos {st : Nat} {cs : List Nat} (hst : 0 < st) (hc : ∀ c ∈ cs, c < 256 ∧ c / 64 % 2 = 0) : 0 < iterN st cs := by
  induction cs generalizing st with
  | nil => exact hst
  | cons c r ih => exact ih (nextN_pos hst (hc c (.head _)).1) fun x hx => hc x (.tail _ hx)
theorem upd_twist {m : Str → Option Value} {x z : Str} {a b c d : Option Value} : (fun y => if y = x then a else if y = z then b else if y = x then c else if y = z then d else m y) = fun y => if y = x then a else if y = z then b else m y := by
  funext y
  by_cases e : y = x <;> by_cases e2 : y = z <;> simp [e, e2]
theorem law_begin (w : World) (st : Nat) (cs : List Nat) (t : Tok) (cl : Addr) (cvs : List Value) (ep : Nat) (hst : 0 < st) (hcs : IntsAre cvs (zs cs)) (hc : ∀ c ∈ cs, c < 256 ∧ c / 64 % 2 = 0) (hsz : ∀ i ≤ cs.length, (apL (iterN st (cs.take i))).length ≤ 5000) (hlen : cs.length ≤ 1000) :
    CallsTo Challenge.rw_pu0001_01.row.prog w (hd01.heap_39 w.params) hd01.view_39 (looseW hd01.view_39 []) none 2 68 [.int (iterN st cs) t, .ref cl] [] [(cl, listOf cvs.toArray ep)] (fun v news' => (∃ u, v = .int st u) ∧ news' = []) := by
  k_fill
  refine calls_of_body (binds := [(Str.ofString "number", .int (iterN st cs) t), (Str.ofString "closings", .ref cl)]) (by k_is) (by k_is) rfl rfl rfl rfl rfl (by decide) (look2 _ _ _ _) ?_
  intro mean mg mb dp un gd outer A₀ base g L s B F X N T Ro hr
  walk_at "mine go"
  refine wpAny_For ?_
  walk_at "mine go"
  have hcl : s.heap.IsList cl cvs.toArray := ⟨_, F.keep _ _ (Ro _ (.head _)), rfl, _, rfl⟩
  have hlc : cvs.length = cs.length := by rw [hcs.length, List.length_map]
  refine slice_L (s := ⟨_, _, _, _, _⟩) F N hcl (by constructor) (by constructor) (by constructor) (by decide) ?_ (by simp; omega)
  intro D h1 F1 N1 l1
  rw [krv_pick] at N1
  walk_at "mine go"
  refine for_list (items := cvs.reverse.toArray) (fun i g' m' news' => ∃ t' cv, g' = g ∧ i ≤ cs.length ∧ news' = [(D, listOf cvs.reverse.toArray 0)] ∧ m' = (fun y => if y = Str.ofString "number" then some (.int (iterN st (cs.take (cs.length - i)) : Nat) t') else if y = Str.ofString "closing" then cv else if y = Str.ofString "closings" then some (.ref cl) else none)) rfl F1 N1 ?_ ?_ ?_ ?_
  · refine ⟨t, none, rfl, Nat.zero_le _, rfl, ?_⟩
    rw [Nat.sub_zero, List.take_length]
    funext y
    by_cases h1 : y = Str.ofString "number"
    · subst h1; rfl
    · by_cases h2 : y = Str.ofString "closings"
      · subst h2; rfl
      · simp [h1, h2]
  · rintro i g' m' news' h ⟨t', cv, rfl, hi, rfl, rfl⟩ F' N'
    exact News.isList N' (.head _)
  · rintro i g' m' news' h tk' I io v hv ⟨t', cv, rfl, hi, rfl, rfl⟩ F' N' Ap
    have hne : D ≠ I := Ap _ (.head _)
    clear F1 N1 F N
    obtain ⟨n, tn, rfl, hn⟩ := hcs.reverse.at i v (by simpa using hv)
    walk_at "mine go"
    have hil : i < cs.length := by
      rcases Nat.lt_or_ge i cs.length with h | h
      · exact h
      · rw [List.getElem?_eq_none (by simpa using h)] at hn; cases hn
    obtain ⟨j, hj⟩ : ∃ j, cs.length - i = j + 1 := ⟨cs.length - i - 1, by omega⟩
    obtain ⟨c, hci, rfl⟩ : ∃ c, cs[j]? = some c ∧ n = (c : Int) := by
      rw [List.getElem?_reverse (by simpa using hil), List.getElem?_map, List.length_map, show cs.length - 1 - i = j by omega] at hn
      obtain ⟨c, h1, h2⟩ := Option.map_eq_some_iff.mp hn
      exact ⟨c, h1, h2.symm⟩
    have hcm := hc c (List.mem_of_getElem? hci)
    rw [hj, iterN_succ hci]
    refine calls_use (rest := [(I, io), (D, listOf cvs.reverse.toArray 0)]) (law_back w _ c _ _ (iterN_pos hst fun x hx => hc x (List.mem_of_mem_take hx)) hcm.1 (hsz j (by omega))) B (by assumption) X (by assumption) T (by simp) (by simp) rfl rfl (by omega) ?_
    rintro v2 news2 h2 tk2 ⟨⟨u2, rfl⟩, rfl⟩ F2 N2 _
    walk_at "mine go"
    rename_i h3 F3 N3
    rw [upd_twist] at F3
    exact forPost F3 N3 (by simpa using hne) ⟨_, _, rfl, hil, rfl, by rw [show cs.length - (i + 1) = j by omega]⟩
  · rintro g' m' news' h tk' ⟨t', cv, rfl, hi, rfl, rfl⟩ F' N'
    clear F1 N1 F N
    walk_at "mine go"
    have e : cs.length - cvs.reverse.toArray.size = 0 := by simp; omega
    rw [e]
    exact retPost F' News.nil ⟨⟨_, rfl⟩, rfl⟩
end
section
open PySem PySem.W PyProof.Rows PySem.Calls PySem.Spec
local macro_rules | `(tactic| walk_at "mine step") => `(tactic| first | (k_unfold; (try dsimp only)) | (k_end; wrow_close) | walk1 | (dsimp only; walk1) | (leave1; walk_say "STEP leave1"; try dsimp only))
local macro_rules | `(tactic| walk_at "mine go") => `(tactic| repeat' ((fail_if_success (with_reducible show wpAny _ _ (exec (Stmt.For _ _ _ _ _) _) _ _ _)); (fail_if_success (with_reducible show RetPost _ _ _ _ _ _)); (fail_if_success (with_reducible show ForPost _ _ _ _ _ _ _ _));  (fail_if_success (with_reducible show wpAny _ _ (call (Value.ref _) _) _ _ _)); (fail_if_success (with_reducible show wpAny _ _ (subscriptTail _ _ (Value.ref _) (Value.ref _)) _ _ _)); (fail_if_success (with_reducible show wpAny _ _ (call (Value.builtin "list.append") _) _ _ _)); (fail_if_success (with_reducible show wpAny _ _ (call (Value.builtin "list.extend") _) _ _ _)); (fail_if_success (with_reducible show wpAny _ _ (binaryOp Operator.Mult _ _) _ _ _)); (fail_if_success (with_reducible show wpAny _ _ (pyIter _) _ _ _)); walk_at "mine step"))
set_option maxRecDepth 100000
set_option maxHeartbeats 8000000
def grpBits : Nat → List Nat → List Nat
  | _, [] => []
  | ca, b :: r => (b + ca) % 2 :: grpBits (b * ca) r
def grpCarry : Nat → List Nat → Nat
  | ca, [] => ca
  | ca, b :: r => grpCarry (b * ca) r
def setG (ks : List Nat) : Nat → List Nat
  | 0 => []
  | i + 1 => setG ks i ++ grpBits 1 ((ks.drop (4 * i)).take 4) ++ (if 4 * i + 4 ≤ ks.length then [grpCarry 1 ((ks.drop (4 * i)).take 4), 0] else [])
def bits6 (c : Nat) : List Nat := (List.range 6).map fun p => c / 2 ^ p % 2
def settledN (ks : List Nat) (c : Nat) : List Nat := bits6 c ++ setG ks ((ks.length + 3) / 4)
theorem slice_mid (vs : List Value) (a b : Nat) : slicePick vs.toArray (some (a : Int)) (some (b : Int)) none = ((vs.drop a).take (b - a)).toArray := by
  rw [slicePick_plain]
  simp only [Option.elim, clipAt_nat, List.size_toArray]
  congr 1
  rcases Nat.le_total a vs.length with h | h
  · rw [Nat.min_eq_left h]
    rcases Nat.le_total b vs.length with h2 | h2
    · rw [Nat.min_eq_left h2]
    · rw [Nat.min_eq_right h2, List.take_of_length_le (by simp), List.take_of_length_le (by simp; omega)]
  · rw [Nat.min_eq_right h, List.drop_of_length_le (Nat.le_refl _), List.drop_of_length_le h]
    simp
theorem rsize4 (n : Nat) : Builtin.Range.rangeSize 0 ((n : Nat) : Int) 4 = (((n + 3) / 4 : Nat) : Int) := by
  unfold Builtin.Range.rangeSize
  rw [if_pos (by decide)]
  split <;> omega
theorem rsmall4 {n : Nat} (h : n ≤ 1000) : Builtin.Range.small 0 ((n : Nat) : Int) 4 = true := by
  unfold Builtin.Range.small
  rw [rsize4]
  simp [Builtin.Range.rangeFitsLong]
  omega
theorem bits6_ints (c : Nat) : List.map (fun k' => ((c : Int).fdiv (2 ^ k'.toNat)).fmod 2) (rangeKs 0 (6 - 0 : Int).toNat) = zs (bits6 c) := by
  rw [rangeKs, zs, bits6, List.map_map, List.map_map]
  refine List.map_congr_left fun i _ => ?_
  show ((c : Int).fdiv (2 ^ ((0 : Int) + (i : Int)).toNat)).fmod 2 = ((c / 2 ^ i % 2 : Nat) : Int)
  rw [Int.zero_add, Int.toNat_natCast, show (2 : Int) ^ i = ((2 ^ i : Nat) : Int) by simp, Int.fdiv_eq_ediv_of_nonneg _ (Int.natCast_nonneg _), Int.fmod_eq_emod_of_nonneg _ (by decide)]
  simp
theorem start5 {a b : Option Value} {n1 n2 x1 x2 x3 : Str} (h1 : x1 ≠ n1 ∧ x1 ≠ n2) (h2 : x2 ≠ n1 ∧ x2 ≠ n2) (h3 : x3 ≠ n1 ∧ x3 ≠ n2) :
    (fun z => if z = n1 then a else (fun y => if y = n2 then b else none) z) = fun y => if y = x1 then none else if y = x2 then none else if y = x3 then none else if y = n1 then a else if y = n2 then b else none := by
  funext y
  by_cases e1 : y = x1
  · subst e1; simp [h1]
  by_cases e2 : y = x2
  · subst e2; simp [h2]
  by_cases e3 : y = x3
  · subst e3; simp [h3]
  simp [e1, e2, e3]
theorem grpBits_snoc (l : List Nat) (ca b : Nat) : grpBits ca (l ++ [b]) = grpBits ca l ++ [(b + grpCarry ca l) % 2] := by
  induction l generalizing ca with
  | nil => rfl
  | cons x r ih => simp [grpBits, grpCarry, ih]
theorem grpCarry_snoc (l : List Nat) (ca b : Nat) : grpCarry ca (l ++ [b]) = b * grpCarry ca l := by
  induction l generalizing ca with
  | nil => rfl
  | cons x r ih => simp [grpCarry, ih]
theorem grpCarry_le (l : List Nat) (ca : Nat) (hca : ca ≤ 1) (h : ∀ b ∈ l, b ≤ 1) : grpCarry ca l ≤ 1 := by
  induction l generalizing ca with
  | nil => exact hca
  | cons x r ih => exact ih _ (Nat.mul_le_mul (h x (.head _)) hca) fun b hb => h b (.tail _ hb)
theorem grpBits_len (l : List Nat) (ca : Nat) : (grpBits ca l).length = l.length := by
  induction l generalizing ca with
  | nil => rfl
  | cons x r ih => simp [grpBits, ih]
theorem setG_len (ks : List Nat) (i : Nat) : (setG ks i).length ≤ 6 * i := by
  induction i with
  | zero => simp [setG]
  | succ i ih =>
    rw [setG, List.length_append, List.length_append, grpBits_len, List.length_take]
    split <;> simp <;> omega
theorem take_succ_at {l : List Nat} {j b : Nat} (h : l[j]? = some b) : l.take (j + 1) = l.take j ++ [b] := by
  rw [List.take_add_one, h]
  rfl
theorem map5 {m m' : Str → Option Value} (a b c d e : Str) (h1 : m a = m' a) (h2 : m b = m' b) (h3 : m c = m' c) (h4 : m d = m' d) (h5 : m e = m' e) (h6 : ∀ y, y ≠ a → y ≠ b → y ≠ c → y ≠ d → y ≠ e → m y = m' y) : m = m' := by
  funext y
  by_cases k1 : y = a
  · subst k1; exact h1
  by_cases k2 : y = b
  · subst k2; exact h2
  by_cases k3 : y = c
  · subst k3; exact h3
  by_cases k4 : y = d
  · subst k4; exact h4
  by_cases k5 : y = e
  · subst k5; exact h5
  exact h6 y k1 k2 k3 k4 k5
theorem law_settled (w : World) (ks : List Nat) (c : Nat) (t : Tok) (kn : Addr) (kvs : List Value) (ep : Nat) (hks : IntsAre kvs (zs ks)) (hb : ∀ b ∈ ks, b ≤ 1) (hc : c < 256) (hlen : ks.length ≤ 1000) :
    CallsTo Challenge.rw_pu0001_01.row.prog w (hd01.heap_39 w.params) hd01.view_39 (looseW hd01.view_39 []) none 1 54 [.ref kn, .int c t] [] [(kn, listOf kvs.toArray ep)] (fun v news' => ∃ r vs e, v = .ref r ∧ news' = [(r, listOf vs.toArray e)] ∧ IntsAre vs (zs (settledN ks c))) := by
  k_fill
  refine callsC_of_body (binds := [(Str.ofString "known", .ref kn), (Str.ofString "closing", .int c t)]) (by k_is) (by k_is) rfl rfl (by decide +kernel) rfl rfl rfl ?_
  intro mean mg mb dp un gd outer A₀ base g L s cells B F X N Y hcl T Ro hr
  k_cells Y
  simp only [List.cons_append, List.nil_append] at N
  rename_i oc hoc
  have hoc' : oc.data = .cell (some (.int c t)) := hoc
  have F0 : Fr g L s.heap (fun y => if y = Str.ofString "known" then some (.ref kn) else none) := F
  clear F hoc
  have hkn : g.IsList kn kvs.toArray := ⟨_, Ro _ (.head _), rfl, _, rfl⟩
  have hkl : kvs.length = ks.length := by rw [hks.length, List.length_map]
  walk_at "mine go"
  refine wpAny_For ?_
  walk_at "mine go"
  rename_i D hx1 hx2 hx3 hx4 o1 h1 tk1 ta tb tc hR F1 N1 hx5
  rw [List.length_map] at hR
  refine for_range (n := (ks.length + 3) / 4) (fun i g' m' news' => ∃ vs e fv cv bv, g' = g ∧ i ≤ (ks.length + 3) / 4 ∧ news' = [(D, listOf vs.toArray e)] ∧ IntsAre vs (zs (bits6 c ++ setG ks i)) ∧ m' = (fun y => if y = Str.ofString "first" then fv else if y = Str.ofString "carry" then cv else if y = Str.ofString "bit" then bv else if y = Str.ofString "bits" then some (.ref D) else if y = Str.ofString "known" then some (.ref kn) else none)) rfl F1 (nwSub N1 (n' := [(D, LCg.lst _)]) (by intro p hp; rw [List.mem_singleton] at hp; subst hp; exact .head _)) ?_ hR (rsmall4 hlen) (rsize4 _) ?_ ?_
  · rename_i hI _
    exact ⟨_, _, none, none, none, rfl, Nat.zero_le _, rfl, by rw [setG, List.append_nil, ← bits6_ints]; assumption, start5 (by decide) (by decide) (by decide)⟩
  · rintro i g' m' news' h tk' I io t' hi ⟨vs, e, fv, cv, bv, rfl, _, rfl, hvs, rfl⟩ F' N' Ap
    have hne : D ≠ I := Ap _ (.head _)
    clear F1 N1
    rw [show (0 : Int) + 4 * (i : Int) = ((4 * i : Nat) : Int) by simp]
    have hvl : vs.length ≤ 100000 := by
      have := setG_len ks i
      rw [hvs.length, List.length_map, List.length_append]
      simp [bits6]
      omega
    walk_at "mine go"
    refine wpAny_For ?_
    walk_at "mine go"
    rename Fr _ _ _ _ => F3
    rename News _ _ _ _ => N3
    refine slice_L (s := ⟨_, _, _, _, _⟩) F3 N3 (stays_list F3.keep hkn) (by constructor) (by constructor) (by constructor) (by decide) ?_ (by simp; omega)
    intro D2 h4 F4 N4 l4
    rw [show ((4 * i : Nat) : Int) + 4 = ((4 * i + 4 : Nat) : Int) by simp, slice_mid, show 4 * i + 4 - 4 * i = 4 by omega] at N4
    have hch : IntsAre ((kvs.drop (4 * i)).take 4) (zs ((ks.drop (4 * i)).take 4)) := by
      have := (hks.drop (4 * i)).take 4
      rwa [← List.map_drop, ← List.map_take] at this
    have hchb : ∀ b ∈ (ks.drop (4 * i)).take 4, b ≤ 1 := fun b hb' => hb b (List.mem_of_mem_drop (List.mem_of_mem_take hb'))
    have hcl : ((ks.drop (4 * i)).take 4).length ≤ 4 := by rw [List.length_take]; omega
    have hcl2 : ((kvs.drop (4 * i)).take 4).length = ((ks.drop (4 * i)).take 4).length := by rw [hch.length, List.length_map]
    generalize hchd : (ks.drop (4 * i)).take 4 = ch at hch hchb hcl hcl2
    generalize (kvs.drop (4 * i)).take 4 = cw at hch hcl2 N4
    walk_at "mine go"
    refine for_list (items := cw.toArray) (fun j g₁ m' news' => ∃ vs2 e2 bv2 t2, g₁ = g' ∧ j ≤ ch.length ∧ news' = [(D2, listOf cw.toArray 0), (I, io), (D, listOf vs2.toArray e2)] ∧ IntsAre vs2 (zs (bits6 c ++ setG ks i ++ grpBits 1 (ch.take j))) ∧ m' = (fun y => if y = Str.ofString "carry" then some (.int (grpCarry 1 (ch.take j) : Nat) t2) else if y = Str.ofString "first" then some (.int (4 * i : Nat) t') else if y = Str.ofString "bit" then bv2 else if y = Str.ofString "bits" then some (.ref D) else if y = Str.ofString "known" then some (.ref kn) else none)) rfl F4 N4 ?_ ?_ ?_ ?_
    · exact ⟨vs, e, bv, _, rfl, Nat.zero_le _, rfl, by simpa [grpBits] using hvs, map5 (Str.ofString "carry") (Str.ofString "first") (Str.ofString "bit") (Str.ofString "bits") (Str.ofString "known") rfl rfl rfl rfl rfl (by intro y h1 h2 h3 h4 h5; simp [h1, h2, h3, h4, h5])⟩
    · rintro j g₁ m' news' h ⟨vs2, e2, bv2, t2, rfl, _, rfl, _, rfl⟩ F' N'
      exact News.isList N' (.head _)
    · rintro j g₁ m' news' h tk' I2 io2 v hv ⟨vs2, e2, bv2, t2, rfl, hj, rfl, hvs2, rfl⟩ F' N' Ap2
      clear F4 N4
      have hne2 : D ≠ I2 := Ap2 _ (.tail _ (.tail _ (.head _)))
      have Ap3 : ∀ x : List Value, ∀ ee, ∀ p ∈ [(D2, listOf cw.toArray 0), (I, io), (D, listOf x.toArray ee)], p.1 ≠ I2 := fun x ee p hp => by
        rcases List.mem_cons.mp hp with rfl | hp
        · exact Ap2 _ (.head _)
        rcases List.mem_cons.mp hp with rfl | hp
        · exact Ap2 _ (.tail _ (.head _))
        rw [List.mem_singleton] at hp
        subst hp
        exact hne2
      have hne3 : D ≠ D2 := Nat.ne_of_lt (l4 _ (.tail _ (.head _)))
      obtain ⟨n, tn, rfl, hn⟩ := hch.at j v (by simpa using hv)
      obtain ⟨b, hbj, rfl⟩ : ∃ b, ch[j]? = some b ∧ n = (b : Int) := by
        rw [List.getElem?_map] at hn
        obtain ⟨c, h1, h2⟩ := Option.map_eq_some_iff.mp hn
        exact ⟨c, h1, h2.symm⟩
      have hjl : j < ch.length := by
        rcases Nat.lt_or_ge j ch.length with h | h
        · exact h
        · rw [List.getElem?_eq_none h] at hbj; cases hbj
      have hb1 : b ≤ 1 := hchb b (List.mem_of_getElem? hbj)
      have hg1 : grpCarry 1 (ch.take j) ≤ 1 := grpCarry_le _ _ (Nat.le_refl _) fun x hx => hchb x (List.mem_of_mem_take hx)
      have hvl2 : vs2.length ≤ 200000 := by
        have e1 := hvs2.length
        have e2 := hvs.length
        simp only [List.length_map, List.length_append, grpBits_len, List.length_take] at e1 e2
        omega
      walk_at "mine go"
      rename Fr _ _ _ _ => F5
      rename News _ _ _ _ => N5
      refine append_K F5 N5 (Upd.tail (Ne.symm hne2) (Upd.tail (Ne.symm hne3) (Upd.tail (Ne.symm hne) (Upd.head (by simp))))) ?_ (by rw [sizeLine_eq]; simp; omega)
      intro h6 F6 N6
      rw [List.push_toArray, show ((b : Int) + (grpCarry 1 (ch.take j) : Nat)).fmod 2 = (((b + grpCarry 1 (ch.take j)) % 2 : Nat) : Int) by rw [Int.fmod_eq_emod_of_nonneg _ (by decide)]; simp] at N6
      walk_at "mine go"
      refine mul_int ?_ (IntMulOk.of_le (m := 1) (n := 1) (intBits_le_iff.mpr (by omega)) (intBits_le_iff.mpr (by omega)) (by decide))
      walk_at "mine go"
      rename Fr _ _ _ _ => F7
      rename News _ _ _ _ => N7
      rw [show (b : Int) * ((grpCarry 1 (ch.take j) : Nat) : Int) = ((grpCarry 1 (ch.take (j + 1)) : Nat) : Int) by rw [take_succ_at hbj, grpCarry_snoc, Int.natCast_mul]] at F7
      refine forPost F7 N7 (Ap3 _ _) ⟨_, _, _, _, rfl, hjl, rfl, ?_, map5 (Str.ofString "carry") (Str.ofString "first") (Str.ofString "bit") (Str.ofString "bits") (Str.ofString "known") rfl rfl rfl rfl rfl (by intro y h1 h2 h3 h4 h5; simp [h1, h2, h3, h4, h5])⟩
      rw [take_succ_at hbj, grpBits_snoc, ← List.append_assoc, zs, List.map_append]
      exact hvs2.append (.cons _ _ .nil)
    · rintro g₁ m' news' h tk' ⟨vs2, e2, bv2, t2, rfl, _, rfl, hvs2, rfl⟩ F' N'
      clear F4 N4
      have hne3 : D ≠ D2 := Nat.ne_of_lt (l4 _ (.tail _ (.head _)))
      have hvl2 : vs2.length ≤ 200000 := by
        have e1 := hvs2.length
        have e2 := hvs.length
        simp only [List.length_map, List.length_append, grpBits_len, List.length_take] at e1 e2
        omega
      have e0 : cw.toArray.size = ch.length := by simpa using hcl2
      rw [e0, List.take_length] at hvs2
      rw [e0, List.take_length] at F'
      walk_at "mine go"
      · rename Fr _ _ _ _ => F5
        rename News _ _ _ _ => N5
        rename_i l1
        obtain ⟨a1, a2, a3⟩ := l1
        refine kl_extend F5 N5 (.head _) rfl (by simp) (Upd.tail (Nat.ne_of_gt a3) (Upd.tail (Ne.symm hne3) (Upd.tail (Ne.symm hne) (Upd.head (by simp))))) (by simp [Builtin.List.listTooLong, sizeLine_eq]; omega) (by rw [sizeLine_eq]; simp; omega) (by rw [sizeLine_eq]; simp; omega) ?_
        intro h6 F6 N6
        walk_at "mine go"
        have hyes : ((4 * i : Nat) : Int) + 4 ≤ ((zs ks).length : Int) := by assumption
        rw [List.length_map] at hyes
        refine forPost F6 (nwSub N6 (n' := [(I, io), (D, listOf (vs2 ++ [Value.int (grpCarry 1 ch : Nat) t2, Value.int 0 _]).toArray (e2 + 1))]) (fun p hp => .tail _ (.tail _ hp))) (by simpa using hne) ⟨_, _, _, _, _, rfl, by omega, rfl, ?_, map5 (Str.ofString "carry") (Str.ofString "first") (Str.ofString "bit") (Str.ofString "bits") (Str.ofString "known") rfl rfl rfl rfl rfl (by intro y h1 h2 h3 h4 h5; simp [h1, h2, h3, h4, h5])⟩
        rw [setG, hchd, if_pos (by omega), ← List.append_assoc, ← List.append_assoc, zs, List.map_append]
        exact hvs2.append (.cons _ _ (.cons _ _ .nil))
      · refine forPost F' (nwSub N' (n' := [(I, io), (D, listOf vs2.toArray e2)]) (fun p hp => .tail _ hp)) (by simpa using hne) ⟨_, _, _, _, _, rfl, by omega, rfl, ?_, map5 (Str.ofString "carry") (Str.ofString "first") (Str.ofString "bit") (Str.ofString "bits") (Str.ofString "known") rfl rfl rfl rfl rfl (by intro y h1 h2 h3 h4 h5; simp [h1, h2, h3, h4, h5])⟩
        have hno : ¬ (((4 * i : Nat) : Int) + 4 ≤ ((zs ks).length : Int)) := by assumption
        rw [List.length_map] at hno
        rw [setG, hchd, if_neg (by omega), List.append_nil, ← List.append_assoc]
        exact hvs2
  · rintro g' m' news' h tk' ⟨vs, e, fv, cv, bv, rfl, _, rfl, hvs, rfl⟩ F' N'
    clear F1 N1
    walk_at "mine go"
    exact retPost F' N' ⟨_, _, _, rfl, rfl, hvs⟩
end
section
open PySem PySem.W PyProof.Rows PySem.Calls PySem.Spec
/-- the number that bits tell, the lowest first -/
def bval : List Nat → Nat
  | [] => 0
  | b :: r => b + 2 * bval r
theorem bval_append (a b : List Nat) : bval (a ++ b) = bval a + 2 ^ a.length * bval b := by
  induction a with
  | nil => simp [bval]
  | cons x r ih =>
    simp only [List.cons_append, bval, ih, List.length_cons, Nat.pow_succ]
    rw [Nat.mul_add, Nat.mul_comm (2 ^ r.length) 2, Nat.mul_assoc]
    omega
theorem bval_lt (l : List Nat) (h : ∀ b ∈ l, b ≤ 1) : bval l < 2 ^ l.length := by
  induction l with
  | nil => simp [bval]
  | cons x r ih =>
    have := ih fun b hb => h b (.tail _ hb)
    have hx := h x (.head _)
    simp only [bval, List.length_cons, Nat.pow_succ]
    omega
/-- the groups, from the front -/
def setAll : List Nat → List Nat
  | [] => []
  | [a] => grpBits 1 [a]
  | [a, b] => grpBits 1 [a, b]
  | [a, b, c] => grpBits 1 [a, b, c]
  | a :: b :: c :: d :: r => grpBits 1 [a, b, c, d] ++ [grpCarry 1 [a, b, c, d], 0] ++ setAll r
theorem setG_front (a b c d : Nat) (r : List Nat) (i : Nat) : setG (a :: b :: c :: d :: r) (i + 1) = grpBits 1 [a, b, c, d] ++ [grpCarry 1 [a, b, c, d], 0] ++ setG r i := by
  induction i with
  | zero => simp [setG]
  | succ i ih =>
    rw [setG, ih, setG]
    have e1 : 4 * (i + 1) = 4 * i + 1 + 1 + 1 + 1 := by omega
    have e2 : (a :: b :: c :: d :: r).drop (4 * (i + 1)) = r.drop (4 * i) := by rw [e1]; rfl
    have e3 : (4 * (i + 1) + 4 ≤ (a :: b :: c :: d :: r).length) = (4 * i + 4 ≤ r.length) := by
      simp only [List.length_cons]
      apply propext
      omega
    rw [e2]
    simp only [e3, List.append_assoc]
theorem setG_all (ks : List Nat) : setG ks ((ks.length + 3) / 4) = setAll ks := by
  match ks with
  | [] => rfl
  | [a] => simp [setG, setAll]
  | [a, b] => simp [setG, setAll]
  | [a, b, c] => simp [setG, setAll]
  | a :: b :: c :: d :: r =>
    have e : ((a :: b :: c :: d :: r).length + 3) / 4 = (r.length + 3) / 4 + 1 := by simp only [List.length_cons]; omega
    rw [e, setG_front, setAll, setG_all r]
def V (n : Nat) : Nat := vval (apL n)
theorem V_pos {n : Nat} (h : n ≠ 0) : V n = (n % 16 + 1) + 64 * V (n / 16) := by
  have := vval_ap h
  unfold V
  omega
theorem bit_le {x : Nat} (h : x ≤ 1) : x = 0 ∨ x = 1 := by omega
theorem grp4 {a b c d : Nat} (ha : a ≤ 1) (hb : b ≤ 1) (hc : c ≤ 1) (hd : d ≤ 1) : bval (grpBits 1 [a, b, c, d] ++ [grpCarry 1 [a, b, c, d], 0]) = bval [a, b, c, d] + 1 := by
  rcases bit_le ha with rfl | rfl <;> rcases bit_le hb with rfl | rfl <;> rcases bit_le hc with rfl | rfl <;> rcases bit_le hd with rfl | rfl <;> rfl
theorem grp3 {a b c : Nat} (ha : a ≤ 1) (hb : b ≤ 1) (hc : c ≤ 1) : bval (grpBits 1 [a, b, c]) = (bval [a, b, c] + 1) % 8 := by
  rcases bit_le ha with rfl | rfl <;> rcases bit_le hb with rfl | rfl <;> rcases bit_le hc with rfl | rfl <;> rfl
theorem grp2 {a b : Nat} (ha : a ≤ 1) (hb : b ≤ 1) : bval (grpBits 1 [a, b]) = (bval [a, b] + 1) % 4 := by
  rcases bit_le ha with rfl | rfl <;> rcases bit_le hb with rfl | rfl <;> rfl
theorem grp1 {a : Nat} (ha : a ≤ 1) : bval (grpBits 1 [a]) = (bval [a] + 1) % 2 := by
  rcases bit_le ha with rfl | rfl <;> rfl
theorem mod_shift6 (q v m : Nat) (hq : q < 64) : (q + 64 * v) % (64 * 2 ^ m) = q + 64 * (v % 2 ^ m) := by
  have h := Nat.mod_mul (x := q + 64 * v) (a := 64) (b := 2 ^ m)
  rw [h]
  have e1 : (q + 64 * v) % 64 = q := by omega
  have e2 : (q + 64 * v) / 64 = v := by omega
  rw [e1, e2]
/-- what is told of the number ahead tells as much of the next one -/
theorem settle_V (ks : List Nat) (hb : ∀ b ∈ ks, b ≤ 1) (n : Nat) (hn : 2 ^ ks.length ≤ n) (h : n % 2 ^ ks.length = bval ks) : V n % 2 ^ (setAll ks).length = bval (setAll ks) := by
  match ks with
  | [] => simp [setAll, bval, Nat.mod_one]
  | [a] =>
    have e := V_pos (n := n) (by simp at hn; omega)
    simp only [setAll, grp1 (hb a (by simp))]
    simp only [List.length_singleton, Nat.pow_one] at h
    show V n % 2 ^ 1 = _
    omega
  | [a, b] =>
    have e := V_pos (n := n) (by simp at hn; omega)
    simp only [setAll, grp2 (hb a (by simp)) (hb b (by simp))]
    simp only [List.length_cons, List.length_nil] at h
    show V n % 2 ^ 2 = _
    omega
  | [a, b, c] =>
    have e := V_pos (n := n) (by simp at hn; omega)
    simp only [setAll, grp3 (hb a (by simp)) (hb b (by simp)) (hb c (by simp))]
    simp only [List.length_cons, List.length_nil] at h
    show V n % 2 ^ 3 = _
    omega
  | a :: b :: c :: d :: r =>
    have hr : ∀ x ∈ r, x ≤ 1 := fun x hx => hb x (by simp [hx])
    have hp : 2 ^ (a :: b :: c :: d :: r).length = 16 * 2 ^ r.length := by
      simp only [List.length_cons, Nat.pow_succ]; omega
    rw [hp] at hn h
    have hpos : 0 < 2 ^ r.length := Nat.pow_pos (by decide)
    have e := V_pos (n := n) (by omega)
    have e4 := grp4 (hb a (by simp)) (hb b (by simp)) (hb c (by simp)) (hb d (by simp))
    have l4 := bval_lt [a, b, c, d] (by intro x hx; exact hb x (by simp at hx ⊢; omega))
    simp only [List.length_cons, List.length_nil] at l4
    have ha := bval_append [a, b, c, d] r
    simp only [List.cons_append, List.nil_append, List.length_cons, List.length_nil] at ha
    rw [ha] at h
    have h2 := Nat.mod_mul (x := n) (a := 16) (b := 2 ^ r.length)
    have hlt : n / 16 % 2 ^ r.length < 2 ^ r.length := Nat.mod_lt _ hpos
    have m1 : n % 16 = bval [a, b, c, d] := by omega
    have m2 : n / 16 % 2 ^ r.length = bval r := by omega
    have ih := settle_V r hr (n / 16) (by omega) m2
    have hlen : (setAll (a :: b :: c :: d :: r)).length = 6 + (setAll r).length := by simp [setAll, grpBits]; omega
    rw [hlen, Nat.pow_add, show (2 : Nat) ^ 6 = 64 from rfl, e, mod_shift6 _ _ _ (by omega), ih, setAll, bval_append, e4, m1]
    simp [grpBits]
theorem bits6_val : ∀ c : Fin 256, bval (bits6 c.val) = c.val % 64 := by decide +kernel
theorem bits6_le (c : Nat) : ∀ b ∈ bits6 c, b ≤ 1 := by
  intro b hb
  obtain ⟨p, _, rfl⟩ := List.mem_map.mp hb
  omega
theorem settled_next {ks : List Nat} (hb : ∀ b ∈ ks, b ≤ 1) {n c : Nat} (hc : c < 256) (hn : 2 ^ ks.length ≤ n) (h : n % 2 ^ ks.length = bval ks) :
    nextN n c % 2 ^ (settledN ks c).length = bval (settledN ks c) := by
  have hv := settle_V ks hb n hn h
  have h6 := bits6_val ⟨c, hc⟩
  rw [settledN, setG_all, List.length_append, show (bits6 c).length = 6 by simp [bits6], Nat.pow_add, show (2 : Nat) ^ 6 = 64 from rfl, nextN_eq hc,
    show vval (apL n) * 64 + c % 64 = c % 64 + 64 * V n by unfold V; omega, mod_shift6 _ _ _ (by omega), hv, bval_append, show (bits6 c).length = 6 by simp [bits6]]
  simp only at h6
  omega
theorem grpBits_le (l : List Nat) (ca : Nat) : ∀ b ∈ grpBits ca l, b ≤ 1 := by
  induction l generalizing ca with
  | nil => intro b hb; cases hb
  | cons x r ih =>
    intro b hb
    rcases List.mem_cons.mp hb with rfl | hb
    · omega
    · exact ih _ b hb
theorem setAll_le (ks : List Nat) (h : ∀ b ∈ ks, b ≤ 1) : ∀ b ∈ setAll ks, b ≤ 1 := by
  match ks with
  | [] => intro b hb; cases hb
  | [a] => exact grpBits_le _ _
  | [a, b] => exact grpBits_le _ _
  | [a, b, c] => exact grpBits_le _ _
  | a :: b :: c :: d :: r =>
    intro x hx
    rw [setAll] at hx
    rcases List.mem_append.mp hx with hx | hx
    · rcases List.mem_append.mp hx with hx | hx
      · exact grpBits_le _ _ x hx
      · rcases List.mem_cons.mp hx with rfl | hx
        · exact grpCarry_le _ _ (Nat.le_refl _) fun y hy => h y (by simp at hy ⊢; omega)
        · simp at hx; omega
    · exact setAll_le r (fun y hy => h y (by simp [hy])) x hx
theorem settledN_le {ks : List Nat} (h : ∀ b ∈ ks, b ≤ 1) (c : Nat) : ∀ b ∈ settledN ks c, b ≤ 1 := by
  intro b hb
  rw [settledN, setG_all] at hb
  rcases List.mem_append.mp hb with hb | hb
  · exact bits6_le c b hb
  · exact setAll_le ks h b hb
theorem V_low {n k : Nat} (h : 16 ^ k ≤ n) : 64 ^ k ≤ V n := by
  induction k generalizing n with
  | zero =>
    have := V_pos (n := n) (by simp at h; omega)
    simp
    omega
  | succ k ih =>
    have e := V_pos (n := n) (by have := Nat.pow_pos (n := k + 1) (show 0 < 16 by decide); omega)
    have := ih (n := n / 16) (by rw [Nat.pow_succ] at h; omega)
    rw [Nat.pow_succ]
    omega
theorem next_low {n c k : Nat} (hc : c < 256) (h : 16 ^ k ≤ n) : 64 ^ (k + 1) ≤ nextN n c := by
  have := V_low h
  rw [nextN_eq hc, Nat.pow_succ]
  unfold V at this
  omega
/-- alike in the last v figures, not in the one ahead -/
def Part (x y v : Nat) : Prop := x % 2 ^ v = y % 2 ^ v ∧ x / 2 ^ v % 2 ≠ y / 2 ^ v % 2
theorem part_shift {x y v q k : Nat} (hq : q < 2 ^ k) (h : Part x y v) : Part (q + 2 ^ k * x) (q + 2 ^ k * y) (v + k) := by
  obtain ⟨h1, h2⟩ := h
  have hk : 0 < 2 ^ k := Nat.pow_pos (by decide)
  have d : ∀ z, (q + 2 ^ k * z) / 2 ^ k = z := fun z => by rw [Nat.add_mul_div_left _ _ hk, Nat.div_eq_of_lt hq, Nat.zero_add]
  have m : ∀ z, (q + 2 ^ k * z) % 2 ^ k = q := fun z => by rw [Nat.add_mul_mod_self_left, Nat.mod_eq_of_lt hq]
  refine ⟨?_, ?_⟩
  · rw [Nat.add_comm v k, Nat.pow_add, Nat.mod_mul, Nat.mod_mul, m, m, d, d, h1]
  · rw [Nat.add_comm v k, Nat.pow_add, ← Nat.div_div_eq_div_mul, ← Nat.div_div_eq_div_mul, d, d]
    exact h2
theorem part_V {v : Nat} : ∀ {x y : Nat}, 16 ^ (v / 4) ≤ x → 16 ^ (v / 4) ≤ y → Part x y v → Part (V x) (V y) (v + 2 * (v / 4)) := by
  induction v using Nat.strongRecOn with
  | ind v ih =>
    intro x y hx hy h
    have hp : 0 < 16 ^ (v / 4) := Nat.pow_pos (by decide)
    have ex := V_pos (n := x) (by omega)
    have ey := V_pos (n := y) (by omega)
    rcases Nat.lt_or_ge v 4 with h4 | h4
    · obtain ⟨h1, h2⟩ := h
      have hv : v = 0 ∨ v = 1 ∨ v = 2 ∨ v = 3 := by omega
      rcases hv with rfl | rfl | rfl | rfl <;> (refine ⟨?_, ?_⟩ <;> simp only [Nat.reducePow, Nat.reduceDiv, Nat.reduceMul, Nat.reduceAdd] at h1 h2 ⊢ <;> omega)
    · have hv : v / 4 = (v - 4) / 4 + 1 := by omega
      rw [hv, Nat.pow_succ] at hx hy
      obtain ⟨h1, h2⟩ := h
      have e : 2 ^ v = 16 * 2 ^ (v - 4) := by rw [show (16 : Nat) = 2 ^ 4 from rfl, ← Nat.pow_add]; congr 1; omega
      rw [e] at h1 h2
      rw [Nat.mod_mul, Nat.mod_mul] at h1
      have a1 : x % 16 = y % 16 := by have := congrArg (· % 16) h1; simpa using this
      have a2 : x / 16 % 2 ^ (v - 4) = y / 16 % 2 ^ (v - 4) := by omega
      rw [← Nat.div_div_eq_div_mul, ← Nat.div_div_eq_div_mul] at h2
      have := ih (v - 4) (by omega) (x := x / 16) (y := y / 16) (by omega) (by omega) ⟨a2, h2⟩
      have := part_shift (q := x % 16 + 1) (k := 6) (by omega) this
      rw [ex, ey, ← a1]
      rw [show v + 2 * (v / 4) = v - 4 + 2 * ((v - 4) / 4) + 6 by omega]
      exact this
theorem part_next {x y v c : Nat} (hc : c < 256) (hx : 16 ^ (v / 4) ≤ x) (hy : 16 ^ (v / 4) ≤ y) (h : Part x y v) : Part (nextN x c) (nextN y c) (v + 2 * (v / 4) + 6) := by
  have := part_shift (q := c % 64) (k := 6) (by omega) (part_V hx hy h)
  rw [nextN_eq hc, nextN_eq hc]
  unfold V at this
  rw [show vval (apL x) * 64 + c % 64 = c % 64 + 2 ^ 6 * vval (apL x) by omega, show vval (apL y) * 64 + c % 64 = c % 64 + 2 ^ 6 * vval (apL y) by omega]
  exact this
theorem part_alike {x y : Nat} (h : x ≠ y) : Part x y (alikeN x y) := by
  induction hn : x + y using Nat.strongRecOn generalizing x y with
  | ind n ih =>
    rw [alikeN]
    by_cases h2 : x % 2 = y % 2
    · rw [if_pos ⟨h, h2⟩]
      have := ih (x / 2 + y / 2) (by omega) (x := x / 2) (y := y / 2) (by omega) rfl
      have := part_shift (q := x % 2) (k := 1) (by omega) this
      rw [show x % 2 + 2 ^ 1 * (x / 2) = x by omega, h2, show y % 2 + 2 ^ 1 * (y / 2) = y by omega] at this
      exact this
    · rw [if_neg (by simp [h2])]
      exact ⟨by simp [Nat.mod_one], by simpa using h2⟩
theorem part_top {x y v k : Nat} (hx : x / 2 ^ k = y / 2 ^ k) (h : Part x y v) : v < k := by
  rcases Nat.lt_or_ge v k with h' | h'
  · exact h'
  · obtain ⟨_, h2⟩ := h
    have e : 2 ^ v = 2 ^ k * 2 ^ (v - k) := by rw [← Nat.pow_add]; congr 1; omega
    rw [e, ← Nat.div_div_eq_div_mul, ← Nat.div_div_eq_div_mul, hx] at h2
    exact absurd rfl h2
theorem part_xor {x y v : Nat} (h : Part x y v) : (x ^^^ y) % 2 ^ (v + 1) = 2 ^ v := by
  obtain ⟨h1, h2⟩ := h
  apply Nat.eq_of_testBit_eq
  intro i
  rw [Nat.testBit_mod_two_pow, Nat.testBit_xor, Nat.testBit_two_pow]
  rcases Nat.lt_trichotomy i v with hi | hi | hi
  · have ex : x.testBit i = y.testBit i := by
      have a := Nat.testBit_mod_two_pow x v i
      have b := Nat.testBit_mod_two_pow y v i
      rw [h1] at a
      rw [a] at b
      simpa [hi] using b
    rw [ex]
    simp
    omega
  · subst hi
    have : x.testBit i ≠ y.testBit i := by
      simp only [Nat.testBit_eq_decide_div_mod_eq]
      intro e
      apply h2
      have := decide_eq_decide.mp e
      omega
    cases hx : x.testBit i <;> cases hy : y.testBit i <;> simp_all
  · have : ¬ i < v + 1 := by omega
    simp [this]
    omega
theorem xor_sum (x y : Nat) : (x ^^^ y) + 2 * (x &&& y) = x + y := by
  induction hn : x + y using Nat.strongRecOn generalizing x y with
  | ind n ih =>
    by_cases h0 : x + y = 0
    · have hx : x = 0 := by omega
      have hy : y = 0 := by omega
      subst hx hy
      subst hn
      rfl
    · have h := ih (x / 2 + y / 2) (by omega) (x / 2) (y / 2) rfl
      have a1 := Nat.xor_div_two (a := x) (b := y)
      have a2 := Nat.and_div_two (a := x) (b := y)
      have b1 := Nat.xor_mod_two_eq_one (a := x) (b := y)
      have b2 := Nat.and_mod_two_eq_one (a := x) (b := y)
      have c1 := Nat.mod_two_eq_zero_or_one (x ^^^ y)
      have c2 := Nat.mod_two_eq_zero_or_one (x &&& y)
      have d1 := Nat.mod_two_eq_zero_or_one x
      have d2 := Nat.mod_two_eq_zero_or_one y
      have e1 : (x ^^^ y) % 2 + 2 * ((x &&& y) % 2) = x % 2 + y % 2 := by
        clear ih h a1 a2 hn h0
        generalize x ^^^ y = p at *
        generalize x &&& y = q at *
        omega
      omega
theorem bitXor_nat (x y : Nat) : Builtin.bitXor (x : Int) (y : Int) = ((x ^^^ y : Nat) : Int) := by
  rw [bitXor_and]
  have h : Builtin.bitAnd (x : Int) (y : Int) = ((x &&& y : Nat) : Int) := by
    unfold Builtin.bitAnd
    rw [show decide (0 ≤ (x : Int)) = true by simp, show decide (0 ≤ (y : Int)) = true by simp]
    rfl
  rw [h]
  have := xor_sum x y
  omega
def aliN (a : Nat) : Nat → Nat
  | 0 => a
  | i + 1 => aliN a i + 2 * (aliN a i / 4) + 6
def knwN (cs : List Nat) : Nat → List Nat
  | 0 => []
  | i + 1 => settledN (knwN cs i) (cs.getD i 0)
theorem setAll_len (ks : List Nat) : (setAll ks).length = ks.length + 2 * (ks.length / 4) := by
  match ks with
  | [] => rfl
  | [a] => simp [setAll, grpBits]
  | [a, b] => simp [setAll, grpBits]
  | [a, b, c] => simp [setAll, grpBits]
  | a :: b :: c :: d :: r =>
    rw [setAll, List.length_append, setAll_len r]
    simp [grpBits]
    omega
theorem settledN_len (ks : List Nat) (c : Nat) : (settledN ks c).length = ks.length + 2 * (ks.length / 4) + 6 := by
  rw [settledN, setG_all, List.length_append, setAll_len]
  simp [bits6]
  omega
def lens (i : Nat) : Nat := [0, 6, 14, 26, 44].getD i 0
def lows (i : Nat) : Nat := [4, 7, 12, 19].getD i 0
theorem knw_len (cs : List Nat) {i : Nat} (hi : i ≤ 4) : (knwN cs i).length = lens i := by
  have l0 : (knwN cs 0).length = 0 := rfl
  have l1 : (knwN cs 1).length = 6 := by rw [knwN, settledN_len, l0]
  have l2 : (knwN cs 2).length = 14 := by rw [knwN, settledN_len, l1]
  have l3 : (knwN cs 3).length = 26 := by rw [knwN, settledN_len, l2]
  have l4 : (knwN cs 4).length = 44 := by rw [knwN, settledN_len, l3]
  have : i = 0 ∨ i = 1 ∨ i = 2 ∨ i = 3 ∨ i = 4 := by omega
  rcases this with rfl | rfl | rfl | rfl | rfl <;> assumption
theorem knw_le (cs : List Nat) (i : Nat) : ∀ b ∈ knwN cs i, b ≤ 1 := by
  induction i with
  | zero => intro b hb; cases hb
  | succ i ih => exact settledN_le ih _
section
variable {cs : List Nat} (hcl : cs.length = 4) (hc : ∀ c ∈ cs, c < 256 ∧ c / 64 % 2 = 0) {st : Nat} (hst : 65536 ≤ st)
include hcl hc hst
theorem at_i {i : Nat} (hi : i < 4) : cs[i]? = some (cs.getD i 0) ∧ cs.getD i 0 < 256 := by
  have h : i < cs.length := by omega
  rw [List.getD_eq_getElem?_getD, List.getElem?_eq_getElem h, Option.getD_some]
  exact ⟨rfl, (hc _ (List.getElem_mem h)).1⟩
theorem iter_low {i : Nat} (hi : i < 4) : 16 ^ lows i ≤ iterN st (cs.take i) := by
  have l0 : 16 ^ 4 ≤ iterN st (cs.take 0) := by simpa [iterN] using hst
  have l1 : 16 ^ 7 ≤ iterN st (cs.take 1) := by
    rw [iterN_succ (at_i hcl hc hst (by decide : 0 < 4)).1]
    exact Nat.le_trans (by decide) (next_low (at_i hcl hc hst (by decide)).2 l0)
  have l2 : 16 ^ 12 ≤ iterN st (cs.take 2) := by
    rw [iterN_succ (at_i hcl hc hst (by decide : 1 < 4)).1]
    exact Nat.le_trans (by decide) (next_low (at_i hcl hc hst (by decide)).2 l1)
  have l3 : 16 ^ 19 ≤ iterN st (cs.take 3) := by
    rw [iterN_succ (at_i hcl hc hst (by decide : 2 < 4)).1]
    exact Nat.le_trans (by decide) (next_low (at_i hcl hc hst (by decide)).2 l2)
  have : i = 0 ∨ i = 1 ∨ i = 2 ∨ i = 3 := by omega
  rcases this with rfl | rfl | rfl | rfl <;> assumption
/-- what the closing octets tell -/
theorem told {i : Nat} (hi : i ≤ 4) : iterN st (cs.take i) % 2 ^ (knwN cs i).length = bval (knwN cs i) := by
  induction i with
  | zero => simp [knwN, bval, Nat.mod_one]
  | succ i ih =>
    have a := at_i hcl hc hst (show i < 4 by omega)
    rw [iterN_succ a.1]
    refine settled_next (knw_le cs i) a.2 ?_ (ih (by omega))
    rw [knw_len cs (by omega)]
    refine Nat.le_trans ?_ (iter_low hcl hc hst (show i < 4 by omega))
    have : i = 0 ∨ i = 1 ∨ i = 2 ∨ i = 3 := by omega
    rcases this with rfl | rfl | rfl | rfl <;> decide
theorem parts {st2 : Nat} (hst2 : 65536 ≤ st2) (h1 : st < 131072) (h2 : st2 < 131072) (hne : st ≠ st2) {i : Nat} (hi : i ≤ 4) : Part (iterN st (cs.take i)) (iterN st2 (cs.take i)) (aliN (alikeN st st2) i) := by
  have p0 := part_alike hne
  have v0 : alikeN st st2 < 16 := part_top (k := 16) (by omega) p0
  have v1 : aliN (alikeN st st2) 1 < 28 := by simp only [aliN]; omega
  have v2 : aliN (alikeN st st2) 2 < 46 := by rw [aliN]; omega
  have v3 : aliN (alikeN st st2) 3 < 74 := by rw [aliN]; omega
  have hv : ∀ j, j < 4 → aliN (alikeN st st2) j / 4 ≤ lows j := by
    intro j hj
    have : j = 0 ∨ j = 1 ∨ j = 2 ∨ j = 3 := by omega
    rcases this with rfl | rfl | rfl | rfl
    · show aliN _ 0 / 4 ≤ 4; simp only [aliN]; omega
    · show _ ≤ 7; omega
    · show _ ≤ 12; omega
    · show _ ≤ 19; omega
  induction i with
  | zero => simpa [iterN, aliN] using p0
  | succ i ih =>
    have a := at_i hcl hc hst (show i < 4 by omega)
    rw [iterN_succ a.1, iterN_succ a.1, aliN]
    have hp : 16 ^ (aliN (alikeN st st2) i / 4) ≤ 16 ^ lows i := Nat.pow_le_pow_right (by decide) (hv i (by omega))
    exact part_next a.2 (Nat.le_trans hp (iter_low hcl hc hst (by omega))) (Nat.le_trans hp (iter_low hcl hc hst2 (by omega))) (ih (by omega))
end
theorem ap_len_of_lt {n k : Nat} (h : n < 16 ^ k) : (apL n).length ≤ k := by
  induction k generalizing n with
  | zero =>
    have : n = 0 := by simpa using h
    subst this
    rw [apL_zero]
    exact Nat.le_refl _
  | succ k ih =>
    by_cases h0 : n = 0
    · subst h0; rw [apL_zero]; exact Nat.zero_le _
    · rw [apL_pos h0, List.length_append, List.length_singleton]
      have := ih (n := n / 16) (by rw [Nat.pow_succ] at h; omega)
      omega
theorem next_len {n c k : Nat} (h : (apL n).length ≤ k) : (apL (nextN n c)).length ≤ 2 * (k + 1) := by
  refine ap_len_of_lt ?_
  have h1 := vval_lt (apL n ++ [c.toUInt8])
  refine Nat.lt_of_lt_of_le h1 ?_
  rw [List.length_append, List.length_singleton, show (16 : Nat) = 2 ^ 4 from rfl, ← Nat.pow_mul]
  exact Nat.pow_le_pow_right (by decide) (by omega)
theorem iter_len {cs : List Nat} {st : Nat} (h : st < 131072) (hl : cs.length = 4) : ∀ i ≤ cs.length, (apL (iterN st (cs.take i))).length ≤ 5000 := by
  have step : ∀ (l : List Nat) (n k : Nat), (apL n).length ≤ k → (apL (iterN n l)).length ≤ 2 ^ l.length * (k + 2) := by
    intro l
    induction l with
    | nil => intro n k h; simp [iterN]; omega
    | cons c r ih =>
      intro n k h
      have := ih (nextN n c) (2 * (k + 1)) (next_len h)
      show (apL (iterN (nextN n c) r)).length ≤ _
      rw [List.length_cons, Nat.pow_succ]
      refine Nat.le_trans this ?_
      rw [Nat.mul_assoc]
      exact Nat.mul_le_mul_left _ (by omega)
  intro i hi
  refine Nat.le_trans (step (cs.take i) st 5 (ap_len_of_lt (by omega))) ?_
  have : 2 ^ (cs.take i).length ≤ 2 ^ 4 := Nat.pow_le_pow_right (by decide) (by rw [List.length_take]; omega)
  omega
end
section
open PySem PySem.W PyProof.Rows PySem.Calls PySem.Spec
local macro_rules | `(tactic| walk_at "mine step") => `(tactic| first | (k_unfold; (try dsimp only)) | (k_end; wrow_close) | walk1 | (dsimp only; walk1) | (leave1; walk_say "STEP leave1"; try dsimp only))
local macro_rules | `(tactic| walk_at "mine go") => `(tactic| repeat' ((fail_if_success (with_reducible show wpAny _ _ (exec (Stmt.For _ _ _ _ _) _) _ _ _)); (fail_if_success (with_reducible show ForPost _ _ _ _ _ _ _ _));  (fail_if_success (with_reducible show wpAny _ _ (call (Value.ref _) _) _ _ _)); (fail_if_success (with_reducible show wpAny _ _ (subscriptTail _ _ (Value.ref _) (Value.ref _)) _ _ _)); (fail_if_success (with_reducible show wpAny _ _ (pyIter _) _ _ _)); (fail_if_success (with_reducible show wpAny _ _ (call (Value.builtin "len") _) _ _ _)); (fail_if_success (with_reducible show wpAny _ _ (binaryOp Operator.Add (Value.ref _) (Value.ref _)) _ _ _)); walk_at "mine step"))
local macro_rules | `(tactic| walk_at "mine go2") => `(tactic| repeat' ((fail_if_success (with_reducible show wpAny _ _ (exec (Stmt.For _ _ _ _ _) _) _ _ _)); (fail_if_success (with_reducible show ForPost _ _ _ _ _ _ _ _));  (fail_if_success (with_reducible show wpAny _ _ (call (Value.ref _) _) _ _ _)); (fail_if_success (with_reducible show wpAny _ _ (subscriptTail _ _ (Value.ref _) (Value.ref _)) _ _ _)); (fail_if_success (with_reducible show wpAny _ _ (pyIter _) _ _ _)); (fail_if_success (with_reducible show wpAny _ _ (subscriptTail _ _ (Value.ref _) (Value.int _ _)) _ _ _)); (fail_if_success (with_reducible show RetPost _ _ _ _ _ _)); (fail_if_success (with_reducible show wpAny _ _ (call (Value.builtin "len") _) _ _ _)); (fail_if_success (with_reducible show wpAny _ _ (binaryOp Operator.Add (Value.ref _) (Value.ref _)) _ _ _)); walk_at "mine step"))
local macro_rules | `(tactic| walk_at "mine go3") => `(tactic| repeat' ((fail_if_success (with_reducible show wpAny _ _ (exec (Stmt.For _ _ _ _ _) _) _ _ _)); (fail_if_success (with_reducible show ForPost _ _ _ _ _ _ _ _));  (fail_if_success (with_reducible show wpAny _ _ (call (Value.ref _) _) _ _ _)); (fail_if_success (with_reducible show wpAny _ _ (subscriptTail _ _ (Value.ref _) (Value.ref _)) _ _ _)); (fail_if_success (with_reducible show wpAny _ _ (pyIter _) _ _ _)); (fail_if_success (with_reducible show wpAny _ _ (subscriptTail _ _ (Value.ref _) (Value.int _ _)) _ _ _)); (fail_if_success (with_reducible show RetPost _ _ _ _ _ _)); (fail_if_success (with_reducible show wpAny _ _ (binaryOp Operator.Mult _ _) _ _ _)); (fail_if_success (with_reducible show wpAny _ _ (binaryOp Operator.Pow _ _) _ _ _)); (fail_if_success (with_reducible show wpAny _ _ (binaryOp Operator.BitXor _ _) _ _ _)); (fail_if_success (with_reducible show wpAny _ _ (binaryOp Operator.Mod _ _) _ _ _)); (fail_if_success (with_reducible show wpAny _ _ (call (Value.builtin "len") _) _ _ _)); (fail_if_success (with_reducible show wpAny _ _ (binaryOp Operator.Add (Value.ref _) (Value.ref _)) _ _ _)); walk_at "mine step"))
local macro_rules | `(tactic| walk_at "mine go4") => `(tactic| repeat' ((fail_if_success (with_reducible show wpAny _ _ (exec (Stmt.For _ _ _ _ _) _) _ _ _)); (fail_if_success (with_reducible show ForPost _ _ _ _ _ _ _ _));  (fail_if_success (with_reducible show wpAny _ _ (call (Value.ref _) _) _ _ _)); (fail_if_success (with_reducible show wpAny _ _ (subscriptTail _ _ (Value.ref _) (Value.ref _)) _ _ _)); (fail_if_success (with_reducible show wpAny _ _ (pyIter _) _ _ _)); (fail_if_success (with_reducible show wpAny _ _ (storeName _ _ _) _ _ _)); (fail_if_success (with_reducible show RetPost _ _ _ _ _ _)); (fail_if_success (with_reducible show wpAny _ _ (call (Value.builtin "len") _) _ _ _)); (fail_if_success (with_reducible show wpAny _ _ (binaryOp Operator.Add (Value.ref _) (Value.ref _)) _ _ _)); walk_at "mine step"))
local macro_rules | `(tactic| walk_at "mine to comp") => `(tactic| repeat' ((fail_if_success (with_reducible show LCg.CompSrc _ _ _ _ _ _ _ _ _ _ _ _ _ _)); walk_at "mine step"))
set_option maxRecDepth 100000
set_option maxHeartbeats 8000000
set_option Elab.async false
def clN (d : Int) : Nat := (d.fmod 64 + 128 * (d.fdiv 64).fmod 2).toNat
theorem clN_eq (d : Int) : d.fmod 64 + 128 * (d.fdiv 64).fmod 2 = (clN d : Nat) := by
  unfold clN
  rw [Int.fmod_eq_emod_of_nonneg _ (by decide), Int.fmod_eq_emod_of_nonneg _ (by decide)]
  omega
theorem clN_ok (d : Int) : clN d < 256 ∧ clN d / 64 % 2 = 0 := by
  have h := clN_eq d
  rw [Int.fmod_eq_emod_of_nonneg _ (by decide), Int.fmod_eq_emod_of_nonneg _ (by decide)] at h
  omega
def stN (d : Int) : Nat := (65536 + d.fmod 65536).toNat
theorem stN_eq (d : Int) : 65536 + d.fmod 65536 = (stN d : Nat) := by
  unfold stN
  rw [Int.fmod_eq_emod_of_nonneg _ (by decide)]
  omega
theorem stN_ok (d : Int) : 65536 ≤ stN d ∧ stN d < 131072 := by
  have h := stN_eq d
  rw [Int.fmod_eq_emod_of_nonneg _ (by decide)] at h
  omega
theorem ali_le {a b : Nat} (ha : 65536 ≤ a ∧ a < 131072) (hb : 65536 ≤ b ∧ b < 131072) : ∀ i, i ≤ 4 → aliN (alikeN a b) i ≤ 1000 := by
  have v0 : alikeN a b < 16 := by
    by_cases h : a = b
    · subst h
      rw [alikeN, if_neg (by simp)]
      decide
    · exact part_top (k := 16) (by omega) (part_alike h)
  have v1 : aliN (alikeN a b) 1 < 28 := by simp only [aliN]; omega
  have v2 : aliN (alikeN a b) 2 < 46 := by rw [aliN]; omega
  have v3 : aliN (alikeN a b) 3 < 74 := by rw [aliN]; omega
  have v4 : aliN (alikeN a b) 4 < 200 := by rw [aliN]; omega
  intro i hi
  have : i = 0 ∨ i = 1 ∨ i = 2 ∨ i = 3 ∨ i = 4 := by omega
  rcases this with rfl | rfl | rfl | rfl | rfl
  · show alikeN a b ≤ 1000; omega
  all_goals omega
theorem lens_le (cs : List Nat) {i : Nat} (hi : i ≤ 4) : (knwN cs i).length ≤ 1000 := by
  rw [knw_len cs hi]
  have : i = 0 ∨ i = 1 ∨ i = 2 ∨ i = 3 ∨ i = 4 := by omega
  rcases this with rfl | rfl | rfl | rfl | rfl <;> decide
theorem rsmall1 {n : Nat} (h : n ≤ 1000) : Builtin.Range.small 0 ((n : Nat) : Int) 1 = true := by
  unfold Builtin.Range.small
  rw [rangeSize_nat]
  simp [Builtin.Range.rangeFitsLong]
  omega
theorem pow_bits {j : Nat} (h : j ≤ 1000) : ((2 : Int) ^ (j : Int).toNat).natAbs < 2 ^ 1001 := by
  rw [Int.toNat_natCast, Int.natAbs_pow]
  exact Nat.pow_lt_pow_right (by decide) (by omega)
theorem sum_two (l : List Nat) (f : Nat → Int) : (l.map fun i => 2 * f i).sum = 2 * (l.map f).sum := by
  induction l with
  | nil => rfl
  | cons a r ih => simp only [List.map_cons, List.sum_cons, ih]; omega
theorem end_sum : ∀ ks : List Nat, ((List.range ks.length).map (fun i => ((ks.getD i 0 : Nat) : Int) * 2 ^ i)).sum = ((bval ks : Nat) : Int)
  | [] => rfl
  | b :: r => by
    rw [List.length_cons, List.range_succ_eq_map, List.map_cons, List.sum_cons, List.map_map]
    have e : (fun i => (((b :: r).getD i 0 : Nat) : Int) * 2 ^ i) ∘ Nat.succ = fun i => 2 * (((r.getD i 0 : Nat) : Int) * 2 ^ i) := by
      funext i
      simp only [Function.comp, Nat.succ_eq_add_one, List.getD_cons_succ, Int.pow_succ]
      rw [Int.mul_comm (2 ^ i) 2, ← Int.mul_assoc, ← Int.mul_assoc, Int.mul_comm _ 2]
    rw [e, sum_two, end_sum r, bval]
    simp
theorem end_val (ks : List Nat) {n : Nat} (hn : n = ks.length) : ((rangeKs 0 n).map (fun k => ((ks.getD k.toNat 0 : Nat) : Int) * 2 ^ k.toNat)).sum = ((bval ks : Nat) : Int) := by
  subst hn
  rw [← end_sum, rangeKs, List.map_map]
  congr 1
  apply List.map_congr_left
  intro i _
  simp [Function.comp]
theorem nw7 {g h : Heap} {L : Addr} {p1 p2 p3 p4 p5 p6 p7 p8 : Addr × Obj} (N : News g L h [p1, p2, p3, p4, p5, p6, p7, p8]) : News g L h [p1, p4, p3, p5, p6, p7, p8] := nwSub N (by intro p hp; simp only [List.mem_cons, List.not_mem_nil, or_false] at hp ⊢; rcases hp with rfl | rfl | rfl | rfl | rfl | rfl | rfl <;> simp)
theorem lt_name {a b : Nat} (_ : a < b) : ∃ x, x = b := ⟨b, rfl⟩
theorem pow2_ne (k : Nat) : (2 : Int) ^ k ≠ 0 := by
  induction k with
  | zero => decide
  | succ n ih => rw [Int.pow_succ]; omega
theorem ali_cast (a i : Nat) : ((aliN a i : Nat) : Int) + 2 * ((aliN a i / 4 : Nat) : Int) + 6 = ((aliN a (i + 1) : Nat) : Int) := by
  show _ = ((aliN a i + 2 * (aliN a i / 4) + 6 : Nat) : Int)
  omega
theorem mod_pow (n k : Nat) : ((n : Nat) : Int).fmod (2 ^ k) = ((n % 2 ^ k : Nat) : Int) := by
  rw [show ((2 : Int) ^ k) = ((2 ^ k : Nat) : Int) by simp, Int.fmod_eq_emod_of_nonneg _ (Int.natCast_nonneg _)]
  rfl
theorem law01 : PySem.Challenge.rw_pu0001_01.Holds := hd01 (by
  w_strict (
    k_fill
    intro w s₀ s₁ mg mb G Y fa o pm cd doc dV kV ho hd hcd hD hmg hg args vals as hpre hlay hrd hwl hlo
    have KX := kIn_of Y
    k_behind G ho hd hcd hD hmg hpre hlay hrd hwl hlo cd
    rename Top _ _ _ _ _ _ => T
    rename Below _ _ _ _ => B
    rename Fr _ _ _ _ => F
    rename News _ _ _ _ => N
    rename IntsAre _ _ => hI
    rename Heap.IsList _ _ _ => hL
    rename Dflts _ _ _ _ _ _ => z1
    rename Glob _ _ _ _ _ _ _ _ => z2
    rename Heap.CodeRec _ _ _ => z3
    rename CellsAre _ _ _ => z4
    clear z1 z2 z3 z4
    refine wpAny_mono (Q := RetPost s₁.heap s₁.heap.objs.size s₁ (fun v _ => v = .bool true)) (E := fun _ _ => False) ?body ?post (fun _ _ x => x.elim)
    case post =>
      rintro f s' ⟨m', news', h', tk', rfl, F', N', hv⟩
      clear N F
      cases f with
      | ret v =>
        have hv' : v = .bool true := hv
        subst hv'
        k_steps
      | _ => exact absurd hv (by intro e; cases e)
    rename_i x1 x2 x3 x4 x5 a1 a2 x6 a3 a4 ns x7 x8 x9 x10 x11 l1 l2 sc svs l3 x12 x13 x14 x15 hlen x16 h1 tk1 oc hoc
    clear x1 x2 x3 x4 x5 x6 x7 x8 x9 x10 x11 x12 x13 x14 x15 x16 G Y ho hg
    have B0 : Below callerA s₁.heap [] s₁.heap := B
    have hoc' : oc.data = .cell none := hoc
    have F0 : Fr s₁.heap s₁.heap.objs.size h1 (fun y => if y = Str.ofString "script" then some (.ref sc) else none) := F
    clear B F hoc
    generalize s₁.heap.objs.size = L at F0 N ⊢
    dsimp only
    walk_at "mine go"
    rename Fr _ _ _ _ => F1
    rename News _ _ _ _ => N1
    refine slice_L (s := ⟨_, _, _, _, _⟩) F1 N1 (stays_list F1.keep hL) (by constructor) (by constructor) (by constructor) (by decide) ?_ (by have := hI.length; simp; omega)
    intro D2 h4 F4 N4 l4
    have hss : svs.length ≤ 63 := by have := hI.length; omega
    rw [show slicePick svs.toArray none (some 6) none = (svs.take 6).toArray from slicePick_upto' svs.toArray 6] at N4
    have hI6 := hI.take 6
    walk_at "mine go"
    rename Fr _ _ _ _ => F5
    rename News _ _ _ _ => N5
    refine slice_L (s := ⟨_, _, _, _, _⟩) F5 N5 (stays_list F5.keep hL) (by constructor) (by constructor) (by constructor) (by decide) ?_ (by simp; omega)
    intro D3 h6 F6 N6 l6
    rw [show slicePick svs.toArray none (some 6) none = (svs.take 6).toArray from slicePick_upto' svs.toArray 6] at N6
    walk_at "mine go"
    refine len_list (News.isList N6 (.head _)) (by simp; omega) ?_
    walk_at "mine go"
    rename Fr _ _ _ _ => F7
    rename News _ _ _ _ => N7
    refine slice_L (s := ⟨_, _, _, _, _⟩) F7 N7 (News.isList (items := ([_, _, _, _, _, _] : List Value).toArray) N7 (.tail _ (.head _))) (by constructor) (by constructor) (by constructor) (by decide) ?_ (by simp)
    intro D4 h8 F8 N8 l8
    rw [slicePick_from'] at N8
    walk_at "mine go"
    refine add_L F8 N8 (vs := svs.take 6) (ws := List.drop _ _) (News.isList N8 (.tail _ (.tail _ (.tail _ (.head _))))) (News.isList N8 (.head _)) ?_ (by simp; omega)
    intro D5 h9 F9 N9 l9
    have hdv := hI6.append (IntsAre.drop (.cons 61455 (tk1 + 1) (.cons 2607 (tk1 + 1 + 1) (.cons 127 (tk1 + 1 + 1 + 1) (.cons 0 (tk1 + 1 + 1 + 1 + 1) (.cons 37 (tk1 + 1 + 1 + 1 + 1 + 1) (.cons 74 (tk1 + 1 + 1 + 1 + 1 + 1 + 1) .nil)))))) (svs.take 6).toArray.size)
    obtain ⟨d0, d1, d2, d3, d4, d5, t0, t1, t2, t3, t4, t5, hdv⟩ := ints6 hdv (by have := hI.length; simp; omega)
    have hL5 : L + 1 < D5 := l9 (L + 1, oc) (by simp)
    rw [show List.take 6 svs ++ List.drop (List.take 6 svs).toArray.size #[Value.int 61455 (tk1 + 1), Value.int 2607 (tk1 + 1 + 1), Value.int 127 (tk1 + 1 + 1 + 1), Value.int 0 (tk1 + 1 + 1 + 1 + 1), Value.int 37 (tk1 + 1 + 1 + 1 + 1 + 1), Value.int 74 (tk1 + 1 + 1 + 1 + 1 + 1 + 1)].toList = _ from hdv] at N9
    have N10 : News s₁.heap L h9 [(D5, listOf #[Value.int d0 t0, .int d1 t1, .int d2 t2, .int d3 t3, .int d4 t4, .int d5 t5] 0), (L + 1, oc)] := nwSub N9 (by intro p hp; simp only [List.mem_cons, List.not_mem_nil, or_false] at hp ⊢; rcases hp with rfl | rfl <;> simp)
    clear N9 N8 F8 N7 F7 hdv hI6 hI hL hss hlen
    walk_at "mine go"
    rename Fr _ _ _ _ => F11
    rename News _ _ _ _ => N11
    rename IntsAre _ _ => hys
    rename_i cl h11 tk11 o11 t11
    obtain ⟨o1, o2, o3⟩ := o11
    obtain ⟨cs, hcs, hcl, hc⟩ : ∃ cs : List Nat, List.map (fun k' => k'.fmod 64 + 128 * (k'.fdiv 64).fmod 2) [d2, d3, d4, d5] = zs cs ∧ cs.length = 4 ∧ ∀ c ∈ cs, c < 256 ∧ c / 64 % 2 = 0 := by
      refine ⟨[clN d2, clN d3, clN d4, clN d5], ?_, rfl, ?_⟩
      · simp only [List.map_cons, List.map_nil, clN_eq, zs]
        rfl
      · intro c hc
        simp only [List.mem_cons, List.not_mem_nil, or_false] at hc
        rcases hc with rfl | rfl | rfl | rfl <;> exact clN_ok _
    rw [hcs] at hys
    rw [show 65536 + ([d0, d1, d2, d3, d4, d5].getD (Int.toNat 0) 0).fmod 65536 = ((stN d0 : Nat) : Int) from stN_eq d0]
    have hs0 := stN_ok d0
    have hs1 := stN_ok d1
    have N12 : News s₁.heap L h11 [(cl, listOf ys.toArray ys.length), (D5, listOf #[Value.int d0 t0, .int d1 t1, .int d2 t2, .int d3 t3, .int d4 t4, .int d5 t5] 0), (L + 1, oc)] := nwSub N11 (by intro p hp; simp only [List.mem_cons, List.not_mem_nil, or_false] at hp ⊢; rcases hp with rfl | rfl | rfl <;> simp)
    clear N11
    refine callsS_use0 (law_run w (stN d0) cs _ cl ys ys.length hys hc (iter_len hs0.2 hcl) (by omega)) B0 F11 KX N12 T (by simp) (by intro q hq; rw [List.mem_singleton] at hq; subst hq; exact ⟨(N12 _ (.head _)).1, (N12 _ (.head _)).2.1, by simp⟩) rfl rfl (by decide) ?_
    rintro v1 news1 h12 tk12 ⟨r1, vs1, e1, rfl, rfl, hv1⟩ F12 N13 Ap1
    clear N12 F11
    walk_at "mine go"
    rename Fr _ _ _ _ => F13
    rename News _ _ _ _ => N14
    rw [show 65536 + ([d0, d1, d2, d3, d4, d5].getD (Int.toNat 1) 0).fmod 65536 = ((stN d1 : Nat) : Int) from stN_eq d1]
    refine callsS_use0 (law_run w (stN d1) cs _ cl ys ys.length hys hc (iter_len hs1.2 hcl) (by omega)) B0 F13 KX N14 T (by simp) (by intro q hq; rw [List.mem_singleton] at hq; subst hq; exact ⟨(N14 _ (.tail _ (.head _))).1, (N14 _ (.tail _ (.head _))).2.1, by simp⟩) rfl rfl (by decide) ?_
    rintro v2 news2 h14 tk14 ⟨r2, vs2, e2, rfl, rfl, hv2⟩ F14 N15 Ap2
    have ne1 : r1 ≠ cl := Ap1 _ (.head _) _ (.head _)
    have ne2 : r1 ≠ L + 1 := Ap1 _ (.head _) _ (.tail _ (.tail _ (.head _)))
    have ne3 : r2 ≠ r1 := Ap2 _ (.head _) _ (.head _)
    have ne4 : r2 ≠ cl := Ap2 _ (.head _) _ (.tail _ (.head _))
    have ne5 : r2 ≠ L + 1 := Ap2 _ (.head _) _ (.tail _ (.tail _ (.tail _ (.head _))))
    rw [hcl] at hv1 hv2
    have g1 : ∀ j, j ≤ 4 → ∃ t, vs1[j]? = some (.int (iterN (stN d0) (cs.take j) : Nat) t) := fun j hj => hv1.get j _ (by rw [List.getElem?_map, runTo_at _ _ _ _ hj]; rfl)
    have g2 : ∀ j, j ≤ 4 → ∃ t, vs2[j]? = some (.int (iterN (stN d1) (cs.take j) : Nat) t) := fun j hj => hv2.get j _ (by rw [List.getElem?_map, runTo_at _ _ _ _ hj]; rfl)
    have N16 : News s₁.heap L h14 [(r2, listOf vs2.toArray e2), (r1, listOf vs1.toArray e1), (cl, listOf ys.toArray ys.length), (L + 1, oc)] := nwSub N15 (by intro p hp; simp only [List.mem_cons, List.not_mem_nil, or_false, List.mem_append] at hp ⊢; rcases hp with rfl | rfl | rfl | rfl <;> simp)
    clear N15 N14 F13 Ap1 Ap2
    walk_at "mine go2"
    obtain ⟨ta, hta⟩ := g1 0 (by decide)
    refine item_list (News.isList (by assumption) (.tail _ (.head _))) (by decide) (by decide) (by simpa using hta) ?_
    walk_at "mine go2"
    obtain ⟨tb, htb⟩ := g2 0 (by decide)
    refine item_list (News.isList (by assumption) (.head _)) (by decide) (by decide) (by simpa using htb) ?_
    walk_at "mine go2"
    rename Fr _ _ _ _ => F15
    rename News _ _ _ _ => N17
    refine calls_use (rest := [(r2, listOf vs2.toArray e2), (r1, listOf vs1.toArray e1), (cl, listOf ys.toArray ys.length), (L + 1, oc)]) (law_alike w (stN d0) (stN d1) _ _) B0 F15 KX N17 T (by simp) (by simp) rfl rfl (by decide) ?_
    rintro v3 news3 h15 tk15 ⟨⟨u3, rfl⟩, rfl⟩ F16 N18 _
    have N19 : News s₁.heap L h15 [(r2, listOf vs2.toArray e2), (r1, listOf vs1.toArray e1), (cl, listOf ys.toArray ys.length), (L + 1, oc)] := N18
    clear F15 N17 N18
    walk_at "mine go2"
    refine wpAny_For ?_
    walk_at "mine go2"
    rename Fr _ _ _ _ => F20
    rename News _ _ _ _ => N20
    rename IsRange _ _ _ _ _ _ _ _ => hR
    rename _ = Data.cell (some _) => hod
    rename _ ∧ _ ∧ _ ∧ _ < _ => hlt
    obtain ⟨lt1, lt2, lt3, lt4⟩ := hlt
    refine for_range (n := 4) (fun i g' m' news' => ∃ kl kvs e oc' av tv ev rv pv, g' = s₁.heap ∧ i ≤ 4 ∧ news' = [(kl, listOf kvs.toArray e), (r2, listOf vs2.toArray e2), (r1, listOf vs1.toArray e1), (cl, listOf ys.toArray ys.length), (L + 1, oc')] ∧ oc'.data = .cell (some (.ref kl)) ∧ (kl ≠ r2 ∧ kl ≠ r1 ∧ kl ≠ cl ∧ kl ≠ L + 1) ∧ IntsAre kvs (zs (knwN cs i)) ∧
      m' = (fun y => if y = Str.ofString "alike" then some (.int (aliN (alikeN (stN d0) (stN d1)) i : Nat) av) else if y = Str.ofString "turn" then tv else if y = Str.ofString "end" then ev else if y = Str.ofString "run" then rv else if y = Str.ofString "parted" then pv else if y = Str.ofString "other" then some (.ref r2) else if y = Str.ofString "one" then some (.ref r1) else if y = Str.ofString "closings" then some (.ref cl) else if y = Str.ofString "drawn" then some (.ref D5) else if y = Str.ofString "script" then some (.ref sc) else none)) rfl F20 N20 ?_ hR (by decide) (by decide) ?_ ?_
    · refine ⟨_, [], 0, _, u3, none, none, none, none, rfl, by decide, rfl, hod, ⟨Nat.ne_of_gt lt1, Nat.ne_of_gt lt2, Nat.ne_of_gt lt3, Nat.ne_of_gt lt4⟩, .nil, ?_⟩
      refine map_ext [Str.ofString "alike", Str.ofString "turn", Str.ofString "end", Str.ofString "run", Str.ofString "parted"] ?_ ?_
      · (repeat' first | exact List.forall_mem_nil _ | refine List.forall_mem_cons.mpr ⟨rfl, ?_⟩)
      · intro y hy
        simp only [List.forall_mem_cons, List.not_mem_nil, false_implies, implies_true, and_true, ne_eq] at hy
        simp [hy]
    · rintro i g' m' news' h tk' I io t' hi ⟨kl, kvs, e, oc', av, tv, ev, rv, pv, rfl, _, rfl, hod', hkn, hkv, rfl⟩ F' N' Ap
      obtain ⟨k1, k2, k3, k4⟩ := hkn
      have I1 : kl ≠ I := Ap _ (.head _)
      have I2 : r2 ≠ I := Ap _ (.tail _ (.head _))
      have I3 : r1 ≠ I := Ap _ (.tail _ (.tail _ (.head _)))
      have I4 : cl ≠ I := Ap _ (.tail _ (.tail _ (.tail _ (.head _))))
      have I5 : L + 1 ≠ I := Ap _ (.tail _ (.tail _ (.tail _ (.tail _ (.head _)))))
      have hal := ali_le hs0 hs1 i (by omega)
      clear F20 N20 hR hod Ap
      rw [show (0 : Int) + 1 * (i : Int) = ((i : Nat) : Int) by omega]
      walk_at "mine go3"
      rw [show ((aliN (alikeN (stN d0) (stN d1)) i : Nat) : Int).fdiv 4 = ((aliN (alikeN (stN d0) (stN d1)) i / 4 : Nat) : Int) by rw [Int.fdiv_eq_ediv_of_nonneg _ (by decide)]; omega]
      refine mul_int ?_ (IntMulOk.of_le (m := 2) (n := 10) (intBits_le_iff.mpr (by decide)) (intBits_le_iff.mpr (by omega)) (by decide))
      walk_at "mine go3"
      obtain ⟨hci, hc256⟩ := at_i hcl hc hs0.1 hi
      obtain ⟨tc, htc⟩ := hys.get i (cs.getD i 0 : Nat) (by rw [List.getElem?_map, hci]; rfl)
      refine item_list (News.isList (by assumption) (.tail _ (.tail _ (.tail _ (.tail _ (.head _)))))) (by omega) (by omega) (by simpa using htc) ?_
      walk_at "mine go3"
      rename Fr _ _ _ _ => F21
      rename News _ _ _ _ => N21
      refine calls_use (rest := [(I, io), (kl, listOf kvs.toArray e), (r2, listOf vs2.toArray e2), (r1, listOf vs1.toArray e1), (cl, listOf ys.toArray ys.length), (L + 1, oc')]) (law_settled w (knwN cs i) (cs.getD i 0) _ kl kvs e hkv (knw_le cs i) hc256 (lens_le cs (by omega))) B0 F21 KX N21 T (by simp) (by intro q hq; rw [List.mem_singleton] at hq; subst hq; exact ⟨(N21 _ (.tail _ (.head _))).1, by simp⟩) rfl rfl (by decide) ?_
      rintro v22 news22 h22 tk22 ⟨kr, kws, ek, rfl, rfl, hkw⟩ F22 N22 Ap22
      have q1 : kr ≠ I := Ap22 _ (.head _) _ (.head _)
      have q2 : kr ≠ kl := Ap22 _ (.head _) _ (.tail _ (.head _))
      have q3 : kr ≠ r2 := Ap22 _ (.head _) _ (.tail _ (.tail _ (.head _)))
      have q4 : kr ≠ r1 := Ap22 _ (.head _) _ (.tail _ (.tail _ (.tail _ (.head _))))
      have q5 : kr ≠ cl := Ap22 _ (.head _) _ (.tail _ (.tail _ (.tail _ (.tail _ (.head _)))))
      have q6 : kr ≠ L + 1 := Ap22 _ (.head _) _ (.tail _ (.tail _ (.tail _ (.tail _ (.tail _ (.head _))))))
      have N23 : News s₁.heap L h22 [(kr, listOf kws.toArray ek), (I, io), (r2, listOf vs2.toArray e2), (r1, listOf vs1.toArray e1), (cl, listOf ys.toArray ys.length), (L + 1, oc')] := nwSub N22 (by intro p hp; simp only [List.mem_cons, List.not_mem_nil, or_false, List.mem_append] at hp ⊢; rcases hp with rfl | rfl | rfl | rfl | rfl | rfl <;> simp)
      clear F21 N21 N22 Ap22
      have hkw' : IntsAre kws (zs (knwN cs (i + 1))) := hkw
      clear hkw
      have hkl := knw_len cs (i := i + 1) (by omega)
      have hL1000 := lens_le cs (i := i + 1) (by omega)
      have hkwl : kws.length = (knwN cs (i + 1)).length := by rw [hkw'.length, List.length_map]
      have hkwg : ∀ j b, (knwN cs (i + 1))[j]? = some b → ∃ t : Tok, kws[j]? = some (Value.int ((b : Nat) : Int) t) := fun j b hb => hkw'.get j _ (by rw [List.getElem?_map, hb]; rfl)
      have hkb := knw_le cs (i + 1)
      walk_at "mine step"
      walk_at "mine go4"
      refine len_list (News.isList (by assumption) (.head _)) (by have := hkw'.length; simp at this ⊢; have := lens_le cs (i := i + 1) (by omega); omega) ?_
      walk_at "mine to comp"
      rename Fr _ _ _ _ => F30
      rename News _ _ _ _ => N30
      rename IsRange _ _ _ _ _ _ _ _ => hR2
      rename _ = Data.cell (some (Value.ref kr)) => hod2
      simp only [List.length_map, List.size_toArray, hkwl] at hR2
      refine LCg.CompSrc.range rfl F30 N30 hR2 (rsmall1 hL1000) (rangeSize_nat _ _) (by rw [sizeLine_eq]; omega) ?_
      intro gc
      refine kcf_range (fun k => (((knwN cs (i + 1)).getD k.toNat 0 : Nat) : Int) * 2 ^ k.toNat) ?_ ?_
      · intro k tq I' oI' C' oC' D' m2 ys' h' tk' E' hlo hhi hC' hx' F' N' off' ne' hMark'
        clear F30 N30
        obtain ⟨j, rfl⟩ := Int.eq_ofNat_of_zero_le hlo
        have hj : j < (knwN cs (i + 1)).length := by omega
        have hgj : (knwN cs (i + 1))[j]? = some ((knwN cs (i + 1)).getD j 0) := by rw [List.getD_eq_getElem?_getD, List.getElem?_eq_getElem hj]; rfl
        have hbj := hkb _ (List.mem_of_getElem? hgj)
        obtain ⟨tj, htj⟩ := hkwg j _ hgj
        walk_at "mine go3"
        refine item_list (News.isList (by assumption) (.tail _ (.tail _ (.tail _ (.head _))))) (by omega) (by omega) (x := Value.int (((knwN cs (i + 1)).getD j 0 : Nat) : Int) tj) (by show kws.toArray[j]? = _; rw [List.getElem?_toArray]; exact htj) ?_
        walk_at "mine go3"
        refine pow_int_small (by omega) (by omega) (by decide) ?_
        walk_at "mine go3"
        refine mul_int ?_ (IntMulOk.of_le (m := 1) (n := 1001) (intBits_le_iff.mpr (by omega)) (intBits_le_iff.mpr (pow_bits (by omega))) (by decide))
        walk_at "mine go3"
        exact ⟨rfl, _, rfl⟩
      · intro yss hyss
        intro D7 h7 tk7 F31 N31 off7
        clear F30 N30
        walk_at "mine go3"
        rename Fr _ _ _ _ => F40
        rename News _ _ _ _ => N40
        rw [end_val (knwN cs (i + 1)) (by omega)] at F40
        refine wpAny_For ?_
        walk_at "mine go3"
        rename Fr _ _ _ _ => F41
        rename News _ _ _ _ => N41
        rename _ ∧ _ ∧ _ ∧ _ ∧ _ ∧ _ ∧ _ < _ => hlt7
        obtain ⟨_, lt71, lt72, lt73, lt74, lt75, lt76⟩ := hlt7
        obtain ⟨lp, elp⟩ := lt_name lt71
        subst elp
        obtain ⟨oc2, hoc2, hsub⟩ : ∃ o2 : Obj, o2.data = Data.cell (some (Value.ref kr)) ∧ News s₁.heap L _ [(lp, listOf #[Value.ref r1, Value.ref r2] 0), (I, io), (kr, listOf kws.toArray ek), (r2, listOf vs2.toArray e2), (r1, listOf vs1.toArray e1), (cl, listOf ys.toArray ys.length), (L + 1, o2)] := ⟨_, by assumption, nw7 N41⟩
        clear N41
        have htold0 := told hcl hc hs0.1 (i := i + 1) (by omega)
        have htold1 := told hcl hc hs1.1 (i := i + 1) (by omega)
        obtain ⟨tr1, htr1⟩ := g1 (i + 1) (by omega)
        obtain ⟨tr2, htr2⟩ := g2 (i + 1) (by omega)
        have hta' : vs1[0]? = some (.int ((stN d0 : Nat) : Int) ta) := hta
        have htb' : vs2[0]? = some (.int ((stN d1 : Nat) : Int) tb) := htb
        have hkwf : IntsAre kws (zs (knwN cs (i + 1))) := by assumption
        obtain ⟨te, ta2, F41⟩ : ∃ te ta2, Fr s₁.heap L _ (fun y => if y = Str.ofString "end" then some (.int ((bval (knwN cs (i + 1)) : Nat) : Int) te) else if y = Str.ofString "alike" then some (.int (((aliN (alikeN (stN d0) (stN d1)) i : Nat) : Int) + 2 * ((aliN (alikeN (stN d0) (stN d1)) i / 4 : Nat) : Int) + 6) ta2) else if y = Str.ofString "turn" then some (.int ((i : Nat) : Int) t') else if y = Str.ofString "alike" then some (.int ((aliN (alikeN (stN d0) (stN d1)) i : Nat) : Int) av) else if y = Str.ofString "turn" then tv else if y = Str.ofString "end" then ev else if y = Str.ofString "run" then rv else if y = Str.ofString "parted" then pv else if y = Str.ofString "other" then some (.ref r2) else if y = Str.ofString "one" then some (.ref r1) else if y = Str.ofString "closings" then some (.ref cl) else if y = Str.ofString "drawn" then some (.ref D5) else if y = Str.ofString "script" then some (.ref sc) else none) := ⟨_, _, F41⟩
        refine for_list (items := #[Value.ref r1, Value.ref r2]) (fun j g' m' news' => ∃ rv2 te ta2 tt, g' = s₁.heap ∧ news' = [(lp, listOf #[Value.ref r1, Value.ref r2] 0), (I, io), (kr, listOf kws.toArray ek), (r2, listOf vs2.toArray e2), (r1, listOf vs1.toArray e1), (cl, listOf ys.toArray ys.length), (L + 1, oc2)] ∧
          m' = (fun y => if y = Str.ofString "end" then some (.int ((bval (knwN cs (i + 1)) : Nat) : Int) te) else if y = Str.ofString "alike" then some (.int (((aliN (alikeN (stN d0) (stN d1)) i : Nat) : Int) + 2 * ((aliN (alikeN (stN d0) (stN d1)) i / 4 : Nat) : Int) + 6) ta2) else if y = Str.ofString "turn" then some (.int ((i : Nat) : Int) tt) else if y = Str.ofString "run" then rv2 else if y = Str.ofString "parted" then pv else if y = Str.ofString "other" then some (.ref r2) else if y = Str.ofString "one" then some (.ref r1) else if y = Str.ofString "closings" then some (.ref cl) else if y = Str.ofString "drawn" then some (.ref D5) else if y = Str.ofString "script" then some (.ref sc) else none)) rfl F41 hsub ?_ ?_ ?_ ?_
        · refine ⟨rv, te, ta2, t', rfl, rfl, ?_⟩
          refine map_ext [Str.ofString "end", Str.ofString "alike", Str.ofString "turn", Str.ofString "run"] ?_ ?_
          · (repeat' first | exact List.forall_mem_nil _ | refine List.forall_mem_cons.mpr ⟨rfl, ?_⟩)
          · intro y hy
            simp only [List.forall_mem_cons, List.not_mem_nil, false_implies, implies_true, and_true, ne_eq] at hy
            simp [hy]
        · rintro _ g' m' news' h ⟨rv2, te, ta2, tt, rfl, rfl, rfl⟩ F N
          exact News.isList N (.head _)
        · rintro j g' m' news' h tk'' I2 io2 v hv ⟨rv2, te, ta2, tt, rfl, rfl, rfl⟩ F' N' Ap7
          clear F41 hsub
          obtain ⟨rr, vsr, er, nr, trr, hmem, hit, htoldr, rfl⟩ : ∃ (rr : Addr) (vsr : List Value) (er nr : Nat) (trr : Tok), (rr, listOf vsr.toArray er) ∈ [(lp, listOf #[Value.ref r1, Value.ref r2] 0), (I, io), (kr, listOf kws.toArray ek), (r2, listOf vs2.toArray e2), (r1, listOf vs1.toArray e1), (cl, listOf ys.toArray ys.length), (L + 1, oc2)] ∧ vsr[i + 1]? = some (Value.int ((nr : Nat) : Int) trr) ∧ nr % 2 ^ (knwN cs (i + 1)).length = bval (knwN cs (i + 1)) ∧ v = .ref rr := by
            match j, hv with
            | 0, hv => exact ⟨r1, vs1, e1, _, tr1, by simp, htr1, htold0, by simpa using hv.symm⟩
            | 1, hv => exact ⟨r2, vs2, e2, _, tr2, by simp, htr2, htold1, by simpa using hv.symm⟩
            | (j + 2), hv => simp at hv
          walk_at "mine go3"
          refine item_list (News.isList (by assumption) (.tail _ hmem)) (by omega) (by omega) (x := Value.int ((nr : Nat) : Int) trr) (by show vsr.toArray[((i : Int) + 1).toNat]? = _; rw [List.getElem?_toArray, show ((i : Int) + 1).toNat = i + 1 by omega]; exact hit) ?_
          walk_at "mine go3"
          refine len_list (News.isList (by assumption) (.tail _ (.tail _ (.tail _ (.head _))))) (by simp; omega) ?_
          walk_at "mine go3"
          refine pow_int_small (by omega) (by simp; omega) (by decide) ?_
          refine mod_int (pow2_ne _) ?_
          simp only [List.size_toArray, hkwl, Int.toNat_natCast]
          rw [mod_pow nr (knwN cs (i + 1)).length, htoldr]
          walk_at "mine go3"
          · exact absurd rfl (by assumption)
          · rename Fr _ _ _ _ => F80
            rename News _ _ _ _ => N80
            refine forPost F80 N80 Ap7 ⟨some (.ref rr), te, ta2, tt, rfl, rfl, ?_⟩
            refine map_ext [Str.ofString "run", Str.ofString "end", Str.ofString "alike", Str.ofString "turn"] ?_ ?_
            · (repeat' first | exact List.forall_mem_nil _ | refine List.forall_mem_cons.mpr ⟨rfl, ?_⟩)
            · intro y hy
              simp only [List.forall_mem_cons, List.not_mem_nil, false_implies, implies_true, and_true, ne_eq] at hy
              simp [hy]
        · rintro g' m' news' h tk'' ⟨rv2, te, ta2, tt, rfl, rfl, rfl⟩ F N
          clear F41 hsub
          rw [ali_cast] at F
          have hal2 := ali_le hs0 hs1 (i + 1) (by omega)
          walk_at "mine go3"
          refine item_list (News.isList (by assumption) (.tail _ (.tail _ (.tail _ (.tail _ (.head _)))))) (by decide) (by decide) (by simpa using hta') ?_
          walk_at "mine go3"
          refine item_list (News.isList (by assumption) (.tail _ (.tail _ (.tail _ (.head _))))) (by decide) (by decide) (by simpa using htb') ?_
          walk_at "mine go3"
          · rename _ = _ => heq0
            have heq : stN d0 = stN d1 := by omega
            refine item_list (News.isList (by assumption) (.tail _ (.tail _ (.tail _ (.tail _ (.head _)))))) (by omega) (by omega) (x := Value.int ((iterN (stN d0) (List.take (i + 1) cs) : Nat) : Int) tr1) (by show vs1.toArray[((i : Int) + 1).toNat]? = _; rw [List.getElem?_toArray, show ((i : Int) + 1).toNat = i + 1 by omega]; exact htr1) ?_
            walk_at "mine go3"
            refine item_list (News.isList (by assumption) (.tail _ (.tail _ (.tail _ (.head _))))) (by omega) (by omega) (x := Value.int ((iterN (stN d1) (List.take (i + 1) cs) : Nat) : Int) tr2) (by show vs2.toArray[((i : Int) + 1).toNat]? = _; rw [List.getElem?_toArray, show ((i : Int) + 1).toNat = i + 1 by omega]; exact htr2) ?_
            walk_at "mine go3"
            refine xor_int ?_
            dsimp only
            rw [show Builtin.bitXor ((iterN (stN d0) (List.take (i + 1) cs) : Nat) : Int) ((iterN (stN d1) (List.take (i + 1) cs) : Nat) : Int) = 0 by rw [bitXor_nat, heq, Nat.xor_self]; rfl]
            walk_at "mine go3"
            refine pow_int_small (by omega) (by omega) (by decide) ?_
            dsimp only
            walk_at "mine go3"
            refine mod_int (pow2_ne _) ?_
            dsimp only
            rw [Int.zero_fmod]
            walk_at "mine go3"
            rotate_left
            all_goals first | exact absurd rfl (by assumption) | skip
            rename Fr _ _ _ _ => F90
            rename News _ _ _ _ => N90
            obtain ⟨px, F90⟩ : ∃ px, Fr s₁.heap L _ (fun y => if y = Str.ofString "parted" then px else if y = Str.ofString "end" then some (.int ((bval (knwN cs (i + 1)) : Nat) : Int) te) else if y = Str.ofString "alike" then some (.int ((aliN (alikeN (stN d0) (stN d1)) (i + 1) : Nat) : Int) ta2) else if y = Str.ofString "turn" then some (.int ((i : Nat) : Int) tt) else if y = Str.ofString "run" then rv2 else if y = Str.ofString "parted" then pv else if y = Str.ofString "other" then some (.ref r2) else if y = Str.ofString "one" then some (.ref r1) else if y = Str.ofString "closings" then some (.ref cl) else if y = Str.ofString "drawn" then some (.ref D5) else if y = Str.ofString "script" then some (.ref sc) else none) := ⟨_, F90⟩
            refine forPost F90 (nwSub N90 (by intro p hp; simp only [List.mem_cons, List.not_mem_nil, or_false] at hp ⊢; rcases hp with rfl | rfl | rfl | rfl | rfl | rfl <;> simp)) (news' := [(kr, listOf kws.toArray ek), (r2, listOf vs2.toArray e2), (r1, listOf vs1.toArray e1), (cl, listOf ys.toArray ys.length), (L + 1, oc2)]) (by intro p hp; simp only [List.mem_cons, List.not_mem_nil, or_false] at hp; rcases hp with rfl | rfl | rfl | rfl | rfl <;> assumption) ⟨kr, kws, ek, oc2, ta2, some (.int ((i : Nat) : Int) tt), some (.int ((bval (knwN cs (i + 1)) : Nat) : Int) te), rv2, px, rfl, by omega, rfl, hoc2, ⟨q3, q4, q5, q6⟩, hkwf, ?_⟩
            refine map_ext [Str.ofString "alike", Str.ofString "turn", Str.ofString "end", Str.ofString "run", Str.ofString "parted"] ?_ ?_
            · (repeat' first | exact List.forall_mem_nil _ | refine List.forall_mem_cons.mpr ⟨rfl, ?_⟩)
            · intro y hy
              simp only [List.forall_mem_cons, List.not_mem_nil, false_implies, implies_true, and_true, ne_eq] at hy
              simp [hy]
          · rename ¬ (_ = _) => hne0
            have hne : stN d0 ≠ stN d1 := by omega
            have hpx := part_xor (parts hcl hc hs0.1 hs1.1 hs0.2 hs1.2 hne (i := i + 1) (by omega))
            obtain ⟨P, hP⟩ : ∃ P : Int, ((2 ^ aliN (alikeN (stN d0) (stN d1)) (i + 1) : Nat) : Int) = P := ⟨_, rfl⟩
            refine pow_int_small (by omega) (by omega) (by decide) ?_
            dsimp only
            rw [show (2 : Int) ^ (((aliN (alikeN (stN d0) (stN d1)) (i + 1) : Nat) : Int)).toNat = P by rw [← hP]; simp]
            walk_at "mine go3"
            refine item_list (News.isList (by assumption) (.tail _ (.tail _ (.tail _ (.tail _ (.head _)))))) (by omega) (by omega) (x := Value.int ((iterN (stN d0) (List.take (i + 1) cs) : Nat) : Int) tr1) (by show vs1.toArray[((i : Int) + 1).toNat]? = _; rw [List.getElem?_toArray, show ((i : Int) + 1).toNat = i + 1 by omega]; exact htr1) ?_
            walk_at "mine go3"
            refine item_list (News.isList (by assumption) (.tail _ (.tail _ (.tail _ (.head _))))) (by omega) (by omega) (x := Value.int ((iterN (stN d1) (List.take (i + 1) cs) : Nat) : Int) tr2) (by show vs2.toArray[((i : Int) + 1).toNat]? = _; rw [List.getElem?_toArray, show ((i : Int) + 1).toNat = i + 1 by omega]; exact htr2) ?_
            walk_at "mine go3"
            refine xor_int ?_
            dsimp only
            rw [bitXor_nat]
            walk_at "mine go3"
            refine pow_int_small (by omega) (by omega) (by decide) ?_
            dsimp only
            walk_at "mine go3"
            refine mod_int (pow2_ne _) ?_
            dsimp only
            rw [show (((aliN (alikeN (stN d0) (stN d1)) (i + 1) : Nat) : Int) + 1).toNat = aliN (alikeN (stN d0) (stN d1)) (i + 1) + 1 by omega, mod_pow, hpx, hP]
            clear hP
            walk_at "mine go3"
            · exact absurd rfl (by assumption)
            rename Fr _ _ _ _ => F90
            rename News _ _ _ _ => N90
            obtain ⟨px, F90⟩ : ∃ px, Fr s₁.heap L _ (fun y => if y = Str.ofString "parted" then px else if y = Str.ofString "end" then some (.int ((bval (knwN cs (i + 1)) : Nat) : Int) te) else if y = Str.ofString "alike" then some (.int ((aliN (alikeN (stN d0) (stN d1)) (i + 1) : Nat) : Int) ta2) else if y = Str.ofString "turn" then some (.int ((i : Nat) : Int) tt) else if y = Str.ofString "run" then rv2 else if y = Str.ofString "parted" then pv else if y = Str.ofString "other" then some (.ref r2) else if y = Str.ofString "one" then some (.ref r1) else if y = Str.ofString "closings" then some (.ref cl) else if y = Str.ofString "drawn" then some (.ref D5) else if y = Str.ofString "script" then some (.ref sc) else none) := ⟨_, F90⟩
            refine forPost F90 (nwSub N90 (by intro p hp; simp only [List.mem_cons, List.not_mem_nil, or_false] at hp ⊢; rcases hp with rfl | rfl | rfl | rfl | rfl | rfl <;> simp)) (news' := [(kr, listOf kws.toArray ek), (r2, listOf vs2.toArray e2), (r1, listOf vs1.toArray e1), (cl, listOf ys.toArray ys.length), (L + 1, oc2)]) (by intro p hp; simp only [List.mem_cons, List.not_mem_nil, or_false] at hp; rcases hp with rfl | rfl | rfl | rfl | rfl <;> assumption) ⟨kr, kws, ek, oc2, ta2, some (.int ((i : Nat) : Int) tt), some (.int ((bval (knwN cs (i + 1)) : Nat) : Int) te), rv2, px, rfl, by omega, rfl, hoc2, ⟨q3, q4, q5, q6⟩, hkwf, ?_⟩
            refine map_ext [Str.ofString "alike", Str.ofString "turn", Str.ofString "end", Str.ofString "run", Str.ofString "parted"] ?_ ?_
            · (repeat' first | exact List.forall_mem_nil _ | refine List.forall_mem_cons.mpr ⟨rfl, ?_⟩)
            · intro y hy
              simp only [List.forall_mem_cons, List.not_mem_nil, false_implies, implies_true, and_true, ne_eq] at hy
              simp [hy]
    · rintro g' m' news' h tk' ⟨kl, kvs, e, oc', av, tv, ev, rv, pv, rfl, _, rfl, hod', hkn, hkv, rfl⟩ F' N'
      clear F20 N20 hR hod
      obtain ⟨ua, hua⟩ := g1 4 (by decide)
      obtain ⟨ub, hub⟩ := g2 4 (by decide)
      rw [List.take_of_length_le (by omega)] at hua hub
      have hta' : vs1[0]? = some (.int ((stN d0 : Nat) : Int) ta) := hta
      have htb' : vs2[0]? = some (.int ((stN d1 : Nat) : Int) tb) := htb
      walk_at "mine go3"
      refine item_list (News.isList (by assumption) (.tail _ (.tail _ (.head _)))) (by decide) (by decide) (by simpa using hua) ?_
      walk_at "mine go3"
      rename Fr _ _ _ _ => F50
      rename News _ _ _ _ => N50
      refine calls_use (rest := [(kl, listOf kvs.toArray e), (r2, listOf vs2.toArray e2), (r1, listOf vs1.toArray e1), (cl, listOf ys.toArray ys.length), (L + 1, oc')]) (law_begin w (stN d0) cs _ cl ys ys.length (by omega) hys hc (iter_len hs0.2 hcl) (by omega)) B0 F50 KX N50 T (by simp) (by intro q hq; rw [List.mem_singleton] at hq; subst hq; exact ⟨(N50 _ (.tail _ (.tail _ (.tail _ (.head _))))).1, by simp⟩) rfl rfl (by decide) ?_
      rintro v51 news51 h51 tk51 ⟨⟨u51, rfl⟩, rfl⟩ F51 N51 _
      have N52 : News s₁.heap L h51 [(kl, listOf kvs.toArray e), (r2, listOf vs2.toArray e2), (r1, listOf vs1.toArray e1), (cl, listOf ys.toArray ys.length), (L + 1, oc')] := N51
      clear F50 N50 N51
      walk_at "mine go3"
      refine item_list (News.isList (by assumption) (.tail _ (.tail _ (.head _)))) (by decide) (by decide) (by simpa using hta') ?_
      walk_at "mine go3"
      rotate_left
      · exact absurd rfl (by assumption)
      refine item_list (News.isList (by assumption) (.tail _ (.head _))) (by decide) (by decide) (by simpa using hub) ?_
      walk_at "mine go3"
      rename Fr _ _ _ _ => F60
      rename News _ _ _ _ => N60
      refine calls_use (rest := [(kl, listOf kvs.toArray e), (r2, listOf vs2.toArray e2), (r1, listOf vs1.toArray e1), (cl, listOf ys.toArray ys.length), (L + 1, oc')]) (law_begin w (stN d1) cs _ cl ys ys.length (by omega) hys hc (iter_len hs1.2 hcl) (by omega)) B0 F60 KX N60 T (by simp) (by intro q hq; rw [List.mem_singleton] at hq; subst hq; exact ⟨(N60 _ (.tail _ (.tail _ (.tail _ (.head _))))).1, by simp⟩) rfl rfl (by decide) ?_
      rintro v61 news61 h61 tk61 ⟨⟨u61, rfl⟩, rfl⟩ F61 N61 _
      have N62 : News s₁.heap L h61 [(kl, listOf kvs.toArray e), (r2, listOf vs2.toArray e2), (r1, listOf vs1.toArray e1), (cl, listOf ys.toArray ys.length), (L + 1, oc')] := N61
      clear F60 N60 N61
      walk_at "mine go3"
      refine item_list (News.isList (by assumption) (.tail _ (.head _))) (by decide) (by decide) (by simpa using htb') ?_
      walk_at "mine go3"
      exact retPost F61 N62 (by simp)))
end
end Mine
theorem PySem.Challenge.cw_pu0001_01_holds : PySem.Challenge.rw_pu0001_01.Holds :=
  Mine.law01
