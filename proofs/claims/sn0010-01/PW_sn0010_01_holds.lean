import PyProof.Rows.All
import Wide.All
import OpenK.AllK
import Wide.FinOn
import PySem.Challenge.RW_sn0010_01
open PySem PySem.W PyProof.Rows
set_option Elab.async false
set_option maxRecDepth 100000
set_option maxHeartbeats 8000000
open_top hd for PySem.Challenge.rw_sn0010_01
namespace Mine
open PySem PySem.W PyProof.Rows PySem.Spec PySem.Calls
open PySem.Challenge (rw_sn0010_01)
section
/-- all but the named addresses stand as they stood -/
noncomputable def Stand (h h' : Heap) (off : List Addr) : Prop := ∀ b o, b ∉ off → h.get? b = some o → h'.get? b = some o

theorem Stand.news {h h' h₀ : Heap} {L : Addr} {off : List Addr} {led : List (Addr × Obj)} (S : Stand h h' off) (N : News h₀ L h led) (hn : ∀ p ∈ led, p.1 ∉ off) : News h₀ L h' led :=
  fun p hp => ⟨S _ _ (hn p hp) (N p hp).1, (N p hp).2⟩

theorem News.app {h h₀ : Heap} {L : Addr} {a b : List (Addr × Obj)} (A : News h₀ L h a) (B : News h₀ L h b) : News h₀ L h (a ++ b) :=
  fun p hp => (List.mem_append.mp hp).elim (A p) (B p)

theorem News.cons {h h₀ : Heap} {L : Addr} {p : Addr × Obj} {b : List (Addr × Obj)} (A : h.get? p.1 = some p.2 ∧ p.1 ≠ L ∧ h₀.get? p.1 = none) (B : News h₀ L h b) : News h₀ L h (p :: b) :=
  fun q hq => by
    rcases List.mem_cons.mp hq with rfl | hq
    · exact A
    · exact B q hq

noncomputable abbrev Out := Addr → Value → List (Addr × Obj) → Prop

/-- a value comes back, and holds -/
noncomputable def RV (Q : Value → Shared → Prop) (r : Result) (s' : Shared) : Prop := match r with | .ok (.ret v) => Q v s' | .ok _ => False | .error _ => False

/-- what a call hands back -/
noncomputable def RetS (h₀ : Heap) (L : Addr) (m : Str → Option Value) (mach : List (Addr × Obj)) (s : Shared) (Q : Value → Shared → Prop) (R : Out) : Prop :=
  ∀ (v : Value) (mach' : List (Addr × Obj)) (h' : Heap) (tk' : Nat), R s.heap.objs.size v mach' → Fr h₀ L h' m → News h₀ L h' mach' → Stand s.heap h' (mach.map (·.1)) → (s.heap.objs.size ≤ h'.objs.size ∧ ∀ q ∈ mach', q.1 ∈ mach.map (·.1) ∨ s.heap.get? q.1 = none) → Q v { s with heap := h', toks := tk' }

noncomputable def LeaveS (g : Heap) (s : Shared) (R : Value → List (Addr × Obj) → Prop) (v : Value) (s' : Shared) : Prop :=
  ∃ L' m' mach' h' tk', s' = { s with heap := h', toks := tk' } ∧ Fr g L' h' m' ∧ News g L' h' mach' ∧ R v mach' ∧ s.heap.objs.size ≤ h'.objs.size

theorem leaveS {g : Heap} {s : Shared} {R : Value → List (Addr × Obj) → Prop} {v : Value} {L' : Addr} {m' : Str → Option Value} {h' : Heap} {tk' : Nat} (mach' led : List (Addr × Obj)) (F : Fr g L' h' m') (N : News g L' h' led) (hs : ∀ p ∈ mach', p ∈ led) (r : R v mach') (hl : s.heap.objs.size = L') :
    LeaveS g s R v { s with heap := h', toks := tk' } := ⟨L', m', mach', h', tk', rfl, F, fun p hp => N p (hs p hp), r, by
      obtain ⟨oL, _, _, hL, _⟩ := F.ns
      rw [hl]
      exact Nat.le_of_lt (Heap.lt_size hL)⟩

section
variable {prog : Program} {w : World} {A₀ A : Around} {s : Shared} {base h₀ : Heap} {outer : List Env} {L : Addr} {m mg mb : Str → Option Value} {env : Env} {mach : List (Addr × Obj)} {K : Frag} {p : Program} {loose : List Str} {mean : ExcName → Option Value}
  {name qual : Str} {params : Arguments} {body : List Stmt} {scope : Scope} {cl : List (Str × Addr)} {dV kV doc pm cdv ct : Value} {an : Option Addr} {fo : Obj} {f : Addr} {vs : List Value} {binds : List (Str × Value)} {Q : Value → Shared → Prop} {R : Out}

theorem enterS (B : Below A₀ base outer h₀) (F : Fr h₀ L s.heap m) (X : K.In h₀) (N : News h₀ L s.heap mach) (T : Top p loose mean mg mb h₀) (hA : A.frames = some (env :: outer)) (hf : env.frame = some L) (hke : env.scope.kind = .function)
    (hret : RetS h₀ L m mach s Q R)
    (ho : s.heap.get? f = some fo) (hd : fo.data = .func (fnX name qual params body scope cl dV kV doc pm an cdv ct)) (hcd : s.heap.CodeRec cdv qual) (hroom : A.depth < recursionLimit)
    (hbind : BindsTo s (fnX name qual params body scope cl dV kV doc pm an cdv ct) ⟨vs, []⟩ binds) (hloc : ∀ y ∈ binds, scope.names.lookup y.1 = some .local)
    (h : ∀ g h₁ L' (qk : Flow → Shared → Prop), s.heap.objs.size = L' → Fr g L' h₁ (fun y => binds.reverse.lookup y) → News g L' h₁ mach → (∀ q ∈ mach, q.1 < L') → Below A base (env :: outer) g → K.In g → Top p loose mean mg mb g → Stand s.heap g (mach.map (·.1)) →
      (∀ fl s', LeaveS g s (R L') (match fl with | .ret v => v | _ => .none) s' → qk fl s') →
      wpAny (model prog w) (A.deeper (envX qual scope L' f cdv cl)) (execs body (envX qual scope L' f cdv cl)) qk
        (fun _ _ => False) { s with heap := h₁, toks := s.toks + binds.length })
    (hcell : ∀ x ∈ scope.names, x.2 ≠ .cell) (hco : scope.isCoroutine = false) (hgen : scope.isGenerator = false) (hk : scope.kind = .function) :
    codeAny (model prog w) A (.call (.ref f) ⟨vs, []⟩) (RV Q) s := by
  obtain ⟨FG, BG, st, _⟩ := groundX (R := fun _ _ => True) B F N hA hf hke
  refine codeAny_call_def (fd := fnX name qual params body scope cl dV kV doc pm an cdv ct) (body := body) (binds := binds) hroom ho hd (T.nolimit.keeps F.keep) hcd rfl hbind hcell hloc (fun h₁ hns hk₁ => ?_) hco hgen hk
  have hst : Stand s.heap (hideAll s.heap (mach.map (·.1))) (mach.map (·.1)) := fun b o hb e => hideAll_get _ e hb
  refine wpAny_mono (h _ h₁ s.heap.objs.size (fun fl s' => LeaveS (hideAll s.heap (mach.map (·.1))) s (R s.heap.objs.size) (match fl with | .ret v => v | _ => .none) s') rfl ⟨hns, fun b o e => hk₁ b o (of_hideAll _ e), Nat.le_of_eq (hideAll_size _ _)⟩
    (fun q hq => ⟨hk₁ _ _ (N q hq).1, Nat.ne_of_lt (Heap.lt_size (N q hq).1), hideAll_none _ (List.mem_map_of_mem hq)⟩) (fun q hq => Heap.lt_size (N q hq).1) BG (X.keeps st) (T.keeps st) hst fun _ _ x => x) (fun fl s' hl => ?_) fun _ _ x => x.elim
  obtain ⟨L', m', mach', h', tk', rfl, F', N', r, hsz⟩ := hl
  refine hret _ mach' h' tk' r ?_ (fun q hq => ⟨(N' q hq).1, fun e => ?_, ?_⟩) (fun b o hb e => F'.keep b o (hst b o hb e)) ⟨hsz, fun q hq => (Classical.em (q.1 ∈ mach.map (·.1))).imp id fun hno => by
    cases e : s.heap.get? q.1 with
    | none => rfl
    | some o =>
      have := (N' q hq).2.2
      rw [hst _ _ hno e] at this
      cases this⟩
  · obtain ⟨oL, es, ep, hL, hLd, hLk, hLf⟩ := FG.ns
    exact ⟨⟨oL, es, ep, F'.keep L oL hL, hLd, hLk, hLf⟩, fun b o e => F'.keep b o (st b o e), F.above⟩
  · obtain ⟨oL, _, _, hL, _⟩ := FG.ns
    have := (N' q hq).2.2
    rw [e, hL] at this
    cases this
  · cases e : h₀.get? q.1 with
    | none => rfl
    | some o =>
      have := (N' q hq).2.2
      rw [st _ _ e] at this
      cases this

theorem enterK {oc : Value} {od : Option Addr} {osl : Array (Option Value)} (B : Below A₀ base outer h₀) (F : Fr h₀ L s.heap m) (X : K.In h₀) (N : News h₀ L s.heap mach) (T : Top p loose mean mg mb h₀) (hA : A.frames = some (env :: outer)) (hf : env.frame = some L) (hke : env.scope.kind = .function)
    (hret : RetS h₀ L m mach s Q R)
    (ho : K.lookup f = some ⟨oc, od, .func (fnX name qual params body scope cl dV kV doc pm an cdv ct), osl⟩) (hcd : codeIn K cdv qual = true) (hroom : A.depth < recursionLimit)
    (hbind : BindsTo s (fnX name qual params body scope cl dV kV doc pm an cdv ct) ⟨vs, []⟩ binds) (hloc : ∀ y ∈ binds, scope.names.lookup y.1 = some .local)
    (h : ∀ g h₁ L' (qk : Flow → Shared → Prop), s.heap.objs.size = L' → Fr g L' h₁ (fun y => binds.reverse.lookup y) → News g L' h₁ mach → (∀ q ∈ mach, q.1 < L') → Below A base (env :: outer) g → K.In g → Top p loose mean mg mb g → Stand s.heap g (mach.map (·.1)) →
      (∀ fl s', LeaveS g s (R L') (match fl with | .ret v => v | _ => .none) s' → qk fl s') →
      wpAny (model prog w) (A.deeper (envX qual scope L' f cdv cl)) (execs body (envX qual scope L' f cdv cl)) qk
        (fun _ _ => False) { s with heap := h₁, toks := s.toks + binds.length })
    (hcell : ∀ x ∈ scope.names, x.2 ≠ .cell) (hco : scope.isCoroutine = false) (hgen : scope.isGenerator = false) (hk : scope.kind = .function) :
    codeAny (model prog w) A (.call (.ref f) ⟨vs, []⟩) (RV Q) s :=
  enterS B F X N T hA hf hke hret ((X.keeps F.keep) _ _ ho) rfl (codeRec_of (X.keeps F.keep) hcd) hroom hbind hloc h hcell hco hgen hk
end

noncomputable def Con (w : World) (f : Addr) (vs : List Value) (mach : List (Addr × Obj)) (base : Heap) (d u : Nat) (R : Out) : Prop :=
  ∀ (p : Program) (loose : List Str) (mean : ExcName → Option Value) (mg mb : Str → Option Value) (dp un : Nat) (gd : Option (List Code)) (cn : Str) (cs : Scope) (a : Addr) (ccd : Value) (cl : List (Str × Addr)) (outer : List Env) (A₀ : Around) (h₀ : Heap) (L : Addr) (m : Str → Option Value) (s : Shared) (Q : Value → Shared → Prop),
    Below A₀ base outer h₀ → Fr h₀ L s.heap m → (hd.heap_39 w.params).In h₀ → News h₀ L s.heap mach → Top p loose mean mg mb h₀ → cs.kind = .function → dp + d < recursionLimit → un + u < cLine →
    RetS h₀ L m mach s Q R →
    codeAny (model PySem.Challenge.rw_sn0010_01.row.prog w) (ktrTop dp un gd cn cs L a ccd cl outer) (.call (.ref f) ⟨vs, []⟩) (RV Q) s

/-- a map with these names bound first -/
noncomputable def ov : List (Str × Value) → (Str → Option Value) → Str → Option Value
  | [], m => m
  | p :: r, m => fun z => if z = p.1 then some p.2 else ov r m z
noncomputable def Binds (ps : List (Str × Value)) (m : Str → Option Value) : Prop := ∀ p ∈ ps, m p.1 = some p.2
theorem ov_eq : ∀ {ps : List (Str × Value)} {m : Str → Option Value}, Binds ps m → ov ps m = m
  | [], _, _ => rfl
  | p :: r, m, h => by
    funext z
    show (if z = p.1 then some p.2 else ov r m z) = m z
    by_cases e : z = p.1
    · rw [if_pos e, e]; exact (h p (.head _)).symm
    · rw [if_neg e, ov_eq fun q hq => h q (.tail _ hq)]
theorem Fr.ov {g h : Heap} {L : Addr} {m : Str → Option Value} {ps : List (Str × Value)} (F : Fr g L h m) (hb : Binds ps m) : Fr g L h (ov ps m) := by rw [ov_eq hb]; exact F
theorem Binds.nil {m : Str → Option Value} : Binds [] m := fun _ h => nomatch h
theorem Binds.cons {p : Str × Value} {ps : List (Str × Value)} {m : Str → Option Value} (h : m p.1 = some p.2) (r : Binds ps m) : Binds (p :: ps) m := fun q hq => by
  rcases List.mem_cons.mp hq with rfl | hq
  · exact h
  · exact r q hq

noncomputable def Hold (P : Prop) : Prop := P
theorem hold {P : Prop} (h : Hold P) : P := h
theorem unhold {P : Prop} (h : P) : Hold P := h

/-- a state of a loop -/
noncomputable def LoopEnd (g : Heap) (L : Addr) (s : Shared) (J : Nat → List (Str × Value) → List (Addr × Obj) → Prop) (n : Nat) (s₃ : Shared) : Prop :=
  ∃ h' tk m₂ led n' ps, s₃ = { s with heap := h', toks := tk } ∧ Fr g L h' m₂ ∧ Binds ps m₂ ∧ News g L h' led ∧ n' < n ∧ J n' ps led
noncomputable def LoopStep (g : Heap) (L : Addr) (s : Shared) (J : Nat → List (Str × Value) → List (Addr × Obj) → Prop) (Q : Flow → Shared → Prop) (n : Nat) (f : Flow) (s₃ : Shared) : Prop :=
  match f with
  | .next => Hold (LoopEnd g L s J n s₃)
  | .cont => Hold (LoopEnd g L s J n s₃)
  | .brk => Q .next s₃
  | .ret v => Q (.ret v) s₃

theorem LoopStep.go {g : Heap} {L : Addr} {s : Shared} {J : Nat → List (Str × Value) → List (Addr × Obj) → Prop} {Q : Flow → Shared → Prop} {n : Nat} {h' : Heap} {tk : Nat} {m₂ : Str → Option Value} {led' : List (Addr × Obj)} (n' : Nat) (ps : List (Str × Value)) (led : List (Addr × Obj))
    (F : Fr g L h' m₂) (hb : Binds ps m₂) (N : News g L h' led') (hs : ∀ p ∈ led, p ∈ led') (hn : n' < n) (hj : J n' ps led) : LoopStep g L s J Q n .next { s with heap := h', toks := tk } :=
  ⟨h', tk, m₂, led, n', ps, rfl, F, hb, fun p hp => N p (hs p hp), hn, hj⟩
theorem LoopStep.cont {g : Heap} {L : Addr} {s : Shared} {J : Nat → List (Str × Value) → List (Addr × Obj) → Prop} {Q : Flow → Shared → Prop} {n : Nat} {h' : Heap} {tk : Nat} {m₂ : Str → Option Value} {led' : List (Addr × Obj)} (n' : Nat) (ps : List (Str × Value)) (led : List (Addr × Obj))
    (F : Fr g L h' m₂) (hb : Binds ps m₂) (N : News g L h' led') (hs : ∀ p ∈ led, p ∈ led') (hn : n' < n) (hj : J n' ps led) : LoopStep g L s J Q n .cont { s with heap := h', toks := tk } :=
  ⟨h', tk, m₂, led, n', ps, rfl, F, hb, fun p hp => N p (hs p hp), hn, hj⟩

section
variable {prog : Program} {w : World} {A : Around} {Q : Flow → Shared → Prop} {s : Shared} {env : Env} {g : Heap} {L : Addr}
theorem while_ov {test : Expr} {body : List Stmt} {pos : Pos} {m : Str → Option Value} {led₀ : List (Addr × Obj)} (J : Nat → List (Str × Value) → List (Addr × Obj) → Prop) (n₀ : Nat) (ps₀ : List (Str × Value))
    (F : Fr g L s.heap m) (hb : Binds ps₀ m) (N : News g L s.heap led₀) (hJ : J n₀ ps₀ led₀)
    (turn : ∀ n ps led u h₁ tk₁, J n ps led → Fr g L h₁ (ov ps u) → News g L h₁ led →
      wpAny (model prog w) A (isTrue test env (eval test env)) (fun b s₂ =>
        if b = true then wpAny (model prog w) A (execs body env) (LoopStep g L s J Q n) (fun _ _ => False) s₂ else Q .next s₂) (fun _ _ => False) { s with heap := h₁, toks := tk₁ }) :
    wpAny (model prog w) A (exec (.While test body [] pos) env) Q (fun _ _ => False) s := by
  refine While_inv2 (fun n m led => ∃ ps, Binds ps m ∧ J n ps led) F N ⟨ps₀, hb, hJ⟩ (fun n m₁ led h₁ tk₁ F₁ N₁ ⟨ps, hb, hj⟩ => ?_) .never
  refine wpAny_mono (turn n ps led m₁ h₁ tk₁ hj (Fr.ov F₁ hb) N₁) (fun b s₂ h₂ => ?_) fun _ _ x => x
  cases b with
  | false => exact h₂
  | true =>
    simp only [if_true] at h₂ ⊢
    refine wpAny_mono h₂ (fun f s₃ h₃ => ?_) fun _ _ x => x
    cases f with
    | next => obtain ⟨h', tk, m₂, led', n', ps', e, F', hb', N', hn, hj'⟩ := h₃; exact ⟨h', tk, m₂, led', n', e, F', N', hn, ps', hb', hj'⟩
    | cont => obtain ⟨h', tk, m₂, led', n', ps', e, F', hb', N', hn, hj'⟩ := h₃; exact ⟨h', tk, m₂, led', n', e, F', N', hn, ps', hb', hj'⟩
    | brk => exact h₃
    | ret v => exact h₃
end

section
variable {w : World} {f : Addr} {vs : List Value} {mach : List (Addr × Obj)} {base : Heap} {d u : Nat} {R : Out} {p : Program} {loose : List Str} {mean : ExcName → Option Value} {mg mb : Str → Option Value} {dp un : Nat} {gd : Option (List Code)} {cn : Str} {cs : Scope} {a : Addr} {ccd : Value} {cl : List (Str × Addr)} {outer : List Env} {A₀ : Around} {h₀ : Heap} {L : Addr} {m : Str → Option Value} {s : Shared} {Q E : Value → Shared → Prop}
theorem con_code (C : Con w f vs mach base d u R) (B : Below A₀ base outer h₀) (F : Fr h₀ L s.heap m) (X : (hd.heap_39 w.params).In h₀) (T : Top p loose mean mg mb h₀) (led rest : List (Addr × Obj)) (N : News h₀ L s.heap led) (hm : ∀ q ∈ mach, q ∈ led) (hr : ∀ q ∈ rest, q ∈ led) (ho : ∀ q ∈ rest, q.1 ∉ mach.map (·.1))
    (hk : cs.kind = .function) (hdp : dp + d < recursionLimit) (hun : un + u < cLine)
    (ret : ∀ v mach' h' tk', R s.heap.objs.size v mach' → Fr h₀ L h' m → News h₀ L h' (mach' ++ rest) → (∀ q ∈ led, q.1 < s.heap.objs.size) → (s.heap.objs.size ≤ h'.objs.size ∧ ∀ q ∈ mach', q.1 ∉ mach.map (·.1) → ∀ p ∈ led, @Ne Nat q.1 p.1) → Q v { s with heap := h', toks := tk' }) :
    codeAny (model PySem.Challenge.rw_sn0010_01.row.prog w) (ktrTop dp un gd cn cs L a ccd cl outer) (.call (.ref f) ⟨vs, []⟩) (RV Q) s :=
  C p loose mean mg mb dp un gd cn cs a ccd cl outer A₀ h₀ L m s Q B F X (fun q hq => N q (hm q hq)) T hk hdp hun fun v mach' h' tk' r F' N' S hz =>
    ret v mach' h' tk' r F' (News.app N' (S.news (fun q hq => N q (hr q hq)) ho)) (fun q hq => Heap.lt_size (N q hq).1) ⟨hz.1, fun q hq hno p hp e => by
      rcases hz.2 q hq with h | h
      · exact hno h
      · rw [show q.1 = p.1 from e, (N p hp).1] at h; cases h⟩
theorem con_use (C : Con w f vs mach base d u R) (B : Below A₀ base outer h₀) (F : Fr h₀ L s.heap m) (X : (hd.heap_39 w.params).In h₀) (T : Top p loose mean mg mb h₀) (led rest : List (Addr × Obj)) (N : News h₀ L s.heap led) (hm : ∀ q ∈ mach, q ∈ led) (hr : ∀ q ∈ rest, q ∈ led) (ho : ∀ q ∈ rest, q.1 ∉ mach.map (·.1))
    (hk : cs.kind = .function) (hdp : dp + d < recursionLimit) (hun : un + u < cLine)
    (ret : ∀ v mach' h' tk', R s.heap.objs.size v mach' → Fr h₀ L h' m → News h₀ L h' (mach' ++ rest) → (∀ q ∈ led, q.1 < s.heap.objs.size) → (s.heap.objs.size ≤ h'.objs.size ∧ ∀ q ∈ mach', q.1 ∉ mach.map (·.1) → ∀ p ∈ led, @Ne Nat q.1 p.1) → Q v { s with heap := h', toks := tk' }) :
    wpAny (model PySem.Challenge.rw_sn0010_01.row.prog w) (ktrTop dp un gd cn cs L a ccd cl outer) (call (.ref f) vs) Q E s :=
  wpAny_call (codeAny_mono (con_code C B F X T led rest N hm hr ho hk hdp hun ret) fun r s' h => by
    cases r with
    | ok v => cases v <;> exact h
    | error e => exact h.elim)
end

section
variable {prog : Program} {w : World} {A : Around} {Q : Flow → Shared → Prop} {s : Shared} {env : Env} {g : Heap} {L : Addr}
theorem for_ov {x : Str} {px pos : Pos} {iter : Expr} {body : List Stmt} {m : Str → Option Value} {led₀ : List (Addr × Obj)} (it : Addr) (J : Nat → List (Str × Value) → List (Addr × Obj) → Prop) (n₀ : Nat) (ps₀ : List (Str × Value))
    (F : Fr g L s.heap m) (hb : Binds ps₀ m) (N : News g L s.heap led₀) (hJ : J n₀ ps₀ led₀)
    (he : ∀ Q' : Value → Shared → Prop, Q' (.ref it) s → wpAny (model prog w) A (eval iter env) Q' (fun _ _ => False) s)
    (hi : ∀ Q' : Value → Shared → Prop, Q' (.ref it) s → wpAny (model prog w) A (pyIter (.ref it)) Q' (fun _ _ => False) s)
    (turn : ∀ n ps led u h₁ tk₁, J n ps led → Fr g L h₁ (ov ps u) → News g L h₁ led →
      wpAny (model prog w) A (pyNext (.ref it)) (fun o s₁ => match o with
        | none => Q .next s₁
        | some v => wpAny (model prog w) A (storeName env x v) (fun _ s₂ => wpAny (model prog w) A (execs body env) (LoopStep g L s J Q n) (fun _ _ => False) s₂) (fun _ _ => False) s₁) (fun _ _ => False) { s with heap := h₁, toks := tk₁ })
    (hs : ∀ x, foldedSetIterable iter env x = pure x := by intro _; rfl) :
    wpAny (model prog w) A (exec (.For (.Name x px) iter body [] pos) env) Q (fun _ _ => False) s := by
  have fal : ∀ (α : Type) (t : Sem α) (Q' : α → Shared → Prop) (E : Value → Shared → Prop) s, wpAny (model prog w) A t Q' (fun _ _ => False) s → wpAny (model prog w) A t Q' E s := fun _ _ _ _ _ h => wpAny_mono h (fun _ _ x => x) fun _ _ x => x.elim
  refine wpAny_For (he _ (hi _ ?_)) hs
  refine codeAny_forLoop (fun n s' => ∃ h tk m led ps, s' = { s with heap := h, toks := tk } ∧ Fr g L h m ∧ News g L h led ∧ Binds ps m ∧ J n ps led) (fun n s' hI => ?_) n₀ ⟨s.heap, s.toks, m, led₀, ps₀, rfl, F, N, hb, hJ⟩
  obtain ⟨h, tk, m, led, ps, rfl, F, N, hb, hj⟩ := hI
  refine fal _ _ _ _ _ (wpAny_mono (turn n ps led m h tk hj (Fr.ov F hb) N) (fun o s₁ ho => ?_) fun _ _ x => x)
  cases o with
  | none => exact wpAny_execs_nil ho
  | some v =>
    refine fal _ _ _ _ _ (wpAny_assign_Name (wpAny_mono ho (fun _ s₂ hb2 => fal _ _ _ _ _ (wpAny_mono hb2 (fun f s₃ hf => ?_) fun _ _ x => x)) fun _ _ x => x))
    cases f with
    | next => obtain ⟨h', tk', m₂, led', n', ps', e, F', hb', N', hn, hj'⟩ := hf; exact ⟨n', hn, h', tk', m₂, led', ps', e, F', N', hb', hj'⟩
    | cont => obtain ⟨h', tk', m₂, led', n', ps', e, F', hb', N', hn, hj'⟩ := hf; exact ⟨n', hn, h', tk', m₂, led', ps', e, F', N', hb', hj'⟩
    | brk => exact hf
    | ret v => exact hf
end

/-- what a call gives back: a text, bytes, an int, a list of ints; the ledger as named -/
inductive OStr (x : Str) (mach : List (Addr × Obj)) : Value → List (Addr × Obj) → Prop
  | mk (t : Tok) : OStr x mach (.str x t) mach
inductive OByt (x : Array UInt8) (mach : List (Addr × Obj)) : Value → List (Addr × Obj) → Prop
  | mk (t : Tok) : OByt x mach (.bytes x t) mach
inductive OInt (n : Int) (mach : List (Addr × Obj)) : Value → List (Addr × Obj) → Prop
  | mk (t : Tok) : OInt n mach (.int n t) mach
inductive OIs (v : Value) (mach : List (Addr × Obj)) : Value → List (Addr × Obj) → Prop
  | mk : OIs v mach v mach
inductive OInts (ns : List Int) (mach : List (Addr × Obj)) : Value → List (Addr × Obj) → Prop
  | mk (D : Addr) (ys : List Value) (k : Nat) (h : IntsAre ys ns) : OInts ns mach (.ref D) ((D, { cls := .type "list", data := .seq ys.toArray k }) :: mach)
theorem hideW {α : Type} {M : Model} {A : Around} {t : Sem α} {Q : α → Shared → Prop} {E : Value → Shared → Prop} {s : Shared} (h : ∀ Q' : α → Shared → Prop, (∀ a s', Q a s' → Q' a s') → wpAny M A t Q' E s) : wpAny M A t Q E s := h Q fun _ _ x => x
end
section
open Builtin Builtin.ObjectAttr

theorem fn_look_set : typeLookup (.type "function") "__setattr__" = pure (some (.builtin "object.__setattr__")) := by rw [typeLookup_type, builtinLookup_eq_fast]; kernel_rfl
theorem fn_look_get : typeLookup (.type "function") "__getattribute__" = pure (some (.builtin "object.__getattribute__")) := by rw [typeLookup_type, builtinLookup_eq_fast]; kernel_rfl
theorem fn_look_hook : typeLookup (.type "function") "__getattr__" = pure none := by rw [typeLookup_type, builtinLookup_eq_fast]; kernel_rfl
theorem fn_look_read : typeLookup (.type "function") "read" = pure none := by rw [typeLookup_type, builtinLookup_eq_fast]; kernel_rfl
theorem fn_slot_set : Slot "function" "__setattr__" "object.__setattr__" :=
  .of (owner := "object") (n := "__setattr__") fn_look_set (by decide +kernel) (by decide +kernel) (by decide +kernel)
    (by first | exact .inl (by decide +kernel) | exact .inr (by decide +kernel)) (by rw [isSubtype_type]; kernel_rfl)
theorem fn_slot_get : Slot "function" "__getattribute__" "object.__getattribute__" :=
  .of (owner := "object") (n := "__getattribute__") fn_look_get (by decide +kernel) (by decide +kernel) (by decide +kernel)
    (by first | exact .inl (by decide +kernel) | exact .inr (by decide +kernel)) (by rw [isSubtype_type]; kernel_rfl)
theorem fn_refuse (self : Value) : refuseLoop self "__setattr__" [.type "function", .type "object"] = pure () := by kernel_rfl
end
section
open Builtin Builtin.ObjectAttr
theorem fn_mro : mroOf (.type "function") = pure [.type "function", .type "object"] := by kernel_rfl
theorem fn_sub : isSubtype (.type "function") (.type "object") = pure true := by rw [isSubtype_type]; kernel_rfl
theorem fn_hasDict : typeHasDict (.type "function") = true := by decide +kernel
theorem fn_fin : finalisedInACycleAlone "function" = false := by decide +kernel

theorem setattr_fn {prog : Program} {w : World} {A : Around} {E : Value → Shared → Prop} {Q : Unit → Shared → Prop} {s : Shared} {h₀ : Heap} {L f : Addr} {m : Str → Option Value} {pre post : List (Addr × Obj)} {fd : FuncData} {sl : Array (Option Value)} {v : Value}
    (F : Fr h₀ L s.heap m) (N : News h₀ L s.heap (pre ++ (f, (⟨.type "function", none, .func fd, sl⟩ : Obj)) :: post)) (h1 : ∀ p ∈ pre, p.1 ≠ f) (h2 : ∀ p ∈ post, p.1 ≠ f)
    (h : ∀ h' d tk k, Fr h₀ L h' m → News h₀ L h' ((d, dictOf [⟨PyData.keyHash w.params (Str.ofString "read"), .str (Str.ofString "read") tk, v⟩] 1) :: (pre ++ (f, (⟨.type "function", some d, .func fd, sl⟩ : Obj)) :: post)) → d = s.heap.objs.size → Q () { s with heap := h', toks := k }) :
    wpAny (model prog w) A (setAttr (.ref f) (Str.ofString "read") v) Q E s := by
  have hf : s.heap.get? f = some ⟨.type "function", none, .func fd, sl⟩ := (N (f, _) (List.mem_append_right _ (.head _))).1
  unfold setAttr
  refine wpAny_bind (wpAny_mkText ?_)
  refine wpAny_bind (wpAny_callSpecial?_slot (T := "function") ⟨_, hf, rfl⟩ fn_slot_set ?_)
  refine wpAny_call ?_
  refine codeAny_call_builtin fn_slot_set.plain PySem.F.store_object.entry (fn_slot_set.check _ _ _ _ _ _ _ _ ⟨_, hf, rfl⟩ (by unfold argsOk; kernel_rfl) ?_)
  rw [osa_eq, refuse_eq]
  refine wpAny_bind (wpAny_bind (wpAny_typeOf (T := "function") ⟨_, hf, rfl⟩ (wpAny_bind (wpAny_of_eq fn_mro ?_))))
  rw [fn_refuse]
  refine wpAny_pure (wpAny_bind (wpAny_typeOf (T := "function") ⟨_, hf, rfl⟩ (wpAny_bind (wpAny_of_eq fn_look_read (wpAny_bind (wpAny_of_eq (a := none) rfl ?_))))))
  show wpAny _ _ (storeInOwnDict _ _ _ _ _ _) _ _ _
  unfold storeInOwnDict
  refine wpAny_bind (wpAny_of_eq (a := ()) rfl ?_)
  refine wpAny_bind ?_
  show wpAny _ _ (instanceDict f true) _ _ _
  unfold instanceDict
  refine wpAny_bind (wpAny_loadPart hf ?_)
  dsimp only
  rw [if_neg (by rw [fn_hasDict]; decide)]
  refine wpAny_bind (wpAny_alloc ?_)
  have hN := N.push F { cls := .type "dict", data := .dict #[] }
  have hF := F.push { cls := .type "dict", data := .dict #[] }
  have hf' : (s.heap.push { cls := .type "dict", data := .dict #[] }).get? f = some ⟨.type "function", none, .func fd, sl⟩ := Heap.get?_push_of_some _ hf
  have hne : ∀ p ∈ (s.heap.objs.size, ({ cls := .type "dict", data := .dict #[] } : Obj)) :: pre, p.1 ≠ f := fun p hp => by
    rcases List.mem_cons.mp hp with rfl | hp
    · exact Nat.ne_of_gt (Heap.lt_size hf)
    · exact h1 p hp
  obtain ⟨U1, U2⟩ := news_upd (f := fun o => { o with dict := some s.heap.objs.size }) (pre := (s.heap.objs.size, ({ cls := .type "dict", data := .dict #[] } : Obj)) :: pre) (d := f) (o' := ⟨.type "function", some s.heap.objs.size, .func fd, sl⟩) hF hN hne h2 rfl rfl
  refine wpAny_bind (wpAny_update hf' ?_)
  refine wpAny_of_eq (a := some s.heap.objs.size) ?_ ?_
  · unfold dictMade; dsimp only; rw [fn_fin]; rfl
  dsimp only
  unfold storeInDict
  have hd : ((s.heap.push { cls := .type "dict", data := .dict #[] }).update f fun o => { o with dict := some s.heap.objs.size }).get? s.heap.objs.size = some { cls := .type "dict", data := .dict #[] } := (U2 _ (.head _)).1
  refine wpAny_bind (wpAny_of_eq (a := ()) rfl ?_)
  refine wpAny_bind ?_
  unfold nsSet
  refine wpAny_bind (wpAny_bind (wpAny_askSetting (wpAny_pure (wpAny_bind (wpAny_mkText (wpAny_bind (wpAny_loadPart hd ?_)))))))
  dsimp only
  rw [if_neg (by decide)]
  refine wpAny_updatePart hd ?_
  obtain ⟨V1, V2⟩ := news_upd (f := Obj.putName (Str.ofString "read") (PyData.keyHash w.params (Str.ofString "read")) (.str (Str.ofString "read") (s.toks + 1)) v) (pre := []) (d := s.heap.objs.size) (o := { cls := .type "dict", data := .dict #[] })
    (o' := dictOf [⟨PyData.keyHash w.params (Str.ofString "read"), .str (Str.ofString "read") (s.toks + 1), v⟩] 1) U1 U2 (fun _ h => nomatch h)
    (fun p hp => by
      rcases List.mem_append.mp hp with hp | hp
      · exact Nat.ne_of_lt (Heap.lt_size (N p (List.mem_append_left _ hp)).1)
      · rcases List.mem_cons.mp hp with rfl | hp
        · exact Nat.ne_of_lt (Heap.lt_size hf)
        · exact Nat.ne_of_lt (Heap.lt_size (N p (List.mem_append_right _ (.tail _ hp))).1)) rfl rfl
  refine wpAny_bind (wpAny_lookBehind (V2 _ (.head _)).1 (pastItsLine_dict (by show 1 ≤ _; decide)) ?_)
  exact wpAny_pure (wpAny_pure (h _ _ _ _ V1 V2 rfl))

theorem oga_entry : entryFor table "object.__getattribute__" = some Builtin.«object.__getattribute__» := entryFor_of_tree (by kernel_rfl)
theorem getattr_fn {prog : Program} {w : World} {A : Around} {E : Value → Shared → Prop} {Q : Value → Shared → Prop} {s : Shared} {f d c : Addr} {fd : FuncData} {sl : Array (Option Value)} {es : List DictEntry} {n : Nat} {ex : Bool}
    (hf : s.heap.get? f = some ⟨.type "function", some d, .func fd, sl⟩) (hd : s.heap.get? d = some (dictOf es n)) (hl : getL (Str.ofString "read") es = some (some (.ref c)))
    (h : Q (.ref c) { s with toks := s.toks + 1 }) : wpAny (model prog w) A (getAttr (.ref f) (Str.ofString "read") ex) Q E s := by
  unfold getAttr getAttrBy
  refine wpAny_bind (wpAny_mkText ?_)
  refine wpAny_holding ?_
  refine wpAny_bind (wpAny_typeOf (T := "function") ⟨_, hf, rfl⟩ (wpAny_bind (wpAny_of_eq fn_look_get ?_)))
  dsimp only
  rw [if_neg (by decide)]
  unfold getAttrByItsOwn
  refine wpAny_bind (wpAny_of_eq (a := none) rfl (wpAny_bind (wpAny_attempt ?_)))
  refine wpAny_holding ?_
  refine wpAny_mono (Q := fun v s' => v = .ref c ∧ s' = { s with toks := s.toks + 1 }) (E := fun _ _ => False) ?_ (fun v s' hq => ?_) (fun _ _ x => x.elim)
  · unfold callGetattribute
    rw [if_neg (by cases ex <;> decide)]
    unfold boundAndCalled
    refine wpAny_bind (wpAny_of_eq (fn_slot_get.bind _) ?_)
    dsimp only
    refine wpAny_call ?_
    refine codeAny_call_builtin fn_slot_get.plain oga_entry (fn_slot_get.check _ _ _ _ _ _ _ _ ⟨_, hf, rfl⟩ (by unfold argsOk; kernel_rfl) ?_)
    unfold «object.__getattribute__»
    refine wpAny_bind (wpAny_of_eq (a := (.ref f, [.str (Str.ofString "read") s.toks])) rfl ?_)
    dsimp only
    refine wpAny_bind (wpAny_of_eq (a := Str.ofString "read") rfl (wpAny_bind (wpAny_typeOf (T := "function") ⟨_, hf, rfl⟩ (wpAny_bind ?_))))
    unfold find
    refine wpAny_bind (wpAny_of_eq fn_look_read (wpAny_bind (wpAny_of_eq (a := none) rfl (wpAny_bind (wpAny_of_eq (a := none) rfl ?_)))))
    dsimp only
    unfold ownThenClass inOwnDict ObjectAttr.ownDict
    refine wpAny_bind (wpAny_bind (wpAny_bind (wpAny_loadPart hf ?_)))
    dsimp only
    unfold instanceDict
    refine wpAny_bind (wpAny_loadPart hf ?_)
    dsimp only
    refine wpAny_bind (wpAny_pure (wpAny_pure ?_))
    unfold inDict
    dsimp only
    unfold nsGet
    refine wpAny_bind (wpAny_loadPart hd ?_)
    rw [nsLook_of (by rw [lookIn_dict]; exact hl)]
    refine wpAny_pure ?_
    dsimp only
    refine wpAny_bind (wpAny_rule (wpAny_pure ?_))
    dsimp only
    exact wpAny_pure ⟨rfl, rfl⟩
  · obtain ⟨rfl, rfl⟩ := hq
    exact wpAny_of_eq (a := .ref c) rfl h

theorem getMethod_fn {prog : Program} {w : World} {A : Around} {E : Value → Shared → Prop} {Q : Value × List Value → Shared → Prop} {s : Shared} {f d c : Addr} {fd : FuncData} {sl : Array (Option Value)} {es : List DictEntry} {n : Nat} {pl : Sem Bool}
    (hf : s.heap.get? f = some ⟨.type "function", some d, .func fd, sl⟩) (hd : s.heap.get? d = some (dictOf es n)) (hl : getL (Str.ofString "read") es = some (some (.ref c)))
    (h : Q (.ref c, []) { s with toks := s.toks + 1 }) : wpAny (model prog w) A (getMethod (.ref f) (Str.ofString "read") pl) Q E s := by
  unfold getMethod
  refine wpAny_bind (wpAny_specialOf (T := "function") ⟨_, hf, rfl⟩ fn_look_get ?_)
  dsimp only
  rw [if_neg (by decide +kernel)]
  refine wpAny_bind (wpAny_specialOf (T := "function") ⟨_, hf, rfl⟩ fn_look_hook ?_)
  rw [if_neg (by decide)]
  refine wpAny_bind (wpAny_specialOf (T := "function") ⟨_, hf, rfl⟩ fn_look_read ?_)
  dsimp only
  exact wpAny_bind (getattr_fn hf hd hl (wpAny_pure h))
end
section
/-- the addresses of a machine -/
structure Mac where
  (ct ca at_ k1 rf fs ds dx mx pb : Addr)
  (oct oca ok1 : Obj)
  (rfd : FuncData)
  (rsl : Array (Option Value))
  (fd : FuncData)
  (sl : Array (Option Value))
  (u1 u2 u3 u4 u5 u6 : Tok)

noncomputable def Mac.Ord (M : Mac) : Prop := @LT.lt Nat _ M.ct M.ca ∧ @LT.lt Nat _ M.ca M.at_ ∧ @LT.lt Nat _ M.at_ M.k1 ∧ @LT.lt Nat _ M.k1 M.rf ∧ @LT.lt Nat _ M.rf M.fs ∧ @LT.lt Nat _ M.fs M.ds ∧ @LT.lt Nat _ M.ds M.dx ∧ @LT.lt Nat _ M.dx M.mx ∧ @LT.lt Nat _ M.mx M.pb

/-- its objects: where the stream stands, the line, the tokens laid back -/
noncomputable def Mac.led (w : World) (M : Mac) (pos : Int) (tp : Tok) (line : Int) (tl : Tok) (q : List Value) (n : Nat) : List (Addr × Obj) :=
  [(M.pb, W.listOf q.toArray n), (M.mx, instObj 95 M.dx),
   (M.dx, dictOf [⟨PyData.keyHash w.params (Str.ofString "lineno"), .str (Str.ofString "lineno") M.u1, .int line tl⟩, ⟨PyData.keyHash w.params (Str.ofString "instream"), .str (Str.ofString "instream") M.u2, .ref M.fs⟩,
      ⟨PyData.keyHash w.params (Str.ofString "whitespace"), .str (Str.ofString "whitespace") M.u3, .str (Str.ofString "\n\t\x0d ") M.u4⟩, ⟨PyData.keyHash w.params (Str.ofString "pushback"), .str (Str.ofString "pushback") M.u5, .ref M.pb⟩] 4),
   (M.ds, dictOf [⟨PyData.keyHash w.params (Str.ofString "read"), .str (Str.ofString "read") M.u6, .ref M.rf⟩] 1),
   (M.fs, ⟨.type "function", some M.ds, .func M.fd, M.sl⟩), (M.rf, ⟨.type "function", none, .func M.rfd, M.rsl⟩), (M.k1, M.ok1), (M.at_, W.listOf #[.int pos tp] 0), (M.ca, M.oca), (M.ct, M.oct)]

/-- an address that is none of the machine's -/
noncomputable def Mac.Free (M : Mac) (a : Addr) : Prop := @Ne Nat a M.pb ∧ @Ne Nat a M.mx ∧ @Ne Nat a M.dx ∧ @Ne Nat a M.ds ∧ @Ne Nat a M.fs ∧ @Ne Nat a M.rf ∧ @Ne Nat a M.k1 ∧ @Ne Nat a M.at_ ∧ @Ne Nat a M.ca ∧ @Ne Nat a M.ct
theorem free_gt {M : Mac} (O : M.Ord) {a : Addr} (h : @LT.lt Nat _ M.pb a) : M.Free a := by
  have O' : M.Ord := O
  unfold Mac.Ord at O'
  refine ⟨?_, ?_, ?_, ?_, ?_, ?_, ?_, ?_, ?_, ?_⟩ <;> (refine neN ?_; omega)
theorem led_off {w : World} {M : Mac} {p : Int} {tp : Tok} {line : Int} {tl : Tok} {q : List Value} {n : Nat} {a : Addr} (h : M.Free a) : a ∉ (M.led w p tp line tl q n).map (·.1) := by
  simp only [Mac.led, List.map_cons, List.map_nil, List.mem_cons, List.not_mem_nil, or_false, not_or]
  exact h

/-- the sign at a place -/
noncomputable def sgn (l : List Nat) (k : Nat) : Str := ⟨((l.drop k).take 1).toArray⟩

/-- what the stream's read does -/
noncomputable def ReadSpec (w : World) (M : Mac) (base : Heap) (l : List Nat) : Prop :=
  ∀ (k : Nat) (tp : Tok) (line : Int) (tl : Tok) (q : List Value) (n : Nat) (t : Tok), k ≤ l.length →
    Con w M.rf [.int 1 t] (M.led w k tp line tl q n) base 3 30 (fun _ v mach' => ∃ t' tp', v = .str (sgn l k) t' ∧ mach' = M.led w (k + ((l.drop k).take 1).length : Nat) tp' line tl q n)

theorem led_nl {w : World} {M : Mac} {p : Int} {tp tl : Tok} {line : Int} {q : List Value} {n : Nat} {x : Str} (e : x = Str.ofString "\n") : M.led w p tp (line + 1) tl q n = M.led w p tp (line + if x = Str.ofString "\n" then 1 else 0) tl q n := by rw [if_pos e]
theorem led_no {w : World} {M : Mac} {p : Int} {tp tl : Tok} {line : Int} {q : List Value} {n : Nat} {x : Str} (e : ¬ x = Str.ofString "\n") : M.led w p tp line tl q n = M.led w p tp (line + if x = Str.ofString "\n" then 1 else 0) tl q n := by rw [if_neg e, Int.add_zero]
noncomputable def str (l : List Nat) : Str := ⟨l.toArray⟩
end
section
section
variable {prog : Program} {w : World} {A₀ A : Around} {s : Shared} {base h₀ : Heap} {outer : List Env} {L : Addr} {m mg mb : Str → Option Value} {env : Env} {mach : List (Addr × Obj)} {K : Frag} {p : Program} {loose : List Str} {mean : ExcName → Option Value}
  {name qual : Str} {params : Arguments} {body : List Stmt} {scope : Scope} {dV kV doc pm cdv ct : Value} {an : Option Addr} {f : Addr} {vs : List Value} {binds : List (Str × Value)} {Q : Value → Shared → Prop} {R : Out}
theorem enterC {oc : Value} {od : Option Addr} {osl : Array (Option Value)} (B : Below A₀ base outer h₀) (F : Fr h₀ L s.heap m) (X : K.In h₀) (N : News h₀ L s.heap mach) (T : Top p loose mean mg mb h₀) (hA : A.frames = some (env :: outer)) (hf : env.frame = some L) (hke : env.scope.kind = .function)
    (hret : RetS h₀ L m mach s Q R)
    (ho : K.lookup f = some ⟨oc, od, .func (fnOf name qual params body scope dV kV doc pm an cdv ct), osl⟩) (hcd : codeIn K cdv qual = true) (hroom : A.depth < recursionLimit)
    (hbind : BindsTo s (fnOf name qual params body scope dV kV doc pm an cdv ct) ⟨vs, []⟩ binds) (hkind : (binds.all fun y => scope.names.lookup y.1 == some .local || scope.names.lookup y.1 == some .cell) = true)
    (hnd : ((cellsFrom 0 scope.names []).map (·.1)).Nodup)
    (h : ∀ g L' h₁ tk cells (qk : Flow → Shared → Prop), s.heap.objs.size = L' → Fr g L' h₁ (bindL (envOfC qual scope L' f cdv).kindOf binds fun _ => none) → News g L' h₁ (cells ++ mach) →
      CellsAre (bindC (envOfC qual scope L' f cdv).kindOf binds fun _ => none) (cellsFrom (L' + 1) scope.names []) cells → Below A base (env :: outer) g → K.In g → Top p loose mean mg mb g → (∀ p ∈ mach, p.1 < L') → 
      (∀ fl s', LeaveS g s (R L') (match fl with | .ret v => v | _ => .none) s' → qk fl s') →
      wpAny (model prog w) (A.deeper (envOfC qual scope L' f cdv)) (execs body (envOfC qual scope L' f cdv)) qk (fun _ _ => False) { s with heap := h₁, toks := tk })
    (hco : scope.isCoroutine = false) (hgen : scope.isGenerator = false) (hk : scope.kind = .function) : codeAny (model prog w) A (.call (.ref f) ⟨vs, []⟩) (RV Q) s := by
  obtain ⟨FG, BG, st, _⟩ := groundX (R := fun _ _ => True) B F N hA hf hke
  have hlim := T.nolimit
  refine codeAny_call_function hroom ((X.keeps F.keep) _ _ ho) rfl hco hgen rfl (codeRec_of (X.keeps F.keep) hcd) (hbind _ _ _ _ ?_)
  refine wpAny_newFunctionEnv_cells hk (kindsX hkind _) fun env' he s' x => ?_
  subst he
  refine ⟨(hlim.keeps F.keep).keeps x.toInCall.keep, codeAny_func ?_⟩
  obtain ⟨h₁, tk, rfl, _⟩ := x.done
  have hk₁ := x.toInCall.keep
  obtain ⟨cells, NC, Y⟩ := Cl.news (h₀ := s.heap) (Nat.le_refl _) fun n c hm => ⟨x.cell n c (lookup_of_mem_nodup (cellsFrom_names scope.names 0 (s.heap.objs.size + 1) [] [] rfl ▸ hnd) hm), x.above n c hm⟩
  have hst : Stand s.heap (hideAll s.heap (mach.map (·.1))) (mach.map (·.1)) := fun b o hb e => hideAll_get _ e hb
  refine wpAny_mono (h _ s.heap.objs.size h₁ tk cells (fun fl s' => LeaveS (hideAll s.heap (mach.map (·.1))) s (R s.heap.objs.size) (match fl with | .ret v => v | _ => .none) s') rfl ⟨x.toInCall.ns, fun b o e => hk₁ b o (of_hideAll _ e), Nat.le_of_eq (hideAll_size _ _)⟩ (fun p hp => ?_) Y BG (X.keeps st) (T.keeps st) (fun p hp => Heap.lt_size (N p hp).1) fun _ _ x => x) (fun fl s' hl => ?_) fun _ _ y => y.elim
  · rcases List.mem_append.mp hp with hp | hp
    · refine ⟨(NC p hp).1, (NC p hp).2.1, ?_⟩
      cases q : (hideAll s.heap (mach.map (·.1))).get? p.1 with
      | none => rfl
      | some o => have := of_hideAll _ q; rw [(NC p hp).2.2] at this; cases this
    · exact ⟨hk₁ _ _ (N p hp).1, Nat.ne_of_lt (Heap.lt_size (N p hp).1), hideAll_none _ (List.mem_map_of_mem hp)⟩
  · obtain ⟨L', m', mach', h', tk', rfl, F', N', r, hsz⟩ := hl
    refine hret _ mach' h' tk' r ?_ (fun q hq => ⟨(N' q hq).1, fun e => ?_, ?_⟩) (fun b o hb e => F'.keep b o (hst b o hb e)) ⟨hsz, fun q hq => (Classical.em (q.1 ∈ mach.map (·.1))).imp id fun hno => by
    cases e : s.heap.get? q.1 with
    | none => rfl
    | some o =>
      have := (N' q hq).2.2
      rw [hst _ _ hno e] at this
      cases this⟩
    · obtain ⟨oL, es, ep, hL, hLd, hLk, hLf⟩ := FG.ns
      exact ⟨⟨oL, es, ep, F'.keep L oL hL, hLd, hLk, hLf⟩, fun b o e => F'.keep b o (st b o e), F.above⟩
    · obtain ⟨oL, _, _, hL, _⟩ := FG.ns
      have := (N' q hq).2.2
      rw [e, hL] at this
      cases this
    · cases e : h₀.get? q.1 with
      | none => rfl
      | some o =>
        have := (N' q hq).2.2
        rw [st _ _ e] at this
        cases this
end
end
section
local macro_rules | `(tactic| k_room) => `(tactic| ktr_room)
theorem sgn_slice (l : List Nat) (k : Nat) (hk : k ≤ l.length) : Txt.slice (str l) (some (k : Int)) (some ((k : Int) + 1)) = sgn l k := by
  have hlen : (str l).length = l.length := rfl
  by_cases h : k < l.length
  · have := eq_of_beq (slice_closesL (x := str l) (i := k) (j := (k : Int) + 1) (by omega) (by omega) (by rw [hlen]; omega))
    rw [this]
    unfold sgn
    show (⟨((l.drop (k : Int).toNat).take ((k : Int) + 1 - k).toNat).toArray⟩ : Str) = _
    rw [show (k : Int).toNat = k from by omega, show ((k : Int) + 1 - k).toNat = 1 from by omega]
  · have hk2 : k = l.length := by omega
    subst hk2
    unfold Txt.slice Builtin.Str.strSliceIndices sliceRange
    simp only [hlen, show ¬ ((l.length : Int) < 0) by omega, show ¬ ((l.length : Int) + 1 < 0) by omega, show min ((l.length : Int) + 1) (l.length : Int) = l.length by omega, show min (l.length : Int) (l.length : Int) = l.length by omega, if_false, show (1 : Int) > 0 by decide, if_true, show ¬ (max 0 (l.length : Int) < max 0 (l.length : Int)) by omega]
    unfold sgn
    rw [List.drop_length]
    cases l with
    | nil => rfl
    | cons c r => rfl
theorem sgn_len (l : List Nat) (k : Nat) : (sgn l k).length = ((l.drop k).take 1).length := rfl
theorem sgn_small (l : List Nat) (k : Nat) : ¬ ((sgn l k).length : Int) ≥ 2 ^ 63 := by
  have : ((l.drop k).take 1).length ≤ 1 := by rw [List.length_take]; omega
  have h := sgn_len l k
  omega
local macro_rules | `(tactic| walk_at "call builtin:len") => `(tactic| ((with_reducible show wpAny _ _ (call (Value.builtin "len") [Value.str (sgn _ _) _]) _ _ _); refine PySem.P.len_str (sgn_small _ _) ?_))
theorem mach_fin {w : World} {g h : Heap} {L : Addr} {P : Prop} {pb mx dx ds fs c2 rf k1 at_ ca ct a6 : Addr} {o2 ok1 oca oct : Obj} {o6 : Array Value} {u1 u2 u3 u4 u5 u6 tp tl : Tok} {fd rfd : FuncData} {sl rsl : Array (Option Value)}
    (N : News g L h [(pb, W.listOf #[] 0), (mx, instObj 95 dx),
   (dx, dictOf [⟨PyData.keyHash w.params (Str.ofString "lineno"), .str (Str.ofString "lineno") u1, .int 1 tl⟩, ⟨PyData.keyHash w.params (Str.ofString "instream"), .str (Str.ofString "instream") u2, .ref fs⟩,
      ⟨PyData.keyHash w.params (Str.ofString "whitespace"), .str (Str.ofString "whitespace") u3, .str (Str.ofString "\n\t\x0d ") u4⟩, ⟨PyData.keyHash w.params (Str.ofString "pushback"), .str (Str.ofString "pushback") u5, .ref pb⟩] 4),
   (ds, dictOf [⟨PyData.keyHash w.params (Str.ofString "read"), .str (Str.ofString "read") u6, .ref rf⟩] 1),
   (fs, ⟨.type "function", some ds, .func fd, sl⟩), (c2, o2), (rf, ⟨.type "function", none, .func rfd, rsl⟩), (k1, ok1), (at_, W.listOf #[.int 0 tp] 0), (ca, oca), (ct, oct), (a6, tabObj o6)])
    (k : ∀ M : Mac, M = ⟨ct, ca, at_, k1, rf, fs, ds, dx, mx, pb, oct, oca, ok1, rfd, rsl, fd, sl, u1, u2, u3, u4, u5, u6⟩ → News g L h (M.led w 0 tp 1 tl [] 0 ++ [(a6, tabObj o6)]) → P) : P :=
  k _ rfl fun p hp => N p ((show ∀ p ∈ _, _ from (by (repeat (refine List.forall_mem_cons.mpr ⟨by (repeat (first | exact List.Mem.head _ | refine List.Mem.tail _ ?_)), ?_⟩)); exact fun _ h => nomatch h)) p hp)
inductive OMach (w : World) (base : Heap) (l : List Nat) (L : Addr) : Value → List (Addr × Obj) → Prop
  | mk (M : Mac) (tp tl : Tok) (ps : Array Value) (O : M.Ord) (hL : @LT.lt Nat _ L M.ct) (RS : ReadSpec w M base l) : OMach w base l L (.ref M.mx) (M.led w 0 tp 1 tl [] 0 ++ [(106, tabObj ps)])
theorem OMach.of {w : World} {base : Heap} {l : List Nat} {L : Addr} {M : Mac} {v : Value} {tp tl : Tok} {ps : Array Value} (e : v = .ref M.mx) (O : M.Ord) (hL : @LT.lt Nat _ L M.ct) (RS : ReadSpec w M base l) : OMach w base l L v (M.led w 0 tp 1 tl [] 0 ++ [(106, tabObj ps)]) := by
  subst e; exact .mk M tp tl ps O hL RS
theorem c_machine (w : World) (base : Heap) (codeHd : CodeHd base (110, 106).fst (110, 106).snd) (l : List Nat) (tk0 : Tok) (hl : l.length ≤ 10000) :
    Con w 111 [.str (str l) tk0] [(106, tabObj #[])] base 7 90 (OMach w base l) := by
  intro p loose mean mg mb dp un gd cn cs a ccd cl outer A₀ h₀ L m s Q B F X N T hk hdp hun hret
  revert X; k_fill; intro X
  have l0 : @LT.lt Nat _ 106 s.heap.objs.size := Heap.lt_size (N _ (.head _)).1
  k_dflt (refine' enterC B F X N T ?kA ?kF ?kK hret ?k6 ?k7 ?k8 ?k9 ?kB ?kD ?_ ?c2 ?c3 ?c4; (case kA => exact rfl); (case kF => exact rfl); (case kK => assumption); (case k6 => k_is); (case k7 => k_is); (case k8 => ktr_room); (case k9 => exact BindsTo.of_eq rfl); (case kB => exact rfl); (case kD => decide +kernel); (case c2 => exact rfl); (case c3 => exact rfl); (case c4 => exact rfl); k_whole)
  clear F X N T B hret
  intro g' L' h' tk' cells' qk hL F' N' Y' B X T l1 hq; (try k_lt l1); k_cells Y'; (try simp only [List.cons_append, List.nil_append] at N'); (try dsimp only)
  rw [hL] at l0
  k_steps
  rename Fr _ _ _ _ => F'; rename News _ _ _ _ => N'
  refine setattr_fn (pre := []) F' N' (fun _ h => nomatch h) (by k_all) ?_
  rename_i o1 o2 q1 q2 at1 hp1 la hp2 o3 q3 rf1 k1 oc1 vs1 t1 ct1 dc1 hp3 tkB e1 e2 lb1 lb2 hp4 fs1 k2 oc2 vs2 t2 ct2 hp5 tkC e3 e4 lc1 lc2 hp6
  have hlt5 := Heap.lt_size (N' _ (.head _)).1
  clear F' N'
  intro h5 d5 t5 k5 F5 N5 e5
  simp only [List.nil_append] at N5
  k_steps
  rename Fr _ _ _ _ => F'; rename News _ _ _ _ => N'
  rename Addr => pb1
  rename _ < _ => O8
  rename _ ∧ _ => le
  have O9 := le.1
  clear le
  rename _ ∧ _ => ld
  have O7 := ld.1
  have O1 : @LT.lt Nat _ L' (L' + 1) ∧ @LT.lt Nat _ (L' + 1) (L' + 1 + 1) := ⟨Nat.lt_succ_self _, Nat.lt_succ_self _⟩
  have O2 : @LT.lt Nat _ (L' + 1 + 1) at1 := la.1
  have O3 : @LT.lt Nat _ at1 k1 := lb1.1
  have O4 : @LT.lt Nat _ k1 rf1 := lb2
  have O5 : @LT.lt Nat _ rf1 fs1 := Nat.lt_trans lc1.1 lc2
  have O6 : @LT.lt Nat _ fs1 d5 := by rw [e5]; exact hlt5
  refine mach_fin N' fun M hM N6 => ?_
  refine hq _ _ (leaveS _ _ F' N6 (fun _ h => h) (OMach.of (M := M) (by rw [hM]) ?_ ?_ ?_) hL)
  · rw [hM]; exact ⟨O1.2, O2, O3, O4, O5, O6, O7, O8, O9⟩
  · rw [hM]; exact O1.1
  · clear N6 F' N' 
    subst hM
    clear hq
    repeat (rename Fr _ _ _ _ => hz; clear hz)
    repeat (rename News _ _ _ _ => hz; clear hz)
    repeat (rename Below _ _ _ _ => hz; clear hz)
    repeat (rename Top _ _ _ _ _ _ => hz; clear hz)
    repeat (rename Frag.In _ _ => hz; clear hz)
    intro k tp line tl q n t hk0
    intro p loose mean mg' mb' dp un gd cn cs a ccd cl outer A₀ h₀ L m s Q B F X N T hk hdp hun hret
    dsimp only [Mac.led] at N
    have hcr := codeRec_news N (.tail _ (.tail _ (.tail _ (.tail _ (.tail _ (.tail _ (.head _))))))) e1 e2
    refine enterS B F X N T rfl rfl hk hret (News.get N (.tail _ (.tail _ (.tail _ (.tail _ (.tail _ (.head _))))))) rfl hcr (by ktr_room) (BindsTo.of_eq rfl) (locs rfl) ?_ (by decide) rfl rfl rfl
    clear F X N T B hret
    intro g h₁ L' qk hL F N lt B X T st hq; (try dsimp only)
    k_steps
    rename Fr _ _ _ _ => F'; rename News _ _ _ _ => N'
    refine slice_strN_ss (s := ⟨_, _, _, _, _⟩) F' N' ?_ (hsz := by show l.length ≤ 16777216; omega)
    clear F' N'
    intro h5 t5 k5 F5 N5
    rw [show Txt.slice (str l) (some ([(k : Int)].getD (Int.toNat 0) 0)) (some ([(k : Int)].getD (Int.toNat 0) 0 + 1)) = sgn l k from sgn_slice l k hk0]
    k_steps
    rename Fr _ _ _ _ => F'; rename News _ _ _ _ => N'
    dsimp only
    exact hq _ _ (leaveS _ _ F' N' (fun _ h => h) ⟨t5, _, rfl, rfl⟩ hL)
end
end Mine
namespace Mine
open PySem PySem.W PyProof.Rows PySem.Spec PySem.Calls
open PySem.Challenge (rw_sn0010_01)
local macro_rules
  | `(tactic| k_room) => `(tactic| ktr_room)
  | `(tactic| k_ne) => `(tactic| first | assumption | exact Ne.symm (by assumption))
  | `(tactic| walk_at "call ref") => `(tactic| refine hold ?_)
  | `(tactic| walk_at "exec While") => `(tactic| refine hold ?_)
  | `(tactic| walk_at "exec While Name") => `(tactic| refine hold ?_)
  | `(tactic| walk_at "exec While Compare") => `(tactic| refine hold ?_)
  | `(tactic| walk_at "exec For") => `(tactic| refine hold ?_)
  | `(tactic| walk_at "exec For Name Name cons nil") => `(tactic| refine hold ?_)
  | `(tactic| walk_at "exec For Name Call cons nil") => `(tactic| refine hold ?_)
  | `(tactic| walk_at "eval ListComp") => `(tactic| refine hold ?_)
  | `(tactic| walk_at "eval ListComp Name cons") => `(tactic| refine hold ?_)
  | `(tactic| walk_at "eval ListComp Call cons") => `(tactic| refine hold ?_)
  | `(tactic| walk_at "eval ListComp BinOp cons") => `(tactic| refine hold ?_)
  | `(tactic| walk_at "exec Assign cons ListComp") => `(tactic| refine hold ?_)
  | `(tactic| lcg_src) => `(tactic| exact List.forall_mem_nil _)
local macro_rules
  | `(tactic| lcg_src) => `(tactic| exact List.forall_mem_cons.mpr ⟨by k_mem, List.forall_mem_nil _⟩)
section
local macro_rules | `(tactic| walk_at "binaryOp Add bytes bytes") => `(tactic| (refine KBy.add_bytes (by (try simp only [Array.size_append, List.size_toArray, List.length_cons, List.length_nil]); omega) ?_; intro _ _))

/-- the sixteen signs -/
noncomputable def ap (n : Int) : UInt8 := (65 + n.toNat).toUInt8
noncomputable def i2a : Nat → Int → Array UInt8
  | 0, _ => #[]
  | k + 1, n => if n = 0 then #[] else i2a k (n / 16) ++ #[ap (n % 16)]

theorem small16 {P : Int → Prop} (h : ∀ k : Fin 16, P (k.val : Int)) (x : Int) (h0 : 0 ≤ x) (h1 : x < 16) : P x := by
  have := h ⟨x.toNat, by omega⟩
  rwa [show ((⟨x.toNat, by omega⟩ : Fin 16).val : Int) = x from Int.toNat_of_nonneg h0] at this
theorem aps_cut (x : Int) (h0 : 0 ≤ x) (h1 : x < 16) : KBy.whole #[65, 66, 67, 68, 69, 70, 71, 72, 73, 74, 75, 76, 77, 78, 79, 80] (some x) (some (x + 1)) = false ∧ KBy.picked #[65, 66, 67, 68, 69, 70, 71, 72, 73, 74, 75, 76, 77, 78, 79, 80] (some x) (some (x + 1)) = #[ap x] :=
  small16 (P := fun x => KBy.whole #[65, 66, 67, 68, 69, 70, 71, 72, 73, 74, 75, 76, 77, 78, 79, 80] (some x) (some (x + 1)) = false ∧ KBy.picked #[65, 66, 67, 68, 69, 70, 71, 72, 73, 74, 75, 76, 77, 78, 79, 80] (some x) (some (x + 1)) = #[ap x]) (by decide +kernel) x h0 h1

theorem c_Int2AP (w : World) (base : Heap) (n : Int) (tk : Tok) (hn0 : 0 ≤ n) (hn1 : n < 4096) : Con w 43 [.int n tk] [] base 2 16 (fun _ v mach' => mach' = [] ∧ ∃ t, v = .bytes (i2a 3 n) t) := by
  intro p loose mean mg mb dp un gd cn cs a ccd cl outer A₀ h₀ L m s Q B F X N T hk hdp hun hret
  revert X; k_fill; intro X
  k_dflt (refine' enterK B F X N T ?kA ?kF ?kK hret ?k6 ?k7 ?k8 ?k9 ?kB ?_ ?c5 ?c2 ?c3 ?c4; (case kA => exact rfl); (case kF => exact rfl); (case kK => assumption); (case k6 => k_is); (case k7 => k_is); (case k8 => ktr_room); (case k9 => exact BindsTo.of_eq rfl); (case c5 => decide); (case kB => exact locs rfl); (case c2 => exact rfl); (case c3 => exact rfl); (case c4 => exact rfl); k_whole)
  clear F X N T B hret
  intro g h₁ L' qk hL F N lt B X T st hq; (try dsimp only)
  k_steps
  rename Fr _ _ _ _ => F'; rename News _ _ _ _ => N'
  rw [if_neg (by omega : ¬ n < 0)] at F'
  refine unhold (while_ov (fun k ps led => led = [] ∧ ∃ x t b tb ta, ps = [(Str.ofString "num", .int x t), (Str.ofString "val", .bytes b tb), (Str.ofString "AP", .bytes #[65, 66, 67, 68, 69, 70, 71, 72, 73, 74, 75, 76, 77, 78, 79, 80] ta)] ∧ 0 ≤ x ∧ x < 16 ^ k ∧ k ≤ 3 ∧ b.size + k ≤ 3 ∧ i2a k x ++ b = i2a 3 n) 3 _ F' (.cons rfl (.cons rfl (.cons rfl .nil))) N' ⟨rfl, _, _, _, _, _, rfl, hn0, hn1, Nat.le_refl _, by decide, by simp⟩ ?_)
  clear F' N'
  rintro k ps led u h₁ tk₁ ⟨rfl, x, t, b, tb, ta, rfl, hx0, hxk, hk3, hbs, he⟩ F N
  dsimp only [ov] at F
  k_steps
  · rename Fr _ _ _ _ => F'; rename News _ _ _ _ => N'
    have hd : x.fdiv 16 = x / 16 := Int.fdiv_eq_ediv_of_nonneg x (by decide)
    have hm : x.fmod 16 = x % 16 := Int.fmod_eq_emod_of_nonneg x (by decide)
    rw [hd, hm] at F'
    have hc := aps_cut (x % 16) (by omega) (by omega)
    rw [hm]
    refine KBy.slice_N (s := ⟨_, _, _, _, _⟩) F' N' (by constructor) (by constructor) hc.1 (by rw [hc.2]; show 1 ≤ 16777216; decide) ?_
    clear F' N'
    intro h5 t5 k5 F5 N5
    rw [hc.2]
    k_steps
    rename Fr _ _ _ _ => F'; rename News _ _ _ _ => N'
    obtain ⟨j, rfl⟩ : ∃ j, k = j + 1 := ⟨k - 1, by
      have : k ≠ 0 := fun e => by subst e; simp at hxk; omega
      omega⟩
    refine LoopStep.go j [(Str.ofString "num", .int (x / 16) _), (Str.ofString "val", .bytes (#[ap (x % 16)] ++ b) _), (Str.ofString "AP", .bytes #[65, 66, 67, 68, 69, 70, 71, 72, 73, 74, 75, 76, 77, 78, 79, 80] ta)] [] F' (.cons rfl (.cons rfl (.cons rfl .nil))) N' (fun _ h => nomatch h) (Nat.lt_succ_self _) ⟨rfl, _, _, _, _, _, rfl, by omega, ?_, by omega, ?_, ?_⟩
    · rw [Int.pow_succ] at hxk; omega
    · rw [Array.size_append, show (#[ap (x % 16)] : Array UInt8).size = 1 from rfl]; omega
    · rw [← he, i2a, if_neg (by assumption), Array.append_assoc]
  · dsimp only
    refine hq _ _ (leaveS [] _ F N (fun _ h => nomatch h) ⟨rfl, tb, ?_⟩ hL)
    rw [← he, show i2a k x = #[] by cases k with | zero => rfl | succ k => rw [i2a, if_pos (by assumption)], Array.empty_append]
end
section
local macro_rules | `(tactic| walk_at "getMethod ref") => `(tactic| ((with_reducible rename News _ _ _ _ => nX); k_dflt (refine' getMethod_fn (News.get nX ?k1) (News.get nX ?k2) ?k3 ?_; (case k1 => k_mem); (case k2 => k_mem); (case k3 => k_get))))
local macro_rules | `(tactic| walk_at "callWith ref") => `(tactic| ((with_reducible rename News _ _ _ _ => nX); k_dflt (refine' callWith_F ?k1 ?_; (case k1 => exact FnAt.of nX (by k_mem)))))
local macro_rules | `(tactic| walk_at "And") => `(tactic| ((with_reducible show FnAt _ _ ∧ _); (with_reducible rename News _ _ _ _ => nX); refine ⟨FnAt.of nX (by k_mem), ?_⟩; dsimp only [List.nil_append, List.cons_append]))

theorem c_read_char (w : World) (M : Mac) (base : Heap) (l : List Nat) (hl : l.length ≤ 10000) (O : M.Ord) (RS : ReadSpec w M base l) (k : Nat) (hk : k ≤ l.length) (tp : Tok) (line : Int) (tl : Tok) (q : List Value) (n : Nat) (h0 : 0 ≤ line) (h1 : line ≤ 100000) :
    Con w 78 [.ref M.mx] (M.led w k tp line tl q n) base 5 60 (fun _ v mach' => ∃ t' tp' tl', v = .str (sgn l k) t' ∧ mach' = M.led w (k + ((l.drop k).take 1).length : Nat) tp' (line + if sgn l k = Str.ofString "\n" then 1 else 0) tl' q n) := by
  intro p loose mean mg mb dp un gd cn cs a ccd cl outer A₀ h₀ L m s Q B F X N T hk hdp hun hret
  revert X; k_fill; intro X
  k_dflt (refine' enterK B F X N T ?kA ?kF ?kK hret ?k6 ?k7 ?k8 ?k9 ?kB ?_ ?c5 ?c2 ?c3 ?c4; (case kA => exact rfl); (case kF => exact rfl); (case kK => assumption); (case k6 => k_is); (case k7 => k_is); (case k8 => ktr_room); (case k9 => exact BindsTo.of_eq rfl); (case c5 => decide); (case kB => exact locs rfl); (case c2 => exact rfl); (case c3 => exact rfl); (case c4 => exact rfl); k_whole)
  clear F X N T B hret
  intro g h₁ L' qk hL F N lt B X T st hq; (try dsimp only)
  dsimp only [Mac.led] at N
  unfold Mac.Ord at O
  k_steps
  rename Fr _ _ _ _ => F'; rename News _ _ _ _ => N'
  refine unhold (con_use (RS k tp line tl q n _ (by assumption)) B F' X T _ [] N' (fun _ h => h) (fun _ h => nomatch h) (fun _ h => nomatch h) rfl (by ktr_room) (by ktr_units) ?_)
  clear F' N'
  rintro v mach' h5 k5 ⟨t', tp', rfl, rfl⟩ F5 N5 - hz5
  rw [List.append_nil] at N5
  dsimp only [Mac.led] at N5
  k_steps
  · rename Fr _ _ _ _ => F'; rename News _ _ _ _ => N'
    dsimp only
    rename (_ == _) = true => hc
    exact hq _ _ (leaveS _ _ F' N' (fun _ h => h) ⟨t', tp', _, rfl, led_nl (eq_of_beq hc)⟩ hL)
  · rename Fr _ _ _ _ => F'; rename News _ _ _ _ => N'
    dsimp only
    rename (_ == _) = false => hc
    exact hq _ _ (leaveS _ _ F' N' (fun _ h => h) ⟨t', tp', _, rfl, led_no (fun e => by rw [e] at hc; simp at hc)⟩ hL)
end
section
open Builtin
theorem ci_look_next : typeLookup (.type "callable_iterator") "__next__" = pure (some (.builtin "callable_iterator.__next__")) := by rw [typeLookup_type, builtinLookup_eq_fast]; kernel_rfl
theorem ci_look_iter : typeLookup (.type "callable_iterator") "__iter__" = pure (some (.builtin "callable_iterator.__iter__")) := by rw [typeLookup_type, builtinLookup_eq_fast]; kernel_rfl
theorem ci_slot_next : Slot "callable_iterator" "__next__" "callable_iterator.__next__" :=
  .of (owner := "callable_iterator") (n := "__next__") ci_look_next (by decide +kernel) (by decide +kernel) (by decide +kernel)
    (by first | exact .inl (by decide +kernel) | exact .inr (by decide +kernel)) (by rw [isSubtype_type]; kernel_rfl)
theorem ci_slot_iter : Slot "callable_iterator" "__iter__" "callable_iterator.__iter__" :=
  .of (owner := "callable_iterator") (n := "__iter__") ci_look_iter (by decide +kernel) (by decide +kernel) (by decide +kernel)
    (by first | exact .inl (by decide +kernel) | exact .inr (by decide +kernel)) (by rw [isSubtype_type]; kernel_rfl)
theorem ci_entry_next : entryFor table "callable_iterator.__next__" = some Builtin.«callable_iterator.__next__» := entryFor_of_tree (by kernel_rfl)
theorem ci_entry_iter : entryFor table "callable_iterator.__iter__" = some Builtin.«dict_keyiterator.__iter__» :=
  entryFor_alias (id' := "dict_keyiterator.__iter__") (by kernel_rfl) rfl (by decide +kernel) (by kernel_rfl)
theorem meth_look_call : typeLookup (.type "method") "__call__" = pure (some (.builtin "method.__call__")) := by rw [typeLookup_type, builtinLookup_eq_fast]; kernel_rfl
theorem iter_entry : entryFor table "iter" = some Builtin.«iter» := entryFor_of_tree (by kernel_rfl)
noncomputable abbrev ciObj (q : Addr) (t : Tok) : Obj := { cls := .type "callable_iterator", data := .fields #[.ref q, .str (Str.ofString "") t, .bool false] }
noncomputable abbrev ciOver : Obj := { cls := .type "callable_iterator", data := .fields #[.none, .none, .bool true] }

theorem ci_iter {prog : Program} {w : World} {A : Around} {E : Value → Shared → Prop} {Q : Value → Shared → Prop} {s : Shared} {it : Addr} {vs : Array Value} (hit : s.heap.get? it = some { cls := .type "callable_iterator", data := .fields vs })
    (h : Q (.ref it) s) : wpAny (model prog w) A (pyIter (.ref it)) Q E s := by
  have hT : s.TypeIs (.ref it) "callable_iterator" := ⟨_, hit, rfl⟩
  refine wpAny_pyIter_slot hT ci_slot_iter (wpAny_call_entry ci_slot_iter hT ci_entry_iter ?_ (by unfold argsOk; kernel_rfl))
  exact wpAny_pure ⟨_, rfl, "callable_iterator", _, hT, ci_look_next, h⟩

theorem borrows_meth {M : Model} {A : Around} {E : Value → Shared → Prop} {Q : Bool → Shared → Prop} {s : Shared} {q f : Addr} {self : Value} {fo : Obj} {fd : FuncData} (hq : s.heap.get? q = some (methodObj (.ref f) self)) (hf : s.heap.get? f = some fo) (hd : fo.data = .func fd)
    (h : Q true s) : wpAny M A (borrowsExactly (.ref q)) Q E s := by
  unfold borrowsExactly
  refine wpAny_bind (wpAny_load hq ?_)
  dsimp only
  rw [if_pos (by decide)]
  show wpAny _ _ (do match (← load f).data with | .func _ => pure true | _ => pure false) _ _ _
  refine wpAny_bind (wpAny_load hf ?_)
  rw [hd]
  exact wpAny_pure h

theorem ci_next {prog : Program} {w : World} {A : Around} {E : Value → Shared → Prop} {Q : Option Value → Shared → Prop} {s : Shared} {it q f : Addr} {t : Tok} {self : Value} {fo : Obj} {fd : FuncData} (hh : A.handled = none)
    (hit : s.heap.get? it = some (ciObj q t)) (hq : s.heap.get? q = some (methodObj (.ref f) self)) (hf : s.heap.get? f = some fo) (hd : fo.data = .func fd)
    (hc : codeAny (model prog w) A.in1 (.call (.ref f) ⟨[self], []⟩) (RV fun v s₁ => s₁.heap.get? it = some (ciObj q t) ∧ s₁.heap.get? q = some (methodObj (.ref f) self) ∧ s₁.heap.get? f = some fo ∧
      ∃ x tx, v = .str x tx ∧ (x ≠ Str.ofString "" → Q (some v) s₁) ∧ (x = Str.ofString "" → ∀ h', h'.get? it = some ciOver → Heap.ExtBut it s₁.heap h' → Q none { s₁ with heap := h' })) s) :
    wpAny (model prog w) A (pyNext (.ref it)) Q E s := by
  have hT : s.TypeIs (.ref it) "callable_iterator" := ⟨_, hit, rfl⟩
  unfold pyNext
  refine wpAny_bind (wpAny_attempt (wpAny_callSpecial?_slot (name := Str.ofString "__next__") hT ci_slot_next
    (wpAny_call_entry ci_slot_next hT ci_entry_next ?_ (by unfold argsOk; kernel_rfl))))
  unfold «callable_iterator.__next__»
  refine wpAny_bind (wpAny_of_eq (a := (.ref it, [])) rfl ?_)
  dsimp only
  refine wpAny_bind (wpAny_field hit rfl (x := .bool false) rfl ?_)
  rw [if_neg (by decide)]
  refine wpAny_bind (wpAny_field hit rfl (x := .ref q) rfl ?_)
  refine wpAny_bind (wpAny_attempt ?_)
  unfold callOutOfASlot
  refine wpAny_bind (borrows_meth hq hf hd ?_)
  rw [if_pos rfl]
  unfold callBorrowed
  refine X.x_call ?_ (by intro h; cases h)
  refine method_call hq ?_
  refine codeAny_mono hc fun r s₁ hr => ?_
  rcases r with e | (v | _ | _ | _)
  all_goals first | exact hr.elim | skip
  obtain ⟨hit, hq, hf, x, tx, rfl, h1, h2⟩ := hr
  refine wpAny_pure ?_
  dsimp only
  refine wpAny_bind (wpAny_field hit rfl (x := .bool false) rfl ?_)
  rw [if_neg (by decide)]
  refine wpAny_bind (wpAny_field hit rfl (x := .str (Str.ofString "") t) rfl ?_)
  refine wpAny_bind (wpAny_holding (wpAny_eqBool_str ?_))
  by_cases hx : x = Str.ofString ""
  · rw [if_neg (by rw [decide_eq_true hx.symm]; decide)]
    refine wpAny_bind (wpAny_rule ?_)
    refine wpAny_bind ?_
    show wpAny _ _ (do
      slotLetsGo "callable_iterator.__next__" (← field (.ref it) 0) fun | .builtin "callable_iterator.__next__" x => x.pos.head? == some (.ref it) | _ => false
      setField (.ref it) 0 .none; setField (.ref it) 1 .none; setField (.ref it) 2 (.bool true)) _ _ _
    refine wpAny_bind (wpAny_field hit rfl (x := .ref q) rfl ?_)
    refine wpAny_bind ?_
    unfold slotLetsGo
    refine wpAny_bind (borrows_meth hq hf hd ?_)
    rw [if_pos rfl]
    refine wpAny_pure ?_
    refine wpAny_bind (wpAny_setField_rec hit (by show 0 < 3; decide) fun g1 e1 s1 => ?_)
    refine wpAny_bind (wpAny_setField_rec (s := { s₁ with heap := g1 }) e1 (by show 1 < _; simp) fun g2 e2 s2 => ?_)
    refine wpAny_setField_rec (s := { s₁ with heap := g2 }) e2 (by show 2 < _; simp) fun g3 e3 s3 => ?_
    show wpAny _ _ (newExc (.type "StopIteration") [] >>= _) _ _ _
    refine wpAny_bind ?_
    simp only [newExc, newTuple]
    refine wpAny_bind (wpAny_newObj_type ?_ (by size_fits))
    refine wpAny_bind (m := firstArgMember _ _) (wpAny_of_eq (a := Value.none) (by first | rfl | (simp only [firstArgMember]; rfl)) ?_)
    refine wpAny_newObj_type ?_ (by size_fits)
    simp only [raiseNew]
    refine wpAny_bind (wpAny_handled ?_)
    rw [show A.in1.handled = none from hh]
    refine wpAny_bind (wpAny_pure (wpAny_throw ?_))
    refine wpAny_bind (wpAny_isInstance (T := "StopIteration") (b := true) ⟨_, Heap.get?_push_size _ rfl, rfl⟩ isSubtype_stop ?_)
    refine wpAny_pure (h2 hx _ ?_ ?_)
    · exact Heap.get?_push_of_some _ (Heap.get?_push_of_some _ e3)
    · exact ((((s1.extBut.trans s2.extBut).trans s3.extBut).push _).push _)
  · rw [if_pos (by rw [decide_eq_false (Ne.symm hx)]; rfl)]
    exact wpAny_pure ⟨_, rfl, wpAny_pure (h1 hx)⟩
theorem ci_over {prog : Program} {w : World} {A : Around} {E : Value → Shared → Prop} {Q : Option Value → Shared → Prop} {s : Shared} {it : Addr} (hh : A.handled = none)
    (hit : s.heap.get? it = some ciOver) (h : ∀ h', Heap.ExtBut it s.heap h' → h'.get? it = some ciOver → Q none { s with heap := h' }) :
    wpAny (model prog w) A (pyNext (.ref it)) Q E s := by
  have hT : s.TypeIs (.ref it) "callable_iterator" := ⟨_, hit, rfl⟩
  unfold pyNext
  refine wpAny_bind (wpAny_attempt (wpAny_callSpecial?_slot (name := Str.ofString "__next__") hT ci_slot_next
    (wpAny_call_entry ci_slot_next hT ci_entry_next ?_ (by unfold argsOk; kernel_rfl))))
  unfold «callable_iterator.__next__»
  refine wpAny_bind (wpAny_of_eq (a := (.ref it, [])) rfl ?_)
  dsimp only
  refine wpAny_bind (wpAny_field hit rfl (x := .bool true) rfl ?_)
  rw [if_pos (by decide)]
  refine wpAny_bind (wpAny_rule ?_)
  refine wpAny_bind ?_
  show wpAny _ _ (newExc (.type "StopIteration") [] >>= _) _ _ _
  refine wpAny_bind ?_
  simp only [newExc, newTuple]
  refine wpAny_bind (wpAny_newObj_type ?_ (by size_fits))
  refine wpAny_bind (m := firstArgMember _ _) (wpAny_of_eq (a := Value.none) (by first | rfl | (simp only [firstArgMember]; rfl)) ?_)
  refine wpAny_newObj_type ?_ (by size_fits)
  simp only [raiseNew]
  refine wpAny_bind (wpAny_handled ?_)
  rw [show A.in1.handled = none from hh]
  refine wpAny_bind (wpAny_pure (wpAny_throw ?_))
  refine wpAny_bind (wpAny_isInstance (T := "StopIteration") (b := true) ⟨_, Heap.get?_push_size _ rfl, rfl⟩ isSubtype_stop ?_)
  refine wpAny_pure (h _ ?_ ?_)
  · exact ((Heap.ExtBut.refl _ _).push _).push _
  · exact Heap.get?_push_of_some _ (Heap.get?_push_of_some _ hit)
end
section
open Builtin
/-- the line where the lexer stands -/
noncomputable def lineAt (l : List Nat) (k : Nat) : Int := 1 + ((l.take k).count 10 : Nat)
theorem lineAt_step (l : List Nat) (k : Nat) : lineAt l (k + ((l.drop k).take 1).length) = lineAt l k + if sgn l k = Str.ofString "\n" then 1 else 0 := by
  unfold lineAt sgn
  cases h : l.drop k with
  | nil =>
    have : l.take (k + 0) = l.take k := rfl
    rw [if_neg (by show ¬ (⟨((List.take 1 ([] : List Nat))).toArray⟩ : Str) = Str.ofString "\n"; decide)]
    simp
  | cons c r =>
    have hk : k < l.length := by
      apply Nat.lt_of_not_le; intro h2; rw [List.drop_eq_nil_of_le h2] at h; cases h
    have e : l[k]? = some c := by
      have : (l.drop k)[0]? = some c := by rw [h]; rfl
      simpa using this
    have e2 : l.take (k + 1) = l.take k ++ [c] := by rw [List.take_add_one, e]; rfl
    show 1 + (((l.take (k + 1)).count 10 : Nat) : Int) = _
    rw [e2, List.count_append]
    by_cases hc : c = 10
    · subst hc
      rw [if_pos (by show (⟨#[10]⟩ : Str) = Str.ofString "\n"; decide)]
      simp
      omega
    · rw [if_neg (fun e => hc (by
        have e' : (#[c] : Array Nat) = #[10] := congrArg Str.cps (e.trans (by decide))
        simpa using e'))]
      simp [hc]
theorem lineAt_pos (l : List Nat) (k : Nat) : 0 ≤ lineAt l k := by unfold lineAt; omega
theorem lineAt_le (l : List Nat) (k : Nat) (hl : l.length ≤ 10000) : lineAt l k ≤ 100000 := by
  unfold lineAt
  have h1 : (l.take k).count 10 ≤ (l.take k).length := List.count_le_length
  have h2 : (l.take k).length ≤ l.length := by rw [List.length_take]; omega
  omega

theorem c_rc (w : World) (M : Mac) (base : Heap) (l : List Nat) (hl : l.length ≤ 10000) (O : M.Ord) (RS : ReadSpec w M base l) (k : Nat) (hk : k ≤ l.length) (tp tl : Tok) (q : List Value) (n : Nat) :
    Con w 78 [.ref M.mx] (M.led w k tp (lineAt l k) tl q n) base 5 60 (fun _ v mach' => ∃ t' tp' tl', v = .str (sgn l k) t' ∧ mach' = M.led w (k + ((l.drop k).take 1).length : Nat) tp' (lineAt l (k + ((l.drop k).take 1).length)) tl' q n) := by
  rw [lineAt_step]
  exact c_read_char w M base l hl O RS k hk tp (lineAt l k) tl q n (lineAt_pos l k) (lineAt_le l k hl)

theorem iter_two {prog : Program} {w : World} {A : Around} {E : Value → Shared → Prop} {Q : Value → Shared → Prop} {s : Shared} {q : Addr} {t : Tok} {f self : Value} {g : Heap} {L : Addr} {m : Str → Option Value} {led : List (Addr × Obj)}
    (F : Fr g L s.heap m) (N : News g L s.heap led) (hq : (q, methodObj f self) ∈ led)
    (h : ∀ h' it, (∀ p ∈ led, p.1 < it) → Fr g L h' m → News g L h' ((it, ciObj q t) :: led) → Q (.ref it) { s with heap := h' }) :
    wpAny (model prog w) A (call (.builtin "iter") [.ref q, .str (Str.ofString "") t]) Q E s := by
  have hm := (N _ hq).1
  refine Calls.call_function_entry (by decide +kernel) (by decide +kernel) iter_entry (by unfold argsOk; kernel_rfl) ?_
  unfold «iter»
  refine wpAny_bind (wpAny_of_eq (a := [.ref q, .str (Str.ofString "") t]) rfl ?_)
  dsimp only
  refine wpAny_bind (wpAny_specialOf (T := "method") ⟨_, hm, rfl⟩ meth_look_call ?_)
  rw [if_neg (by decide)]
  refine wpAny_bind (wpAny_rule (wpAny_bind ?_))
  unfold newFields
  refine wpAny_newObj_type ?_ (by size_fits)
  exact wpAny_pure ⟨_, rfl, h _ _ (fun p hp => Heap.lt_size (N p hp).1) (F.push _) (N.push F _)⟩
end
section
open Builtin
noncomputable def isW (c : Nat) : Bool := c == 10 || c == 9 || c == 13 || c == 32
/-- inside quotes -/
noncomputable def inQ : List Nat → List Nat → List Nat × List Nat
  | tok, [] => (tok, [])
  | tok, c :: r => if c = 34 then (tok, r) else if c = 92 then (match r with | [] => (tok, []) | d :: r' => inQ (tok ++ [d]) r') else inQ (tok ++ [c]) r
/-- a bare word -/
noncomputable def inB : List Nat → List Nat → List Nat × List Nat
  | tok, [] => (tok, [])
  | tok, c :: r => if isW c then (tok, r) else if c = 92 then (match r with | [] => (tok, []) | d :: r' => inB (tok ++ [d]) r') else inB (tok ++ [c]) r
/-- the next word, and what is left -/
noncomputable def lex : List Nat → List Nat × List Nat
  | [] => ([], [])
  | c :: r => if isW c then lex r else if c = 34 then inQ [] r else if c = 92 then (match r with | [] => inB [] [] | d :: r' => inB [d] r') else inB [c] r


theorem fn_ex {K : Frag} {a : Addr} {oc : Value} {od : Option Addr} {fd : FuncData} {sl : Array (Option Value)} (h : K.lookup a = some ⟨oc, od, .func fd, sl⟩) : ∃ oc od fd sl, K.lookup a = some ⟨oc, od, .func fd, sl⟩ := ⟨_, _, _, _, h⟩
theorem fn78 {w : World} {g : Heap} (X : (hd.heap_39 w.params).In g) (hr : rw_sn0010_01 = rw_sn0010_01) : ∃ oc od fd sl, (hd.heap_39 w.params).lookup 78 = some ⟨oc, od, .func fd, sl⟩ := by
  revert hr X; k_fill; intro X _
  k_dflt (refine' fn_ex ?h; (case h => k_is))

section
variable {w : World} {p : Program} {loose : List Str} {mean : ExcName → Option Value} {mg mb : Str → Option Value} {dp un : Nat} {gd : Option (List Code)} {cn : Str} {cs : Scope} {a : Addr} {ccd : Value} {cl : List (Str × Addr)} {outer : List Env} {A₀ : Around} {base g : Heap} {L : Addr} {m : Str → Option Value} {s : Shared} {E : Value → Shared → Prop}
theorem ci_turn {M : Mac} {l : List Nat} {it qm : Addr} {t : Tok} {k : Nat} {tp tl : Tok} {q : List Value} {n : Nat} {Q : Option Value → Shared → Prop} (hl : l.length ≤ 10000) (O : M.Ord) (RS : ReadSpec w M base l) (hk : k ≤ l.length)
    (B : Below A₀ base outer g) (F : Fr g L s.heap m) (X : (hd.heap_39 w.params).In g) (T : Top p loose mean mg mb g) (N : News g L s.heap ((it, ciObj qm t) :: (qm, methodObj (.ref 78) (.ref M.mx)) :: M.led w k tp (lineAt l k) tl q n))
    (h1 : @LT.lt Nat _ M.pb qm) (h2 : @LT.lt Nat _ qm it) (hck : cs.kind = .function) (hdp : dp + 5 < recursionLimit) (hun : un + 61 < cLine)
    (ho : l.drop k = [] → ∀ h' tk' tp' tl', Fr g L h' m → News g L h' ((it, ciOver) :: M.led w k tp' (lineAt l k) tl' q n) → Q none { s with heap := h', toks := tk' })
    (hs : ∀ c r, l.drop k = c :: r → ∀ h' tk' t' tp' tl', Fr g L h' m → News g L h' ((it, ciObj qm t) :: (qm, methodObj (.ref 78) (.ref M.mx)) :: M.led w (k + 1 : Nat) tp' (lineAt l (k + 1)) tl' q n) → Q (some (.str (str [c]) t')) { s with heap := h', toks := tk' }) :
    wpAny (model rw_sn0010_01.row.prog w) (ktrTop dp un gd cn cs L a ccd cl outer) (pyNext (.ref it)) Q E s := by
  obtain ⟨oc, od, fd, sl, hfo⟩ := fn78 X rfl
  have hF78 : ∀ {h' : Heap}, Fr g L h' m → h'.get? 78 = some ⟨oc, od, .func fd, sl⟩ := fun F => F.keep _ _ (X _ _ hfo)
  refine ci_next (hh := rfl) (News.get N (.head _)) (News.get N (.tail _ (.head _))) (hF78 F) rfl ?_
  refine con_code (c_rc w M base l hl O RS k hk tp tl q n) B F X T _ [(it, ciObj qm t), (qm, methodObj (.ref 78) (.ref M.mx))] N (fun _ h => .tail _ (.tail _ h)) (fun q hq => ?_) (fun q hq => ?_) hck hdp (by omega) ?_
  · rcases List.mem_cons.mp hq with rfl | hq
    · exact .head _
    · rw [List.mem_singleton.mp hq]; exact .tail _ (.head _)
  · rcases List.mem_cons.mp hq with rfl | hq
    · exact led_off (free_gt O (Nat.lt_trans h1 h2))
    · rw [List.mem_singleton.mp hq]; exact led_off (free_gt O h1)
  · rintro v mach' h' tk' ⟨t', tp', tl', rfl, rfl⟩ F' N' hlt hz
    have hi : (it, ciObj qm t) ∈ M.led w (k + ((l.drop k).take 1).length : Nat) tp' (lineAt l (k + ((l.drop k).take 1).length)) tl' q n ++ [(it, ciObj qm t), (qm, methodObj (.ref 78) (.ref M.mx))] := List.mem_append_right _ (.head _)
    have hq : (qm, methodObj (.ref 78) (.ref M.mx)) ∈ M.led w (k + ((l.drop k).take 1).length : Nat) tp' (lineAt l (k + ((l.drop k).take 1).length)) tl' q n ++ [(it, ciObj qm t), (qm, methodObj (.ref 78) (.ref M.mx))] := List.mem_append_right _ (.tail _ (.head _))
    refine ⟨(N' _ hi).1, (N' _ hq).1, hF78 F', sgn l k, t', rfl, fun hne => ?_, fun he h3 e3 x3 => ?_⟩
    · cases hd : l.drop k with
      | nil => exact absurd (by unfold sgn; rw [hd]; rfl) hne
      | cons c r =>
        have es : sgn l k = str [c] := by unfold sgn; rw [hd]; rfl
        rw [es]
        rw [hd] at N'
        refine hs c r hd h' tk' t' tp' tl' F' fun z hz => ?_
        rcases List.mem_cons.mp hz with rfl | hz
        · exact N' _ (List.mem_append_right _ (.head _))
        · rcases List.mem_cons.mp hz with rfl | hz
          · exact N' _ (List.mem_append_right _ (.tail _ (.head _)))
          · exact N' _ (List.mem_append_left _ hz)
    · cases hd : l.drop k with
      | cons c r =>
        have es : sgn l k = str [c] := by unfold sgn; rw [hd]; rfl
        rw [es] at he
        exact absurd (congrArg (fun x => x.cps.size) he) (by show ¬ (1 = 0); omega)
      | nil =>
        rw [hd] at N'
        have hN := (N (it, ciObj qm t) (.head _)).2
        refine ho hd h3 tk' tp' tl' (LCg.fr_but F' (fun b o hb => x3 b o (by simpa using hb)) (Ne.symm hN.1) hN.2) fun z hz => ?_
        rcases List.mem_cons.mp hz with rfl | hz
        · exact ⟨e3, hN⟩
        · have hz' := N' z (List.mem_append_left _ hz)
          exact ⟨x3 _ _ (by simpa using fun e => led_off (free_gt O (Nat.lt_trans h1 h2)) (List.mem_map.mpr ⟨z, hz, e⟩)) hz'.1, hz'.2⟩
end
end
section
open Builtin
theorem str_app (a b : List Nat) : str a ++ str b = str (a ++ b) := by
  show (⟨a.toArray ++ b.toArray⟩ : Str) = ⟨(a ++ b).toArray⟩
  rw [List.append_toArray]
theorem occ_ws : ∀ c, c < 128 → (Str.occurrences (Str.ofString "\n\t\x0d ") (str [c]) 0 (Str.ofString "\n\t\x0d ").length 1).isEmpty = !isW c := by
  decide +kernel
theorem str_one (c : Nat) (d : Nat) : (str [c] == (⟨#[d]⟩ : Str)) = (c == d) := by
  by_cases h : c = d
  · rw [h, beq_self_eq_true]; show (str [d] == str [d]) = true; exact beq_self_eq_true _
  · have : ¬ (str [c] = (⟨#[d]⟩ : Str)) := fun e => h (by
      have e' : (#[c] : Array Nat) = #[d] := congrArg Str.cps e
      simpa using e')
    have h2 : (str [c] == (⟨#[d]⟩ : Str)) = false := by
      cases e : (str [c] == (⟨#[d]⟩ : Str)) with
      | false => rfl
      | true => exact absurd (eq_of_beq e) this
    rw [h2]; exact (beq_false_of_ne h).symm
theorem str_q (c : Nat) : (str [c] == Str.ofString "\"") = (c == 34) := str_one c 34
theorem str_b (c : Nat) : (str [c] == Str.ofString "\\") = (c == 92) := str_one c 92

theorem lex_w {c : Nat} {r : List Nat} (h : isW c = true) : lex (c :: r) = lex r := by
  conv => lhs; unfold lex
  exact if_pos h
theorem lex_q {r : List Nat} : lex (34 :: r) = inQ [] r := by unfold lex; rfl
theorem lex_b0 : lex [92] = ([], []) := by decide
theorem lex_b1 {d : Nat} {r : List Nat} : lex (92 :: d :: r) = inB [d] r := by unfold lex; rfl
theorem lex_o {c : Nat} {r : List Nat} (h : isW c = false) (h1 : ¬ c = 34) (h2 : ¬ c = 92) : lex (c :: r) = inB [c] r := by
  conv => lhs; unfold lex
  exact (if_neg (by rw [h]; exact Bool.false_ne_true)).trans ((if_neg h1).trans (if_neg h2))
theorem inQ_q {t r : List Nat} : inQ t (34 :: r) = (t, r) := by unfold inQ; rfl
theorem inQ_b0 {t : List Nat} : inQ t [92] = (t, []) := by unfold inQ; rfl
theorem inQ_b1 {t : List Nat} {d : Nat} {r : List Nat} : inQ t (92 :: d :: r) = inQ (t ++ [d]) r := by rw [inQ]; rfl
theorem inQ_o {t : List Nat} {c : Nat} {r : List Nat} (h1 : ¬ c = 34) (h2 : ¬ c = 92) : inQ t (c :: r) = inQ (t ++ [c]) r := by
  conv => lhs; unfold inQ
  exact (if_neg h1).trans (if_neg h2)
theorem inB_w {t : List Nat} {c : Nat} {r : List Nat} (h : isW c = true) : inB t (c :: r) = (t, r) := by
  conv => lhs; unfold inB
  exact if_pos h
theorem inB_b0 {t : List Nat} : inB t [92] = (t, []) := by unfold inB; rfl
theorem inB_b1 {t : List Nat} {d : Nat} {r : List Nat} : inB t (92 :: d :: r) = inB (t ++ [d]) r := by rw [inB]; rfl
theorem inB_o {t : List Nat} {c : Nat} {r : List Nat} (h1 : isW c = false) (h2 : ¬ c = 92) : inB t (c :: r) = inB (t ++ [c]) r := by
  conv => lhs; unfold inB
  exact (if_neg (by rw [h1]; exact Bool.false_ne_true)).trans (if_neg h2)

/-- inside a word: where the turn stands -/
inductive JW (w : World) (M : Mac) (l : List Nat) (it qm : Addr) (n : Nat) (f : List Nat → List Nat → List Nat × List Nat) (WZ : List Nat × List Nat) : Nat → List (Str × Value) → List (Addr × Obj) → Prop
  | mk (k' : Nat) (tp tl tt tq : Tok) (tok : List Nat) (hk : k' ≤ l.length) (ht : tok.length ≤ k') (hf : f tok (l.drop k') = WZ) :
    JW w M l it qm n f WZ (l.length - k' + 2) [(Str.ofString "self", .ref M.mx), (Str.ofString "token", .str (str tok) tt), (Str.ofString "fiter", .ref it)]
      ((it, ciObj qm tq) :: (qm, methodObj (.ref 78) (.ref M.mx)) :: M.led w (k' : Nat) tp (lineAt l k') tl [] n)
/-- before a word -/
inductive JLex (w : World) (M : Mac) (l : List Nat) (it qm : Addr) (n : Nat) (W Z : List Nat) (n' : Nat) : List (Str × Value) → List (Addr × Obj) → Prop
  | go (k' : Nat) (tp tl tt tq : Tok) (hn : n' = l.length - k' + 2) (hk : k' ≤ l.length) (hx : lex (l.drop k') = (W, Z)) :
    JLex w M l it qm n W Z n' [(Str.ofString "self", .ref M.mx), (Str.ofString "token", .str (str []) tt), (Str.ofString "fiter", .ref it)]
      ((it, ciObj qm tq) :: (qm, methodObj (.ref 78) (.ref M.mx)) :: M.led w (k' : Nat) tp (lineAt l k') tl [] n)
  | over (tp tl tt : Tok) (hn : n' = 1) (hZ : Z = []) :
    JLex w M l it qm n W Z n' [(Str.ofString "self", .ref M.mx), (Str.ofString "token", .str (str W) tt), (Str.ofString "fiter", .ref it)] ((it, ciOver) :: M.led w (l.length : Nat) tp (lineAt l l.length) tl [] n)
/-- what get_token gives -/
inductive OLex (w : World) (M : Mac) (l : List Nat) (n : Nat) (WZ : List Nat × List Nat) : Value → List (Addr × Obj) → Prop
  | mk (t' tp' tl' : Tok) : OLex w M l n WZ (.str (str WZ.1) t') (M.led w (l.length - WZ.2.length : Nat) tp' (lineAt l (l.length - WZ.2.length)) tl' [] n)
/-- what the loop over a bare word does from each place -/
noncomputable def InnerB (w : World) (M : Mac) (l : List Nat) (it qm : Addr) (n : Nat) (W Z : List Nat) (g : Heap) (L' : Addr) (s : Shared) (n' : Nat) (A : Around) (st : Stmt) (env : Env) (Q : Flow → Shared → Prop) : Prop :=
  1 < n' → ∀ (k0 : Nat) (tp tl tt tq : Tok) (tok : List Nat) (h' : Heap) (tk' : Nat) (u : Str → Option Value), Fr g L' h' u → News g L' h' ((it, ciObj qm tq) :: (qm, methodObj (.ref 78) (.ref M.mx)) :: M.led w (k0 : Nat) tp (lineAt l k0) tl [] n) →
    Binds [(Str.ofString "self", .ref M.mx), (Str.ofString "token", .str (str tok) tt), (Str.ofString "fiter", .ref it)] u → k0 ≤ l.length → tok.length ≤ k0 → inB tok (l.drop k0) = (W, Z) →
    wpAny (model rw_sn0010_01.row.prog w) A (exec st env) Q (fun _ _ => False) { s with heap := h', toks := tk' }

theorem pose_key {w : World} {M : Mac} {l : List Nat} {it qm : Addr} {n : Nat} {W Z : List Nat} {g : Heap} {L' : Addr} {s : Shared} {n' : Nat} {A : Around} {st : Stmt} {env : Env} {Q : Flow → Shared → Prop} {G : Prop}
    (main : InnerB w M l it qm n W Z g L' s n' A st env Q → G) (key : InnerB w M l it qm n W Z g L' s n' A st env Q) : G := main key
theorem back_to {l r : List Nat} {k : Nat} (hk : k ≤ l.length) (h : l.drop k = r) : l.length - r.length = k := by
  rw [← h, List.length_drop]; omega
theorem olex_back {w : World} {M : Mac} {l tok r : List Nat} {n k : Nat} {t' tp' tl' : Tok} (hk : k ≤ l.length) (h : l.drop k = r) : OLex w M l n (tok, r) (.str (str tok) t') (M.led w (k : Nat) tp' (lineAt l k) tl' [] n) := by
  have e := OLex.mk (w := w) (M := M) (l := l) (n := n) (WZ := (tok, r)) t' tp' tl'
  dsimp only at e
  rw [back_to hk h] at e
  exact e
theorem olex_fin {w : World} {M : Mac} {l : List Nat} {n k : Nat} {W : List Nat} {WZ : List Nat × List Nat} {t' tp' tl' : Tok} (e : (W, []) = WZ) (hk : k = l.length) : OLex w M l n WZ (.str (str W) t') (M.led w (k : Nat) tp' (lineAt l k) tl' [] n) := by
  subst e hk
  exact OLex.mk (w := w) (M := M) (l := l) (n := n) (WZ := (W, [])) t' tp' tl'
theorem olex_end {w : World} {M : Mac} {l W : List Nat} {n : Nat} {t' tp' tl' : Tok} : OLex w M l n (W, []) (.str (str W) t') (M.led w (l.length : Nat) tp' (lineAt l l.length) tl' [] n) :=
  OLex.mk (w := w) (M := M) (l := l) (n := n) (WZ := (W, [])) t' tp' tl'
section
variable {w : World} {p : Program} {loose : List Str} {mean : ExcName → Option Value} {mg mb : Str → Option Value} {dp un : Nat} {gd : Option (List Code)} {cn : Str} {cs : Scope} {a : Addr} {ccd : Value} {cl : List (Str × Addr)} {outer : List Env} {A₀ : Around} {base g : Heap} {L : Addr} {m : Str → Option Value} {s : Shared} {E : Value → Shared → Prop}
theorem rc_turn {M : Mac} {l : List Nat} {it qm : Addr} {t : Tok} {k : Nat} {tp tl : Tok} {q : List Value} {n : Nat} {Q : Value → Shared → Prop} (hl : l.length ≤ 10000) (O : M.Ord) (RS : ReadSpec w M base l) (hk : k ≤ l.length)
    (B : Below A₀ base outer g) (F : Fr g L s.heap m) (X : (hd.heap_39 w.params).In g) (T : Top p loose mean mg mb g) (N : News g L s.heap ((it, ciObj qm t) :: (qm, methodObj (.ref 78) (.ref M.mx)) :: M.led w k tp (lineAt l k) tl q n))
    (h1 : @LT.lt Nat _ M.pb qm) (h2 : @LT.lt Nat _ qm it) (hck : cs.kind = .function) (hdp : dp + 5 < recursionLimit) (hun : un + 61 < cLine)
    (ho : l.drop k = [] → ∀ h' tk' t' tp' tl', Fr g L h' m → News g L h' ((it, ciObj qm t) :: (qm, methodObj (.ref 78) (.ref M.mx)) :: M.led w k tp' (lineAt l k) tl' q n) → Q (.str (str []) t') { s with heap := h', toks := tk' })
    (hs : ∀ c r, l.drop k = c :: r → ∀ h' tk' t' tp' tl', Fr g L h' m → News g L h' ((it, ciObj qm t) :: (qm, methodObj (.ref 78) (.ref M.mx)) :: M.led w (k + 1 : Nat) tp' (lineAt l (k + 1)) tl' q n) → Q (.str (str [c]) t') { s with heap := h', toks := tk' }) :
    wpAny (model rw_sn0010_01.row.prog w) (ktrTop dp un gd cn cs L a ccd cl outer) (call (.ref 78) [.ref M.mx]) Q E s := by
  refine con_use (c_rc w M base l hl O RS k hk tp tl q n) B F X T _ [(it, ciObj qm t), (qm, methodObj (.ref 78) (.ref M.mx))] N (fun _ h => .tail _ (.tail _ h)) (fun q hq => ?_) (fun q hq => ?_) hck hdp (by omega) ?_
  · rcases List.mem_cons.mp hq with rfl | hq
    · exact .head _
    · rw [List.mem_singleton.mp hq]; exact .tail _ (.head _)
  · simp only [Mac.led, List.map_cons, List.map_nil, List.mem_cons, List.not_mem_nil, or_false, not_or]
    have O' : M.Ord := O
    unfold Mac.Ord at O'
    rcases List.mem_cons.mp hq with rfl | hq
    · refine ⟨?_, ?_, ?_, ?_, ?_, ?_, ?_, ?_, ?_, ?_⟩ <;> (refine neN ?_; dsimp only; omega)
    · rw [List.mem_singleton.mp hq]
      refine ⟨?_, ?_, ?_, ?_, ?_, ?_, ?_, ?_, ?_, ?_⟩ <;> (refine neN ?_; dsimp only; omega)
  · rintro v mach' h' tk' ⟨t', tp', tl', rfl, rfl⟩ F' N' hlt hz
    cases hd : l.drop k with
    | nil =>
      have es : sgn l k = str [] := by unfold sgn; rw [hd]; rfl
      rw [es]
      rw [hd] at N'
      refine ho hd h' tk' t' tp' tl' F' fun z hz => ?_
      rcases List.mem_cons.mp hz with rfl | hz
      · exact N' _ (List.mem_append_right _ (.head _))
      · rcases List.mem_cons.mp hz with rfl | hz
        · exact N' _ (List.mem_append_right _ (.tail _ (.head _)))
        · exact N' _ (List.mem_append_left _ hz)
    | cons c r =>
      have es : sgn l k = str [c] := by unfold sgn; rw [hd]; rfl
      rw [es]
      rw [hd] at N'
      refine hs c r hd h' tk' t' tp' tl' F' fun z hz => ?_
      rcases List.mem_cons.mp hz with rfl | hz
      · exact N' _ (List.mem_append_right _ (.head _))
      · rcases List.mem_cons.mp hz with rfl | hz
        · exact N' _ (List.mem_append_right _ (.tail _ (.head _)))
        · exact N' _ (List.mem_append_left _ hz)
theorem tok_room {a b : List Nat} (h : a.length ≤ 10000) (h2 : b.length ≤ 1) : (str a).length + (str b).length ≤ sizeLine := by
  show a.length + b.length ≤ 16777216
  omega
theorem drop_facts {l : List Nat} {k c : Nat} {r : List Nat} (h : l.drop k = c :: r) : c ∈ l ∧ k + 1 ≤ l.length ∧ l.drop (k + 1) = r := by
  refine ⟨List.mem_of_mem_drop (i := k) (by rw [h]; exact List.mem_cons_self), ?_, ?_⟩
  · have := congrArg List.length h
    rw [List.length_drop, List.length_cons] at this
    omega
  · rw [← List.drop_drop, h]; rfl
theorem drop_nil {l : List Nat} {k : Nat} (hk : k ≤ l.length) (h : l.drop k = []) : k = l.length := by
  have := congrArg List.length h
  rw [List.length_drop, List.length_nil] at this
  omega
end
end
section
open Builtin
local macro_rules | `(tactic| walk_at "call builtin:iter") => `(tactic| refine hold ?_)

local macro_rules | `(tactic| walk_at "inplaceOp Add str str") => `(tactic| (k_dflt (refine' iadd_str ?_ ?ks; (case ks => exact tok_room (by first | assumption | exact Nat.zero_le _) (by first | exact Nat.zero_le _ | exact Nat.le_refl _))); intro _ _))

theorem c_gt_lex (w : World) (M : Mac) (base : Heap) (l : List Nat) (hl : l.length ≤ 10000) (hsm : ∀ c ∈ l, c < 128) (O : M.Ord) (RS : ReadSpec w M base l) (k : Nat) (hk0 : k ≤ l.length) (tp tl : Tok) (n : Nat) :
    Con w 85 [.ref M.mx] (M.led w k tp (lineAt l k) tl [] n) base 7 90 (fun _ => OLex w M l n (lex (l.drop k))) := by
  intro p loose mean mg mb dp un gd cn cs a ccd cl outer A₀ h₀ L m s Q B F X N T hk hdp hun hret
  revert X; k_fill; intro X
  k_dflt (refine' enterK B F X N T ?kA ?kF ?kK hret ?k6 ?k7 ?k8 ?k9 ?kB ?_ ?c5 ?c2 ?c3 ?c4; (case kA => exact rfl); (case kF => exact rfl); (case kK => assumption); (case k6 => k_is); (case k7 => k_is); (case k8 => ktr_room); (case k9 => exact BindsTo.of_eq rfl); (case c5 => decide); (case kB => exact locs rfl); (case c2 => exact rfl); (case c3 => exact rfl); (case c4 => exact rfl); k_whole)
  clear F X N T B hret
  intro g h₁ L' qk hL F N lt B X T st hq; (try dsimp only)
  dsimp only [Mac.led] at N
  have O' : M.Ord := O
  unfold Mac.Ord at O'
  k_steps
  rename Fr _ _ _ _ => F'; rename News _ _ _ _ => N'
  rename Addr => qm
  rename _ ∧ _ => lq
  have hqp : @LT.lt Nat _ M.pb qm := lq.1
  refine unhold (iter_two F' N' (.head _) ?_)
  clear F' N'
  intro h3 it l3 F' N'
  have hqi : @LT.lt Nat _ qm it := l3 _ (.head _)
  dsimp only
  k_lt l3
  k_steps
  rename Fr _ _ _ _ => F'; rename News _ _ _ _ => N'
  skip
  clear lt
  obtain ⟨W, Z, hT⟩ : ∃ W Z, lex (l.drop k) = (W, Z) := ⟨_, _, rfl⟩
  rw [hT] at hq
  refine unhold (for_ov it (JLex w M l it qm n W Z) (l.length - k + 2) _ F' (.cons rfl (.cons rfl (.cons rfl .nil))) N' (.go k _ _ _ _ rfl hk0 hT) (fun Q' h => ld F' rfl h) (fun Q' h => ci_iter (News.get N' (.head _)) h) ?_)
  clear F' N'
  intro n'
  apply pose_key (w := w) (M := M) (l := l) (it := it) (qm := qm) (n := n) (W := W) (Z := Z) (g := g) (L' := L') (s := s) (n' := n')
  case main =>
    intro key
    rintro ps led u h₂ tk₂ (⟨k', tp', tl', tt, tq, hn', hk', hlex⟩ | ⟨tp', tl', tt, hn', hZ⟩) F N
    · dsimp only [ov] at F
      refine ci_turn hl O RS hk' B F X T N hqp hqi rfl (by ktr_room) (by ktr_units) ?_ ?_
      · intro hd h5 k5 tp5 tl5 F5 N5
        rw [hd] at hlex
        have hkl := drop_nil hk' hd
        k_steps
        exact hq _ _ (leaveS _ _ F5 N5 (fun _ h => .tail _ h) (olex_fin hlex hkl) hL)
      · intro c r hd h5 k5 t5 tp5 tl5 F5 N5
        obtain ⟨hcl, hk1, hd1⟩ := drop_facts hd
        rw [hd] at hlex
        have hw := occ_ws c (hsm c hcl)
        dsimp only [Mac.led] at N5
        k_steps
        · rename Fr _ _ _ _ => F'; rename News _ _ _ _ => N'
          rename (str [c] == Str.ofString "\"") = true => hc
          rw [str_q] at hc
          have hcq : c = 34 := eq_of_beq hc
          rw [hcq, lex_q] at hlex
          refine unhold (hideW fun QI hzI => for_ov it (JW w M l it qm n inQ (W, Z)) (l.length - (k' + 1) + 2) _ F' (.cons rfl (.cons rfl (.cons rfl .nil))) N' (.mk (k' + 1) _ _ _ _ [] hk1 (Nat.zero_le _) (hd1 ▸ hlex)) (fun Q' h => ld F' rfl h) (fun Q' h => ci_iter (News.get N' (.head _)) h) ?_)
          clear F' N'
          intro n2 ps led u h₂ tk₂ hJ
          refine JW.casesOn hJ fun k2 tp2 tl2 tt2 tq2 tok hk2 htk hin F N => ?_
          dsimp only [ov] at F
          have htok : tok.length ≤ 10000 := Nat.le_trans htk (Nat.le_trans hk2 hl)
          refine ci_turn hl O RS hk2 B F X T N hqp hqi rfl (by ktr_room) (by ktr_units) ?_ ?_
          · intro hd h5 k5 tp5 tl5 F5 N5
            rw [hd] at hin
            have hkl := drop_nil hk2 hd
            rw [hkl] at N5
            have e1 := (Prod.mk.inj hin).1
            have e2 := (Prod.mk.inj hin).2
            refine hzI _ _ ?_
            k_steps
            exact LoopStep.go 1 [(Str.ofString "self", .ref M.mx), (Str.ofString "token", .str (str W) tt2), (Str.ofString "fiter", .ref it)] _ F5 (.cons rfl (.cons (congrArg (fun z => some (Value.str (str z) tt2)) e1) (.cons rfl .nil))) N5 (fun _ h => h) (by omega) (.over _ _ _ rfl e2.symm)
          · intro c r hd h5 k5 t5 tp5 tl5 F5 N5
            obtain ⟨hcl, hk3, hd3⟩ := drop_facts hd
            rw [hd] at hin
            (try clear hw)
            have hw := occ_ws c (hsm c hcl)
            dsimp only [Mac.led] at N5
            k_steps
            · rename Fr _ _ _ _ => F'; rename News _ _ _ _ => N'
              rename (str [c] == Str.ofString "\"") = true => hc
              rw [str_q] at hc
              have hcq : c = 34 := eq_of_beq hc
              rw [hcq, inQ_q] at hin
              exact hzI _ _ (hq _ _ (leaveS _ _ F' N' (fun _ h => .tail _ (.tail _ h)) (hin ▸ olex_back hk3 hd3) hL))
            · rename Fr _ _ _ _ => F'; rename News _ _ _ _ => N'
              rename (str [c] == Str.ofString "\\") = true => hc
              rw [str_b] at hc
              have hcq : c = 92 := eq_of_beq hc
              rw [hcq] at hin
              refine unhold (rc_turn hl O RS hk3 B F' X T N' hqp hqi rfl (by ktr_room) (by ktr_units) ?_ ?_)
              · intro hd4 h6 k6 t6 tp6 tl6 F6 N6
                clear F' N'
                rw [← hd3, hd4, inQ_b0] at hin
                dsimp only [Mac.led] at N6
                k_steps
                rename Fr _ _ _ _ => F'; rename News _ _ _ _ => N'
                exact LoopStep.go (l.length - (k2 + 1) + 2) [(Str.ofString "self", .ref M.mx), (Str.ofString "token", .str (str (tok ++ [])) _), (Str.ofString "fiter", .ref it)] _ F' (.cons rfl (.cons (congrArg (fun z => some (Value.str z _)) (str_app tok [])) (.cons rfl .nil))) N' (fun _ h => h) (by omega) (.mk (k2 + 1) _ _ _ _ (tok ++ []) hk3 (by rw [List.append_nil]; omega) (by rw [hd4, List.append_nil]; exact hin))
              · intro d r4 hd4 h6 k6 t6 tp6 tl6 F6 N6
                clear F' N'
                obtain ⟨hcl4, hk4, hd5⟩ := drop_facts hd4
                rw [← hd3, hd4, inQ_b1] at hin
                dsimp only [Mac.led] at N6
                k_steps
                rename Fr _ _ _ _ => F'; rename News _ _ _ _ => N'
                exact LoopStep.go (l.length - (k2 + 1 + 1) + 2) [(Str.ofString "self", .ref M.mx), (Str.ofString "token", .str (str (tok ++ [d])) _), (Str.ofString "fiter", .ref it)] _ F' (.cons rfl (.cons (congrArg (fun z => some (Value.str z _)) (str_app tok [d])) (.cons rfl .nil))) N' (fun _ h => h) (by omega) (.mk (k2 + 1 + 1) _ _ _ _ (tok ++ [d]) hk4 (by rw [List.length_append]; show _ + 1 ≤ _; omega) (by rw [hd5]; exact hin))
            · rename Fr _ _ _ _ => F'; rename News _ _ _ _ => N'
              rename (str [c] == Str.ofString "\"") = false => hc1
              rename (str [c] == Str.ofString "\\") = false => hc2
              rw [str_q] at hc1
              rw [str_b] at hc2
              rw [inQ_o (fun e => by rw [e] at hc1; cases hc1) (fun e => by rw [e] at hc2; cases hc2)] at hin
              exact LoopStep.go (l.length - (k2 + 1) + 2) [(Str.ofString "self", .ref M.mx), (Str.ofString "token", .str (str (tok ++ [c])) _), (Str.ofString "fiter", .ref it)] _ F' (.cons rfl (.cons (congrArg (fun z => some (Value.str z _)) (str_app tok [c])) (.cons rfl .nil))) N' (fun _ h => h) (by omega) (.mk (k2 + 1) _ _ _ _ (tok ++ [c]) hk3 (by rw [List.length_append]; show _ + 1 ≤ _; omega) (by rw [hd3]; exact hin))
        · rename Fr _ _ _ _ => F'; rename News _ _ _ _ => N'
          rename (str [c] == Str.ofString "\\") = true => hc
          rw [str_b] at hc
          have hcq : c = 92 := eq_of_beq hc
          rw [hcq] at hlex
          refine unhold (rc_turn hl O RS hk1 B F' X T N' hqp hqi rfl (by ktr_room) (by ktr_units) ?_ ?_)
          · intro hd4 h6 k6 t6 tp6 tl6 F6 N6
            clear F' N'
            rw [← hd1, hd4, lex_b0] at hlex
            dsimp only [Mac.led] at N6
            k_steps
            rename Fr _ _ _ _ => F'; rename News _ _ _ _ => N'
            exact unhold (key (by omega) (k' + 1) _ _ _ _ [] _ _ _ F' N' (.cons rfl (.cons (rfl) (.cons rfl .nil))) hk1 (Nat.zero_le _) (by rw [hd4]; exact hlex))
          · intro d r4 hd4 h6 k6 t6 tp6 tl6 F6 N6
            clear F' N'
            obtain ⟨hcl4, hk4, hd5⟩ := drop_facts hd4
            rw [← hd1, hd4, lex_b1] at hlex
            dsimp only [Mac.led] at N6
            k_steps
            rename Fr _ _ _ _ => F'; rename News _ _ _ _ => N'
            exact unhold (key (by omega) (k' + 1 + 1) _ _ _ _ [d] _ _ _ F' N' (.cons rfl (.cons (congrArg (fun z => some (Value.str z _)) (str_app [] [d])) (.cons rfl .nil))) hk4 (by show 1 ≤ _; omega) (by rw [hd5]; exact hlex))
        · rename Fr _ _ _ _ => F'; rename News _ _ _ _ => N'
          rename (Str.occurrences _ _ _ _ _).isEmpty = true => hc1
          rename (str [c] == Str.ofString "\"") = false => hc2
          rename (str [c] == Str.ofString "\\") = false => hc3
          rw [hw] at hc1
          rw [str_q] at hc2
          rw [str_b] at hc3
          rw [lex_o (by revert hc1; cases isW c <;> decide) (fun e => by rw [e] at hc2; cases hc2) (fun e => by rw [e] at hc3; cases hc3)] at hlex
          exact unhold (key (by omega) (k' + 1) _ _ _ _ [c] _ _ _ F' N' (.cons rfl (.cons (congrArg (fun z => some (Value.str z _)) (str_app [] [c])) (.cons rfl .nil))) hk1 (by show 1 ≤ _; omega) (by rw [hd1]; exact hlex))
        · rename Fr _ _ _ _ => F'; rename News _ _ _ _ => N'
          rename (Str.occurrences _ _ _ _ _).isEmpty = false => hc1
          rw [hw] at hc1
          rw [lex_w (by revert hc1; cases isW c <;> decide)] at hlex
          dsimp only
          exact LoopStep.cont (l.length - (k' + 1) + 2) [(Str.ofString "self", .ref M.mx), (Str.ofString "token", .str (str []) tt), (Str.ofString "fiter", .ref it)] _ F' (.cons rfl (.cons rfl (.cons rfl .nil))) N' (fun _ h => h) (by omega) (.go (k' + 1) _ _ _ _ rfl hk1 (by rw [hd1]; exact hlex))
    · dsimp only [ov] at F
      refine ci_over rfl (News.get N (.head _)) fun h5 x5 e5 => ?_
      have hN := (N (it, ciOver) (.head _)).2
      have F5 := LCg.fr_but F (fun b o hb => x5 b o (by simpa using hb)) (Ne.symm hN.1) hN.2
      have N5 : News g L' h5 ((it, ciOver) :: M.led w (l.length : Nat) tp' (lineAt l l.length) tl' [] n) := fun z hz => by
        rcases List.mem_cons.mp hz with rfl | hz
        · exact ⟨e5, hN⟩
        · have hz' := N z (.tail _ hz)
          exact ⟨x5 _ _ (by simpa using fun e => led_off (free_gt O (Nat.lt_trans hqp hqi)) (List.mem_map.mpr ⟨z, hz, e⟩)) hz'.1, hz'.2⟩
      clear F N
      dsimp only
      k_steps
      exact hq _ _ (leaveS _ _ F5 N5 (fun _ h => .tail _ h) (by rw [hZ]; exact olex_end) hL)
  case key =>
    intro h1n k0 tp0 tl0 tt0 tq0 tok0 h0 tk0 u0 F' N' hb0 hk00 ht0 hf0
    refine hideW fun QI hzI => for_ov it (JW w M l it qm n inB (W, Z)) (l.length - k0 + 2) _ F' hb0 N' (.mk k0 _ _ _ _ tok0 hk00 ht0 hf0) (fun Q' h => ld (Mine.Fr.ov F' hb0) rfl h) (fun Q' h => ci_iter (News.get N' (.head _)) h) ?_
    clear F' N'
    intro n2 ps led u h₂ tk₂ hJ
    refine JW.casesOn hJ fun k2 tp2 tl2 tt2 tq2 tok hk2 htk hin F N => ?_
    dsimp only [ov] at F
    have htok : tok.length ≤ 10000 := Nat.le_trans htk (Nat.le_trans hk2 hl)
    refine ci_turn hl O RS hk2 B F X T N hqp hqi rfl (by ktr_room) (by ktr_units) ?_ ?_
    · intro hd h5 k5 tp5 tl5 F5 N5
      rw [hd] at hin
      have hkl := drop_nil hk2 hd
      rw [hkl] at N5
      have e1 := (Prod.mk.inj hin).1
      have e2 := (Prod.mk.inj hin).2
      refine hzI _ _ ?_
      k_steps
      exact LoopStep.go 1 [(Str.ofString "self", .ref M.mx), (Str.ofString "token", .str (str W) tt2), (Str.ofString "fiter", .ref it)] _ F5 (.cons rfl (.cons (congrArg (fun z => some (Value.str (str z) tt2)) e1) (.cons rfl .nil))) N5 (fun _ h => h) (by omega) (.over _ _ _ rfl e2.symm)
    · intro c r hd h5 k5 t5 tp5 tl5 F5 N5
      obtain ⟨hcl, hk3, hd3⟩ := drop_facts hd
      rw [hd] at hin
      (try clear hw)
      have hw := occ_ws c (hsm c hcl)
      dsimp only [Mac.led] at N5
      k_steps
      · rename Fr _ _ _ _ => F'; rename News _ _ _ _ => N'
        rename (str [c] == Str.ofString "\\") = true => hc
        rw [str_b] at hc
        have hcq : c = 92 := eq_of_beq hc
        rw [hcq] at hin
        refine unhold (rc_turn hl O RS hk3 B F' X T N' hqp hqi rfl (by ktr_room) (by ktr_units) ?_ ?_)
        · intro hd4 h6 k6 t6 tp6 tl6 F6 N6
          clear F' N'
          rw [← hd3, hd4, inB_b0] at hin
          dsimp only [Mac.led] at N6
          k_steps
          rename Fr _ _ _ _ => F'; rename News _ _ _ _ => N'
          exact LoopStep.go (l.length - (k2 + 1) + 2) [(Str.ofString "self", .ref M.mx), (Str.ofString "token", .str (str (tok ++ [])) _), (Str.ofString "fiter", .ref it)] _ F' (.cons rfl (.cons (congrArg (fun z => some (Value.str z _)) (str_app tok [])) (.cons rfl .nil))) N' (fun _ h => h) (by omega) (.mk (k2 + 1) _ _ _ _ (tok ++ []) hk3 (by rw [List.append_nil]; omega) (by rw [hd4, List.append_nil]; exact hin))
        · intro d r4 hd4 h6 k6 t6 tp6 tl6 F6 N6
          clear F' N'
          obtain ⟨hcl4, hk4, hd5⟩ := drop_facts hd4
          rw [← hd3, hd4, inB_b1] at hin
          dsimp only [Mac.led] at N6
          k_steps
          rename Fr _ _ _ _ => F'; rename News _ _ _ _ => N'
          exact LoopStep.go (l.length - (k2 + 1 + 1) + 2) [(Str.ofString "self", .ref M.mx), (Str.ofString "token", .str (str (tok ++ [d])) _), (Str.ofString "fiter", .ref it)] _ F' (.cons rfl (.cons (congrArg (fun z => some (Value.str z _)) (str_app tok [d])) (.cons rfl .nil))) N' (fun _ h => h) (by omega) (.mk (k2 + 1 + 1) _ _ _ _ (tok ++ [d]) hk4 (by rw [List.length_append]; show _ + 1 ≤ _; omega) (by rw [hd5]; exact hin))
      · rename Fr _ _ _ _ => F'; rename News _ _ _ _ => N'
        rename (Str.occurrences _ _ _ _ _).isEmpty = true => hc1
        rename (str [c] == Str.ofString "\\") = false => hc2
        rw [hw] at hc1
        rw [str_b] at hc2
        rw [inB_o (by revert hc1; cases isW c <;> decide) (fun e => by rw [e] at hc2; cases hc2)] at hin
        exact LoopStep.go (l.length - (k2 + 1) + 2) [(Str.ofString "self", .ref M.mx), (Str.ofString "token", .str (str (tok ++ [c])) _), (Str.ofString "fiter", .ref it)] _ F' (.cons rfl (.cons (congrArg (fun z => some (Value.str z _)) (str_app tok [c])) (.cons rfl .nil))) N' (fun _ h => h) (by omega) (.mk (k2 + 1) _ _ _ _ (tok ++ [c]) hk3 (by rw [List.length_append]; show _ + 1 ≤ _; omega) (by rw [hd3]; exact hin))
      · rename Fr _ _ _ _ => F'; rename News _ _ _ _ => N'
        rename (Str.occurrences _ _ _ _ _).isEmpty = false => hc
        rw [hw] at hc
        rw [inB_w (by revert hc; cases isW c <;> decide)] at hin
        exact hzI _ _ (hq _ _ (leaveS _ _ F' N' (fun _ h => .tail _ (.tail _ h)) (hin ▸ olex_back hk3 hd3) hL))
end
section
open Builtin
section
variable {prog : Program} {w : World} {A : Around} {E : Value → Shared → Prop} {s : Shared} {h₀ h : Heap} {L D : Addr} {m : Str → Option Value} {news news' pre post : List (Addr × Obj)} {its its' : Array Value} {n : Nat}
theorem q_truth {q : List Value} {Q : Bool → Shared → Prop} (N : News h₀ L s.heap news) (hm : (D, W.listOf q.toArray n) ∈ news) (hz : q.length ≤ 100000) (h : ∀ tk, Q (!q.isEmpty) { s with toks := tk }) : wpAny (model prog w) A (truthy (.ref D)) Q E s := by
  refine wpAny_truthy_list (News.isList N hm) (by rw [List.size_toArray]; omega) ?_
  rw [List.isEmpty_toArray]
  exact h _
theorem q_pop0 {v : Value} {q : List Value} {u : Tok} {Q : Value → Shared → Prop} (F : Fr h₀ L s.heap m) (N : News h₀ L s.heap news) (U : Upd D (W.listOf (v :: q).toArray n) (W.listOf q.toArray (n + 1)) news news')
    (hz : (v :: q).length ≤ 100000) (h : ∀ h', Fr h₀ L h' m → News h₀ L h' news' → Q v { s with heap := h' }) : wpAny (model prog w) A (call (.builtin "list.pop") [.ref D, .int 0 u]) Q E s :=
  kl_popAt (k := 0) (p := []) (q := q) (y := v) F N rfl (by simp [seqIndex?]) rfl U (by show _ ≤ 16777216; exact Nat.le_trans hz (by decide)) h
theorem q_push {v : Value} {q : List Value} {Q : Value → Shared → Prop} (F : Fr h₀ L s.heap m) (N : News h₀ L s.heap news) (U : Upd D (W.listOf q.toArray n) (W.listOf (q ++ [v]).toArray (n + 1)) news news')
    (hz : q.length ≤ 100000) (h : ∀ h', Fr h₀ L h' m → News h₀ L h' news' → Q .none { s with heap := h' }) : wpAny (model prog w) A (call (.builtin "list.append") [.ref D, v]) Q E s := by
  refine append_K (its := q.toArray) (n := n) F N ?_ h (by show q.length ≤ 16777216; omega)
  rw [List.push_toArray]; exact U
end
local macro_rules | `(tactic| walk_at "truthy ref") => `(tactic| (k_dflt (refine' q_truth ?k1 ?k2 ?k3 ?_; (case k1 => k_asm); (case k2 => k_mem); (case k3 => assumption); k_whole); (try simp only [List.isEmpty_cons, Bool.not_false]); intro _))
local macro_rules | `(tactic| walk_at "call builtin:list.pop") => `(tactic| (k_dflt (refine' q_pop0 ?k1 ?k2 ?k3 ?k4 ?_; (case k1 => k_asm); (case k2 => k_asm); (case k3 => k_upd); (case k4 => assumption); k_whole); intro h' F' N'))
local macro_rules | `(tactic| walk_at "call builtin:list.append") => `(tactic| (k_dflt (refine' q_push ?k1 ?k2 ?k3 ?k4 ?_; (case k1 => k_asm); (case k2 => k_asm); (case k3 => k_upd); (case k4 => assumption); k_whole); intro h' F' N'))

theorem c_gt_pop (w : World) (M : Mac) (base : Heap) (O : M.Ord) (pos : Int) (tp : Tok) (line : Int) (tl : Tok) (v : Value) (q : List Value) (n : Nat) (hz : (v :: q).length ≤ 100000) :
    Con w 85 [.ref M.mx] (M.led w pos tp line tl (v :: q) n) base 7 90 (fun _ v' mach' => v' = v ∧ ∃ n', mach' = M.led w pos tp line tl q n') := by
  intro p loose mean mg mb dp un gd cn cs a ccd cl outer A₀ h₀ L m s Q B F X N T hk hdp hun hret
  revert X; k_fill; intro X
  k_dflt (refine' enterK B F X N T ?kA ?kF ?kK hret ?k6 ?k7 ?k8 ?k9 ?kB ?_ ?c5 ?c2 ?c3 ?c4; (case kA => exact rfl); (case kF => exact rfl); (case kK => assumption); (case k6 => k_is); (case k7 => k_is); (case k8 => ktr_room); (case k9 => exact BindsTo.of_eq rfl); (case c5 => decide); (case kB => exact locs rfl); (case c2 => exact rfl); (case c3 => exact rfl); (case c4 => exact rfl); k_whole)
  clear F X N T B hret
  intro g h₁ L' qk hL F N lt B X T st hq; (try dsimp only)
  dsimp only [Mac.led] at N
  have O' : M.Ord := O
  unfold Mac.Ord at O'
  k_steps
  rename Fr _ _ _ _ => F'; rename News _ _ _ _ => N'
  exact hq _ _ (leaveS _ _ F' N' (fun _ h => h) ⟨rfl, _, rfl⟩ hL)

theorem c_push (w : World) (M : Mac) (base : Heap) (O : M.Ord) (pos : Int) (tp : Tok) (line : Int) (tl : Tok) (v : Value) (q : List Value) (n : Nat) (hz : q.length ≤ 100000) :
    Con w 92 [.ref M.mx, v] (M.led w pos tp line tl q n) base 7 90 (fun _ v' mach' => v' = .none ∧ ∃ n', mach' = M.led w pos tp line tl (q ++ [v]) n') := by
  intro p loose mean mg mb dp un gd cn cs a ccd cl outer A₀ h₀ L m s Q B F X N T hk hdp hun hret
  revert X; k_fill; intro X
  k_dflt (refine' enterK B F X N T ?kA ?kF ?kK hret ?k6 ?k7 ?k8 ?k9 ?kB ?_ ?c5 ?c2 ?c3 ?c4; (case kA => exact rfl); (case kF => exact rfl); (case kK => assumption); (case k6 => k_is); (case k7 => k_is); (case k8 => ktr_room); (case k9 => exact BindsTo.of_eq rfl); (case c5 => decide); (case kB => exact locs rfl); (case c2 => exact rfl); (case c3 => exact rfl); (case c4 => exact rfl); k_whole)
  clear F X N T B hret
  intro g h₁ L' qk hL F N lt B X T st hq; (try dsimp only)
  dsimp only [Mac.led] at N
  have O' : M.Ord := O
  unfold Mac.Ord at O'
  k_steps
  rename Fr _ _ _ _ => F'; rename News _ _ _ _ => N'
  exact hq _ _ (leaveS _ _ F' N' (fun _ h => h) ⟨rfl, _, rfl⟩ hL)
end
section
open LCg LCt
/-- what an iterator runs over -/
inductive Src (prog : Program) (w : World) (A : Around) (xv : Value) (s₁ : Shared) (n : Nat) (P : Nat → Value → Prop) (keep : List (Addr × Obj)) : Prop
  | mk (o : Obj) (St : Nat → Heap → Prop) (W : Walks prog w A s₁.heap.objs.size (s₁.heap.objs.size :: keep.map (·.1)) [s₁.heap.objs.size] n P St) (st0 : St 0 (s₁.heap.push o)) (hIo : ∀ i h, St i h → ∃ o, h.get? s₁.heap.objs.size = some o)
      (hkeep : ∀ i h, St i h → ∀ p ∈ keep, h.get? p.1 = some p.2) (hlt : ∀ p ∈ keep, p.1 < s₁.heap.objs.size) (it : ∀ Q E, Q (.ref s₁.heap.objs.size) { s₁ with heap := s₁.heap.push o } → wpAny (model prog w) A (pyIter xv) Q E s₁) : Src prog w A xv s₁ n P keep

section
variable {prog : Program} {w : World} {A : Around} {s : Shared} {h₀ : Heap} {L : Addr} {m : Str → Option Value} {env : Env}
theorem src_str {x : Str} {t : Tok} (hh : A.handled = none) : Src prog w A (.str x t) s x.cps.size (SignAt x) [] := by
  cases ha : x.cps.all (· < 128)
  · exact ⟨{ cls := .type "str_iterator", data := .fields #[.str x t, .int 0 0] }, _, Walks.strWide hh _ x t, ⟨_, Heap.get?_push_size _ rfl, rfl, rfl⟩, fun _ _ st => ⟨_, st.choose_spec.1⟩, (fun _ _ _ _ h => nomatch h), (fun _ h => nomatch h), fun Q E h => wpAny_pyIter_wide ha h⟩
  · exact ⟨{ cls := .type "str_ascii_iterator", data := .fields #[.str x t, .int 0 0] }, _, Walks.strAscii hh _ x t, ⟨_, Heap.get?_push_size _ rfl, rfl, rfl⟩, fun _ _ st => ⟨_, st.choose_spec.1⟩, (fun _ _ _ _ h => nomatch h), (fun _ h => nomatch h), fun Q E h => wpAny_pyIter_ascii ha h⟩
theorem src_bytes {b : Array UInt8} {t : Tok} (hh : A.handled = none) : Src prog w A (.bytes b t) s b.size (fun i v => ∃ c u, b[i]? = some c ∧ v = .int (c.toNat : Int) u) [] :=
  ⟨{ cls := .type "bytes_iterator", data := .fields #[.bytes b t, .int 0 0] }, _, KBw.walks hh _ b t, ⟨_, Heap.get?_push_size _ rfl, rfl, rfl⟩, fun _ _ st => ⟨_, st.choose_spec.1⟩, (fun _ _ _ _ h => nomatch h), (fun _ h => nomatch h), fun Q E h => KBw.pyIter_bytes h⟩
theorem src_range {r : Addr} {a b : Int} {t u v : Tok} {n : Nat} (hh : A.handled = none) (hr : IsRange s.heap r a b 1 t u v) (hsm : Builtin.Range.small a b 1 = true) (hn : Builtin.Range.rangeSize a b 1 = ((n : Nat) : Int)) :
    Src prog w A (.ref r) s n (fun i v => ∃ t, v = .int (a + (i : Int)) t) [] :=
  ⟨{ cls := .type "range_iterator", data := .fields #[rawInt a, rawInt (Builtin.Range.rangeSize a b 1), rawInt 1] }, _, range_walks hh a n, (by show IsRangeIter _ _ _ _ _; rw [← hn]; simpa using Heap.get?_push_size _ rfl), fun _ _ st => ⟨_, st⟩, (fun _ _ _ _ h => nomatch h), (fun _ h => nomatch h), fun Q E h => wpAny_pyIter_range hr hsm h⟩
theorem src_list {ax : Addr} {its : Array Value} {k : Nat} {news : List (Addr × Obj)} (hh : A.handled = none) (N : News h₀ L s.heap news) (hm : (ax, ({ cls := .type "list", data := .seq its k } : Obj)) ∈ news) :
    Src prog w A (.ref ax) s its.size (fun i v => its[i]? = some v) [(ax, ({ cls := .type "list", data := .seq its k } : Obj))] := by
  have hl : s.heap.IsList ax its := ⟨_, (N _ hm).1, rfl, _, rfl⟩
  have hlt : ax < s.heap.objs.size := Heap.lt_size (N _ hm).1
  have W := Walks.list (prog := prog) (w := w) hh s.heap.objs.size ax (Nat.ne_of_lt hlt) its
  refine ⟨{ cls := .type "list_iterator", data := .fields #[.ref ax, .int 0 0] }, fun i h => (h.IsListIter s.heap.objs.size ax i ∧ h.IsList ax its) ∧ h.get? ax = some { cls := .type "list", data := .seq its k }, ?_, ⟨⟨⟨_, Heap.get?_push_size _ rfl, rfl, rfl⟩, hl.push _⟩, Heap.get?_push_of_some _ (N _ hm).1⟩, fun i h st => by obtain ⟨o, e, _⟩ := st.1.1; exact ⟨o, e⟩, fun i h st p hp => by rw [List.mem_singleton.mp hp]; exact st.2, fun p hp => by rw [List.mem_singleton.mp hp]; exact hlt, fun Q E h => wpAny_pyIter_list hl h⟩
  exact { sub := fun b hb => W.sub b hb
          frame := fun i h h' st hk => ⟨W.frame i h h' st.1 hk, hk ax (.tail _ (.head _)) _ st.2⟩
          item := fun i s' Q E hi st hQ => W.item i s' Q E hi st.1 fun v h' tk p st' fr => hQ v h' tk p ⟨st', fr _ _ (by simpa using Nat.ne_of_lt hlt) st.2⟩ fr
          done := fun s' Q E st hQ => W.done s' Q E st.1 hQ
          self := fun i s' Q E st hQ => W.self i s' Q E st.1 hQ }

/-- the turns of a block -/
theorem rest_ind {elt : Expr} {x : Str} {scope : Scope} {cl : List (Str × Addr)} {S : List (Addr × Obj) → Prop} {P : Nat → Value → Prop} {Fin : List Value → List (Addr × Obj) → Prop} {n : Nat} {led₀ : List (Addr × Obj)} (J : Nat → List Value → List (Addr × Obj) → Prop)
    (h0 : J 0 [] led₀)
    (turn : ∀ i v ys led I oI C oC D m₂ h tk (E' : Value → Shared → Prop), i < n → P i v → J i ys led → NsObj oC m₂ → m₂ x = some v → Fr h₀ L h m → News h₀ L h ((I, oI) :: (C, oC) :: (D, lst ys) :: led) → Off3 I C D led → ((@Ne Nat I C) ∧ (@Ne Nat I D) ∧ (@Ne Nat C D)) →
      wpAny (model prog w) A (eval elt (compEnvC scope cl C env)) (CompEnd h₀ L m { s with heap := h, toks := tk } I oI C oC D (lst ys) S (fun y led' => J (i + 1) (ys ++ [y]) led')) E' { s with heap := h, toks := tk })
    (fin : ∀ ys led, J n ys led → Fin ys led) : CompRest prog w A h₀ L m env elt x scope cl s S P Fin n 0 [] led₀ := by
  have key : ∀ (j i : Nat) (ys : List Value) led, i + j = n → J i ys led → CompRest prog w A h₀ L m env elt x scope cl s S P Fin j i ys led := by
    intro j
    induction j with
    | zero => intro i ys led hi hj; exact fin _ _ ((show i = n by omega) ▸ hj)
    | succ j ih =>
      intro i ys led hi hj v I oI C oC D m₂ h tk E' hv hC hx F N off ne
      refine wpAny_mono (turn i v ys led I oI C oC D m₂ h tk E' (by omega) hv hj hC hx F N off ne) (fun y s₂ hq => ?_) fun _ _ e => e
      obtain ⟨h', tk', nw, e, F', N', off', hS, r⟩ := hq
      exact ⟨h', tk', nw, e, F', N', off', hS, ih (i + 1) _ _ (by omega) r⟩
  exact key n 0 [] led₀ (by omega) h0
theorem restT_ind {ct elt : Expr} {x : Str} {scope : Scope} {cl : List (Str × Addr)} {S : List (Addr × Obj) → Prop} {P : Nat → Value → Prop} {Fin : List Value → List (Addr × Obj) → Prop} {n : Nat} {led₀ : List (Addr × Obj)} (J : Nat → List Value → List (Addr × Obj) → Prop)
    (h0 : J 0 [] led₀)
    (turn : ∀ i v ys led I oI C oC D m₂ h tk (E' : Value → Shared → Prop), i < n → P i v → J i ys led → NsObj oC m₂ → m₂ x = some v → Fr h₀ L h m → News h₀ L h ((I, oI) :: (C, oC) :: (D, lst ys) :: led) → Off3 I C D led → ((@Ne Nat I C) ∧ (@Ne Nat I D) ∧ (@Ne Nat C D)) →
      wpAny (model prog w) A (isTrue ct (compEnvC scope cl C env) (eval ct (compEnvC scope cl C env))) (fun ok s' => if ok = true then
        wpAny (model prog w) A (eval elt (compEnvC scope cl C env)) (CompEnd h₀ L m { s with heap := h, toks := tk } I oI C oC D (lst ys) S (fun y led' => J (i + 1) (ys ++ [y]) led')) E' s'
        else CompEnd h₀ L m { s with heap := h, toks := tk } I oI C oC D (lst ys) S (fun _ led' => J (i + 1) ys led') Value.none s') E' { s with heap := h, toks := tk })
    (fin : ∀ ys led, J n ys led → Fin ys led) : CompRestT prog w A h₀ L m env ct elt x scope cl s S P Fin n 0 [] led₀ := by
  have key : ∀ (j i : Nat) (ys : List Value) led, i + j = n → J i ys led → CompRestT prog w A h₀ L m env ct elt x scope cl s S P Fin j i ys led := by
    intro j
    induction j with
    | zero => intro i ys led hi hj; exact fin _ _ ((show i = n by omega) ▸ hj)
    | succ j ih =>
      intro i ys led hi hj v I oI C oC D m₂ h tk E' hv hC hx F N off ne
      refine wpAny_mono (turn i v ys led I oI C oC D m₂ h tk E' (by omega) hv hj hC hx F N off ne) (fun ok s₂ hq => ?_) fun _ _ e => e
      cases ok with
      | true =>
        simp only [if_true] at hq ⊢
        refine wpAny_mono hq (fun y s₃ hq => ?_) fun _ _ e => e
        obtain ⟨h', tk', nw, e, F', N', off', hS, r⟩ := hq
        exact ⟨h', tk', nw, e, F', N', off', hS, ih (i + 1) _ _ (by omega) r⟩
      | false =>
        simp only [Bool.false_eq_true, if_false] at hq ⊢
        obtain ⟨h', tk', nw, e, F', N', off', hS, r⟩ := hq
        exact ⟨h', tk', nw, e, F', N', off', hS, ih (i + 1) _ _ (by omega) r⟩
  exact key n 0 [] led₀ (by omega) h0

/-- the iterable stands, and the block's turns are shown -/
inductive SrcGo (prog : Program) (w : World) (A : Around) (h₀ : Heap) (L : Addr) (m : Str → Option Value) (R : Shared → (List (Addr × Obj) → Prop) → (Nat → Value → Prop) → Nat → List (Addr × Obj) → Prop) (xv : Value) (s₁ : Shared) : Prop
  | of {n : Nat} {P : Nat → Value → Prop} (keep : List (Addr × Obj)) {led : List (Addr × Obj)} (src : Src prog w A xv s₁ n P keep) (hn : n ≤ sizeLine) (F : Fr h₀ L s₁.heap m) (N : News h₀ L s₁.heap led) (hk : ∀ p ∈ keep, p ∈ led) (r : ∀ g, R { s₁ with heap := g } (fun led' => ∀ p ∈ keep, p ∈ led') P n led) : SrcGo prog w A h₀ L m R xv s₁
/-- the ledger as named, and a law of the values -/
inductive LedIs (led0 : List (Addr × Obj)) (P : Nat → List Value → Prop) (i : Nat) (ys : List Value) : List (Addr × Obj) → Prop
  | mk (h : P i ys) : LedIs led0 P i ys led0
theorem LedIs.of {LD led0 : List (Addr × Obj)} {P : Nat → List Value → Prop} {i : Nat} {ys : List Value} (e : LD = led0) (h : P i ys) : LedIs LD P i ys led0 := by subst e; exact .mk h
theorem rest_indL {elt : Expr} {x : Str} {scope : Scope} {cl : List (Str × Addr)} {S : List (Addr × Obj) → Prop} {P : Nat → Value → Prop} {Fin : List Value → List (Addr × Obj) → Prop} {n : Nat} (led0 : List (Addr × Obj)) (P' : Nat → List Value → Prop)
    (h0 : P' 0 [])
    (turn : ∀ LD, LD = led0 → ∀ i v ys I oI C oC D m₂ h tk (E' : Value → Shared → Prop), i < n → P i v → P' i ys → NsObj oC m₂ → m₂ x = some v → Fr h₀ L h m → News h₀ L h ((I, oI) :: (C, oC) :: (D, lst ys) :: led0) → Off3 I C D led0 → ((@Ne Nat I C) ∧ (@Ne Nat I D) ∧ (@Ne Nat C D)) →
      wpAny (model prog w) A (eval elt (compEnvC scope cl C env)) (CompEnd h₀ L m { s with heap := h, toks := tk } I oI C oC D (lst ys) S (fun y led' => LedIs LD P' (i + 1) (ys ++ [y]) led')) E' { s with heap := h, toks := tk })
    (fin : ∀ ys, P' n ys → Fin ys led0) : CompRest prog w A h₀ L m env elt x scope cl s S P Fin n 0 [] led0 :=
  rest_ind (LedIs led0 P') ⟨h0⟩ (fun i v ys led I oI C oC D m₂ h tk E' hi hv hJ hC hx F N off ne => by
    cases hJ with | mk hp =>
    exact turn led0 rfl i v ys I oI C oC D m₂ h tk E' hi hv hp hC hx F N off ne) (fun ys led hJ => by cases hJ with | mk hp => exact fin ys hp)
theorem rest_indRL {elt : Expr} {x : Str} {scope : Scope} {cl : List (Str × Addr)} {S : List (Addr × Obj) → Prop} {Fin : List Value → List (Addr × Obj) → Prop} {n : Nat} {a : Int} (led0 : List (Addr × Obj)) (P' : Nat → List Value → Prop)
    (h0 : P' 0 [])
    (turn : ∀ LD, LD = led0 → ∀ i u ys I oI C oC D m₂ h tk (E' : Value → Shared → Prop), i < n → P' i ys → NsObj oC m₂ → m₂ x = some (.int (a + (i : Int)) u) → Fr h₀ L h m → News h₀ L h ((I, oI) :: (C, oC) :: (D, lst ys) :: led0) → Off3 I C D led0 → ((@Ne Nat I C) ∧ (@Ne Nat I D) ∧ (@Ne Nat C D)) →
      wpAny (model prog w) A (eval elt (compEnvC scope cl C env)) (CompEnd h₀ L m { s with heap := h, toks := tk } I oI C oC D (lst ys) S (fun y led' => LedIs LD P' (i + 1) (ys ++ [y]) led')) E' { s with heap := h, toks := tk })
    (fin : ∀ ys, P' n ys → Fin ys led0) : CompRest prog w A h₀ L m env elt x scope cl s S (fun i v => ∃ t, v = Value.int (a + (i : Int)) t) Fin n 0 [] led0 :=
  rest_ind (LedIs led0 P') ⟨h0⟩ (fun i v ys led I oI C oC D m₂ h tk E' hi hv hJ hC hx F N off ne => by
    cases hJ with | mk hp =>
    obtain ⟨u, rfl⟩ := hv
    exact turn led0 rfl i u ys I oI C oC D m₂ h tk E' hi hp hC hx F N off ne) (fun ys led hJ => by cases hJ with | mk hp => exact fin ys hp)
theorem restT_indL {ct elt : Expr} {x : Str} {scope : Scope} {cl : List (Str × Addr)} {S : List (Addr × Obj) → Prop} {P : Nat → Value → Prop} {Fin : List Value → List (Addr × Obj) → Prop} {n : Nat} (led0 : List (Addr × Obj)) (P' : Nat → List Value → Prop)
    (h0 : P' 0 [])
    (turn : ∀ LD, LD = led0 → ∀ i v ys I oI C oC D m₂ h tk (E' : Value → Shared → Prop), i < n → P i v → P' i ys → NsObj oC m₂ → m₂ x = some v → Fr h₀ L h m → News h₀ L h ((I, oI) :: (C, oC) :: (D, lst ys) :: led0) → Off3 I C D led0 → ((@Ne Nat I C) ∧ (@Ne Nat I D) ∧ (@Ne Nat C D)) →
      wpAny (model prog w) A (isTrue ct (compEnvC scope cl C env) (eval ct (compEnvC scope cl C env))) (fun ok s' => if ok = true then
        wpAny (model prog w) A (eval elt (compEnvC scope cl C env)) (CompEnd h₀ L m { s with heap := h, toks := tk } I oI C oC D (lst ys) S (fun y led' => LedIs LD P' (i + 1) (ys ++ [y]) led')) E' s'
        else CompEnd h₀ L m { s with heap := h, toks := tk } I oI C oC D (lst ys) S (fun _ led' => LedIs LD P' (i + 1) ys led') Value.none s') E' { s with heap := h, toks := tk })
    (fin : ∀ ys, P' n ys → Fin ys led0) : CompRestT prog w A h₀ L m env ct elt x scope cl s S P Fin n 0 [] led0 :=
  restT_ind (LedIs led0 P') ⟨h0⟩ (fun i v ys led I oI C oC D m₂ h tk E' hi hv hJ hC hx F N off ne => by
    cases hJ with | mk hp =>
    exact turn led0 rfl i v ys I oI C oC D m₂ h tk E' hi hv hp hC hx F N off ne) (fun ys led hJ => by cases hJ with | mk hp => exact fin ys hp)
theorem restT_indRL {ct elt : Expr} {x : Str} {scope : Scope} {cl : List (Str × Addr)} {S : List (Addr × Obj) → Prop} {Fin : List Value → List (Addr × Obj) → Prop} {n : Nat} {a : Int} (led0 : List (Addr × Obj)) (P' : Nat → List Value → Prop)
    (h0 : P' 0 [])
    (turn : ∀ LD, LD = led0 → ∀ i u ys I oI C oC D m₂ h tk (E' : Value → Shared → Prop), i < n → P' i ys → NsObj oC m₂ → m₂ x = some (.int (a + (i : Int)) u) → Fr h₀ L h m → News h₀ L h ((I, oI) :: (C, oC) :: (D, lst ys) :: led0) → Off3 I C D led0 → ((@Ne Nat I C) ∧ (@Ne Nat I D) ∧ (@Ne Nat C D)) →
      wpAny (model prog w) A (isTrue ct (compEnvC scope cl C env) (eval ct (compEnvC scope cl C env))) (fun ok s' => if ok = true then
        wpAny (model prog w) A (eval elt (compEnvC scope cl C env)) (CompEnd h₀ L m { s with heap := h, toks := tk } I oI C oC D (lst ys) S (fun y led' => LedIs LD P' (i + 1) (ys ++ [y]) led')) E' s'
        else CompEnd h₀ L m { s with heap := h, toks := tk } I oI C oC D (lst ys) S (fun _ led' => LedIs LD P' (i + 1) ys led') Value.none s') E' { s with heap := h, toks := tk })
    (fin : ∀ ys, P' n ys → Fin ys led0) : CompRestT prog w A h₀ L m env ct elt x scope cl s S (fun i v => ∃ t, v = Value.int (a + (i : Int)) t) Fin n 0 [] led0 :=
  restT_ind (LedIs led0 P') ⟨h0⟩ (fun i v ys led I oI C oC D m₂ h tk E' hi hv hJ hC hx F N off ne => by
    cases hJ with | mk hp =>
    obtain ⟨u, rfl⟩ := hv
    exact turn led0 rfl i u ys I oI C oC D m₂ h tk E' hi hp hC hx F N off ne) (fun ys led hJ => by cases hJ with | mk hp => exact fin ys hp)

theorem src_parts {xv : Value} {s₁ : Shared} {n : Nat} {P : Nat → Value → Prop} {keep led : List (Addr × Obj)} {E : Value → Shared → Prop} {Q : Value → Shared → Prop} (S : Src prog w A xv s₁ n P keep) (F : Fr h₀ L s₁.heap m) (N : News h₀ L s₁.heap led)
    (h : ∀ (o : Obj) (St : Nat → Heap → Prop), Walks prog w A s₁.heap.objs.size (s₁.heap.objs.size :: keep.map (·.1)) [s₁.heap.objs.size] n P St → St 0 (s₁.heap.push o) → (∀ i h, St i h → ∃ o, h.get? s₁.heap.objs.size = some o) →
      (∀ i h h' o nw, St i h → h.get? s₁.heap.objs.size = some o → h'.get? s₁.heap.objs.size = some o → (∀ b o, h₀.get? b = some o → h'.get? b = some o) → News h₀ L h' nw → (∀ p ∈ keep, p ∈ nw) → St i h') →
      (∀ b ∈ s₁.heap.objs.size :: keep.map (·.1), b < (s₁.heap.push o).objs.size) → Fr h₀ L (s₁.heap.push o) m → News h₀ L (s₁.heap.push o) led → L ≠ s₁.heap.objs.size → h₀.get? s₁.heap.objs.size = none → (∀ p ∈ led, p.1 ≠ s₁.heap.objs.size) →
      Q (.ref s₁.heap.objs.size) { s₁ with heap := s₁.heap.push o }) : wpAny (model prog w) A (pyIter xv) Q E s₁ := by
  refine Src.casesOn S fun o St W st0 hIo hkeep hlt it => ?_
  refine it Q E (h o St W st0 hIo (fun i h h' o' nw st e e' k N' hs => W.frame i h h' st fun b hb ob eb => ?_) (fun b hb => ?_) (F.keeps fun _ _ e => Heap.get?_push_of_some _ e) (N.grown fun _ _ e => Heap.get?_push_of_some _ e) (Nat.ne_of_lt F.ns.lt) (next_is_new F) (fun p hp => Nat.ne_of_lt (Heap.lt_size (N p hp).1)))
  · rcases List.mem_cons.mp hb with rfl | hb
    · rw [e] at eb; cases eb; exact e'
    · obtain ⟨p, hp, rfl⟩ := List.mem_map.mp hb
      rw [hkeep i h st p hp] at eb; cases eb
      exact (N' p (hs p hp)).1
  · rw [Heap.size_push]
    rcases List.mem_cons.mp hb with rfl | hb
    · exact Nat.lt_succ_self _
    · obtain ⟨p, hp, rfl⟩ := List.mem_map.mp hb
      exact Nat.lt_succ_of_lt (hlt p hp)

theorem comp_E {E : Value → Shared → Prop} {elt iter : Expr} {x : Str} {px : Pos} {scope : Scope} {cl : List (Str × Addr)} {pos : Pos} {Q : Value → Shared → Prop} (F₀ : Fr h₀ L s.heap m)
    (hclos : closureFor scope env = pure cl) (hcell : ∀ y ∈ scope.names, y.2 ≠ .cell) (hkind : scope.kind = .function)
    (hnames : ∀ y ∈ scope.names, y.2 = .local → scope.names.lookup y.1 = some .local) (hx : scope.names.lookup x = some .local)
    (h : wpAny (model prog w) A (eval iter env) (SrcGo prog w A h₀ L m fun s₂ S P n led => CompRest prog w A h₀ L m env elt x scope cl s₂ S P (FinE h₀ L m s₂ Q) n 0 [] led) E s)
    (hs : ∀ x, foldedSetIterable iter env x = pure x := by intro _; rfl) :
    wpAny (model prog w) A (eval (.ListComp elt [⟨.Name x px, iter, [], 0⟩] scope pos) env) Q E s := by
  rw [eval_ListComp]
  refine wpAny_comprehension_free (use := none) rfl hs hclos hkind hnames (wpAny_mono h (fun xv s₁ h₁ => ?_) fun _ _ e => e)
  refine SrcGo.casesOn h₁ fun {n P} keep {led} src hsz F N hk R => ?_
  refine src_parts src F N fun o St W st0 hIo hSt hfp F1 N1 hIL hI0 off => ?_
  refine block_U W hsz hIo hSt hcell hkind hx st0 hfp F1 N1 hIL hI0 off hk (R _) ?_
  intro D C h tk m' ys news' F' N' o1 hn hC₀ hD₀ hCL hDL hCD offC fin
  refine ⟨m', hn, fun h'' hs'' => fin D h'' tk (F'.change hs'' hCL hC₀) (fun p hp => ?_) o1⟩
  refine ⟨hs''.extBut _ _ ?_ (N' p hp).1, (N' p hp).2⟩
  rcases List.mem_cons.mp hp with rfl | hp
  · exact Ne.symm hCD
  · exact offC p hp
theorem compT_E {E : Value → Shared → Prop} {ct elt iter : Expr} {x : Str} {px : Pos} {scope : Scope} {cl : List (Str × Addr)} {pos : Pos} {Q : Value → Shared → Prop} (F₀ : Fr h₀ L s.heap m)
    (hclos : closureFor scope env = pure cl) (hcell : ∀ y ∈ scope.names, y.2 ≠ .cell) (hkind : scope.kind = .function)
    (hnames : ∀ y ∈ scope.names, y.2 = .local → scope.names.lookup y.1 = some .local) (hx : scope.names.lookup x = some .local)
    (h : wpAny (model prog w) A (eval iter env) (SrcGo prog w A h₀ L m fun s₂ S P n led => CompRestT prog w A h₀ L m env ct elt x scope cl s₂ S P (FinE h₀ L m s₂ Q) n 0 [] led) E s)
    (hs : ∀ x, foldedSetIterable iter env x = pure x := by intro _; rfl) :
    wpAny (model prog w) A (eval (.ListComp elt [⟨.Name x px, iter, [ct], 0⟩] scope pos) env) Q E s := by
  rw [eval_ListComp]
  refine wpAny_comprehension_free (use := none) rfl hs hclos hkind hnames (wpAny_mono h (fun xv s₁ h₁ => ?_) fun _ _ e => e)
  refine SrcGo.casesOn h₁ fun {n P} keep {led} src hsz F N hk R => ?_
  refine src_parts src F N fun o St W st0 hIo hSt hfp F1 N1 hIL hI0 off => ?_
  refine block_T W hsz hIo hSt hcell hkind hx st0 hfp F1 N1 hIL hI0 off hk (R _) ?_
  intro D C h tk m' ys news' F' N' o1 hn hC₀ hD₀ hCL hDL hCD offC fin
  refine ⟨m', hn, fun h'' hs'' => fin D h'' tk (F'.change hs'' hCL hC₀) (fun p hp => ?_) o1⟩
  refine ⟨hs''.extBut _ _ ?_ (N' p hp).1, (N' p hp).2⟩
  rcases List.mem_cons.mp hp with rfl | hp
  · exact Ne.symm hCD
  · exact offC p hp
theorem comp_A {E : Value → Shared → Prop} {elt iter : Expr} {x y : Str} {px py : Pos} {scope : Scope} {cl : List (Str × Addr)} {pos spos : Pos} {Q : Flow → Shared → Prop} (F₀ : Fr h₀ L s.heap m) (hLe : env.locals = L)
    (hsw : swapsWith (.ListComp elt [⟨.Name x px, iter, [], 0⟩] scope pos) (some (.Name y py)) spos.line env = pure true)
    (hclos : closureFor scope env = pure cl) (hcell : ∀ z ∈ scope.names, z.2 ≠ .cell) (hkind : scope.kind = .function)
    (hnames : ∀ z ∈ scope.names, z.2 = .local → scope.names.lookup z.1 = some .local) (hx : scope.names.lookup x = some .local)
    (hy : env.kindOf y = some .local) (hp : (env.scope.kind == .class || (env.scope.kind == .module && env.locals != env.globals)) = false)
    (h : wpAny (model prog w) A (eval iter env) (SrcGo prog w A h₀ L m fun s₂ S P n led => CompRest prog w A h₀ L m env elt x scope cl s₂ S P (FinA h₀ L m s₂ y Q) n 0 [] led) E s)
    (hs : ∀ x, foldedSetIterable iter env x = pure x := by intro _; rfl) :
    wpAny (model prog w) A (exec (.Assign [.Name y py] (.ListComp elt [⟨.Name x px, iter, [], 0⟩] scope pos) spos) env) Q E s := by
  subst hLe
  rw [exec_Assign_Name_used _ _ _ _ hsw]
  refine wpAny_bind (wpAny_standAt (wpAny_bind ?_))
  show wpAny _ A (do let _ ← comprehension (.ListComp elt [⟨.Name x px, iter, [], 0⟩] scope pos) scope env _ (newList []) false (eval iter env) (some (assign (.Name y py) env))) _ _ s
  refine wpAny_bind (wpAny_mono (wpAny_comprehension_free (use := some (assign (.Name y py) env)) (Q := fun _ s' => Q .next s') rfl hs hclos hkind hnames
    (wpAny_mono h (fun xv s₁ h₁ => ?_) fun _ _ e => e)) (fun _ s' hq => wpAny_pure (wpAny_pure hq)) fun _ _ e => e)
  refine SrcGo.casesOn h₁ fun {n P} keep {led} src hsz F N hk R => ?_
  refine src_parts src F N fun o St W st0 hIo hSt hfp F1 N1 hIL hI0 off => ?_
  refine block_U W hsz hIo hSt hcell hkind hx st0 hfp F1 N1 hIL hI0 off hk (R _) ?_
  intro D C h' tk m' ys news' F' N' o1 hn hC₀ hD₀ hCL hDL hCD offC fin
  show wpAny _ A (assign (.Name y py) env (.ref D)) _ _ _
  refine wpAny_assign_Name (wpAny_storeName_local hy F'.ns (fun h₂ hn₂ hs₂ => ?_) hp)
  have hL₀ : h₀.get? env.locals = none := Heap.get?_none_of_le F'.above
  have F₂ : Fr h₀ env.locals h₂ (fun z => if z = y then some (.ref D) else m z) := ⟨hn₂, fun b o e => hs₂.extBut b o (fun q => by rw [q, hL₀] at e; cases e) (F'.keep b o e), F'.above⟩
  refine ⟨m', hn.sameBut hs₂ hCL, fun h'' hs'' => fin D h'' _ (F₂.change hs'' hCL hC₀) (fun p hp => ?_) o1⟩
  have z : h₂.get? p.1 = some p.2 := hs₂.extBut _ _ (N' p hp).2.1 (N' p hp).1
  refine ⟨hs''.extBut _ _ ?_ z, (N' p hp).2⟩
  rcases List.mem_cons.mp hp with rfl | hp
  · exact Ne.symm hCD
  · exact offC p hp
theorem compT_A {E : Value → Shared → Prop} {ct elt iter : Expr} {x y : Str} {px py : Pos} {scope : Scope} {cl : List (Str × Addr)} {pos spos : Pos} {Q : Flow → Shared → Prop} (F₀ : Fr h₀ L s.heap m) (hLe : env.locals = L)
    (hsw : swapsWith (.ListComp elt [⟨.Name x px, iter, [ct], 0⟩] scope pos) (some (.Name y py)) spos.line env = pure true)
    (hclos : closureFor scope env = pure cl) (hcell : ∀ z ∈ scope.names, z.2 ≠ .cell) (hkind : scope.kind = .function)
    (hnames : ∀ z ∈ scope.names, z.2 = .local → scope.names.lookup z.1 = some .local) (hx : scope.names.lookup x = some .local)
    (hy : env.kindOf y = some .local) (hp : (env.scope.kind == .class || (env.scope.kind == .module && env.locals != env.globals)) = false)
    (h : wpAny (model prog w) A (eval iter env) (SrcGo prog w A h₀ L m fun s₂ S P n led => CompRestT prog w A h₀ L m env ct elt x scope cl s₂ S P (FinA h₀ L m s₂ y Q) n 0 [] led) E s)
    (hs : ∀ x, foldedSetIterable iter env x = pure x := by intro _; rfl) :
    wpAny (model prog w) A (exec (.Assign [.Name y py] (.ListComp elt [⟨.Name x px, iter, [ct], 0⟩] scope pos) spos) env) Q E s := by
  subst hLe
  rw [exec_Assign_Name_used _ _ _ _ hsw]
  refine wpAny_bind (wpAny_standAt (wpAny_bind ?_))
  show wpAny _ A (do let _ ← comprehension (.ListComp elt [⟨.Name x px, iter, [ct], 0⟩] scope pos) scope env _ (newList []) false (eval iter env) (some (assign (.Name y py) env))) _ _ s
  refine wpAny_bind (wpAny_mono (wpAny_comprehension_free (use := some (assign (.Name y py) env)) (Q := fun _ s' => Q .next s') rfl hs hclos hkind hnames
    (wpAny_mono h (fun xv s₁ h₁ => ?_) fun _ _ e => e)) (fun _ s' hq => wpAny_pure (wpAny_pure hq)) fun _ _ e => e)
  refine SrcGo.casesOn h₁ fun {n P} keep {led} src hsz F N hk R => ?_
  refine src_parts src F N fun o St W st0 hIo hSt hfp F1 N1 hIL hI0 off => ?_
  refine block_T W hsz hIo hSt hcell hkind hx st0 hfp F1 N1 hIL hI0 off hk (R _) ?_
  intro D C h' tk m' ys news' F' N' o1 hn hC₀ hD₀ hCL hDL hCD offC fin
  show wpAny _ A (assign (.Name y py) env (.ref D)) _ _ _
  refine wpAny_assign_Name (wpAny_storeName_local hy F'.ns (fun h₂ hn₂ hs₂ => ?_) hp)
  have hL₀ : h₀.get? env.locals = none := Heap.get?_none_of_le F'.above
  have F₂ : Fr h₀ env.locals h₂ (fun z => if z = y then some (.ref D) else m z) := ⟨hn₂, fun b o e => hs₂.extBut b o (fun q => by rw [q, hL₀] at e; cases e) (F'.keep b o e), F'.above⟩
  refine ⟨m', hn.sameBut hs₂ hCL, fun h'' hs'' => fin D h'' _ (F₂.change hs'' hCL hC₀) (fun p hp => ?_) o1⟩
  have z : h₂.get? p.1 = some p.2 := hs₂.extBut _ _ (N' p hp).2.1 (N' p hp).1
  refine ⟨hs''.extBut _ _ ?_ z, (N' p hp).2⟩
  rcases List.mem_cons.mp hp with rfl | hp
  · exact Ne.symm hCD
  · exact offC p hp
end
end
section
open LCg LCt
inductive ForEnd (g : Heap) (L I : Addr) (s : Shared) (oI : Obj) (keep : List (Addr × Obj)) (Jn : List (Str × Value) → List (Addr × Obj) → Prop) : Shared → Prop
  | mk (h' : Heap) (tk : Nat) (m₂ : Str → Option Value) (led' : List (Addr × Obj)) (ps : List (Str × Value)) (F : Fr g L h' m₂) (hb : Binds ps m₂) (N : News g L h' ((I, oI) :: led')) (off : ∀ p ∈ led', p.1 ≠ I) (hk : ∀ p ∈ keep, p ∈ led') (hj : Jn ps led') : ForEnd g L I s oI keep Jn { s with heap := h', toks := tk }
noncomputable def ForStep (g : Heap) (L I : Addr) (s : Shared) (oI : Obj) (keep : List (Addr × Obj)) (Jn : List (Str × Value) → List (Addr × Obj) → Prop) (Q : Flow → Shared → Prop) (f : Flow) (s₂ : Shared) : Prop :=
  match f with
  | .next => Hold (ForEnd g L I s oI keep Jn s₂)
  | .cont => Hold (ForEnd g L I s oI keep Jn s₂)
  | .brk => Q .next s₂
  | .ret v => Q (.ret v) s₂
theorem ForStep.go {g : Heap} {L I : Addr} {s : Shared} {oI : Obj} {keep : List (Addr × Obj)} {Jn : List (Str × Value) → List (Addr × Obj) → Prop} {Q : Flow → Shared → Prop} {h' : Heap} {tk : Nat} {m₂ : Str → Option Value} {led₁ : List (Addr × Obj)} (ps : List (Str × Value)) (led' : List (Addr × Obj))
    (F : Fr g L h' m₂) (hb : Binds ps m₂) (N : News g L h' led₁) (hs : ∀ p ∈ (I, oI) :: led', p ∈ led₁) (off : ∀ p ∈ led', p.1 ≠ I) (hk : ∀ p ∈ keep, p ∈ led') (hj : Jn ps led') : ForStep g L I s oI keep Jn Q .next { s with heap := h', toks := tk } :=
  ForEnd.mk h' tk m₂ led' ps F hb (fun p hp => N p (hs p hp)) off hk hj

section
variable {prog : Program} {w : World} {A : Around} {s : Shared} {g : Heap} {env : Env}
inductive ForGo (prog : Program) (w : World) (A : Around) (g : Heap) (env : Env) (x : Str) (body : List Stmt) (Q : Flow → Shared → Prop) (E : Value → Shared → Prop) (J : Nat → List (Str × Value) → List (Addr × Obj) → Prop) (xv : Value) (s₁ : Shared) : Prop
  | of {n : Nat} {P : Nat → Value → Prop} (keep : List (Addr × Obj)) {led : List (Addr × Obj)} {m₁ : Str → Option Value} (ps₀ : List (Str × Value))
    (src : Src prog w A xv s₁ n P keep) (F : Fr g env.locals s₁.heap m₁) (N : News g env.locals s₁.heap led) (hk : ∀ p ∈ keep, p ∈ led) (hb : Binds ps₀ m₁) (hJ : J 0 ps₀ led)
    (turn : ∀ i v ps led u h tk I oI, i < n → P i v → J i ps led → (∀ p ∈ keep, p ∈ led) → Fr g env.locals h (fun y => if y = x then some v else ov ps u y) → News g env.locals h ((I, oI) :: led) → (∀ p ∈ led, p.1 ≠ I) →
      wpAny (model prog w) A (execs body env) (ForStep g env.locals I { s₁ with heap := h, toks := tk } oI keep (J (i + 1)) Q) E { s₁ with heap := h, toks := tk })
    (fin : ∀ ps led u h tk, J n ps led → Fr g env.locals h (ov ps u) → News g env.locals h led → Q .next { s₁ with heap := h, toks := tk }) : ForGo prog w A g env x body Q E J xv s₁
inductive InJ (keep : List (Addr × Obj)) (Jn : List (Str × Value) → List (Addr × Obj) → Prop) (m : Str → Option Value) (news : List (Addr × Obj)) : Prop
  | mk (ps : List (Str × Value)) (hb : Binds ps m) (hJ : Jn ps news) (hk : ∀ p ∈ keep, p ∈ news) : InJ keep Jn m news
theorem for_src {x : Str} {px pos : Pos} {iter : Expr} {body : List Stmt} {Q : Flow → Shared → Prop} {E : Value → Shared → Prop} (J : Nat → List (Str × Value) → List (Addr × Obj) → Prop) (hx : env.kindOf x = some .local)
    (hp : (env.scope.kind == .class || (env.scope.kind == .module && env.locals != env.globals)) = false)
    (h : wpAny (model prog w) A (eval iter env) (ForGo prog w A g env x body Q E J) E s)
    (hs : ∀ x, foldedSetIterable iter env x = pure x := by intro _; rfl)
    (hE : PassesOwn (model prog w) A env E := by passes_own) :
    wpAny (model prog w) A (exec (.For (.Name x px) iter body [] pos) env) Q E s := by
  refine For_invV g hx hp (wpAny_mono h (fun xv s₁ h₁ => ?_) fun _ _ e => e) hs hE
  refine ForGo.casesOn h₁ fun {n P} keep {led m₁} ps₀ src F N hk hb hJ turn fin => ?_
  have hnew := next_is_new F
  refine Src.casesOn src fun o St W st0 hIo hkeep hlt it => ?_
  refine it _ _ ⟨s₁.heap.objs.size, _, _, n, P, St, m₁, led, fun i => InJ keep (J i), rfl, W, ?_, ?_, ?_, st0, F.push _, (fun p hp => ⟨Heap.get?_push_of_some _ (N p hp).1, (N p hp).2⟩), InJ.mk ps₀ hb hJ hk, ?_, ?_⟩
  · intro hm
    rcases List.mem_cons.mp hm with e | hm
    · exact absurd F.ns.lt (e ▸ Nat.lt_irrefl _)
    · obtain ⟨p, hp, e⟩ := List.mem_map.mp hm
      exact (N p (hk p hp)).2.1 e
  · intro b hb
    rw [List.mem_singleton.mp hb]
    exact hnew
  · intro p hp hI
    exact absurd (Heap.lt_size (N p hp).1) ((List.mem_singleton.mp hI) ▸ Nat.lt_irrefl _)
  · rintro i v m₂ news₁ s₂ own ⟨hh', tk', rfl⟩ hin hP hInJ hoff hown hget hall hst' F₁ N₁
    refine InJ.casesOn hInJ fun ps hb hJ hk2 => ?_
    obtain ⟨oI, hoI⟩ := hIo _ _ hst'
    have hmemI := hall s₁.heap.objs.size (.head _) hnew _ hoI
    have hoff' : ∀ p ∈ news₁, p.1 ≠ s₁.heap.objs.size := fun p hp e => hoff p hp (List.mem_singleton.mpr e)
    have N₂ : News g env.locals hh' ((s₁.heap.objs.size, oI) :: news₁) := fun p hp => by
      rcases List.mem_cons.mp hp with rfl | hp
      · exact N₁ _ (List.mem_append_left _ hmemI)
      · exact N₁ _ (List.mem_append_right _ hp)
    have F₂ : Fr g env.locals hh' (fun y => if y = x then some v else ov ps m₂ y) := by rw [ov_eq hb]; exact F₁
    refine wpAny_mono (turn i v ps news₁ m₂ hh' tk' _ oI hin hP hJ hk2 F₂ N₂ hoff') (fun f s₃ p => ?_) fun _ _ e => e
    have fin' : ForEnd g env.locals s₁.heap.objs.size { s₁ with heap := hh', toks := tk' } oI keep (J (i + 1)) s₃ →
        LoopStepU g env.locals [s₁.heap.objs.size] own (InJ keep (J (i + 1))) { s₁ with heap := hh', toks := tk' } .next s₃ := by
      refine fun hz => ForEnd.casesOn hz fun h' tk m' led' ps' F' hb' N' ho hk' r => ?_
      refine ⟨rfl, h', tk, m', led', rfl, F', fun p hp => ?_, fun p hp hI => ho p hp (List.mem_singleton.mp hI), InJ.mk ps' hb' r hk'⟩
      rcases List.mem_append.mp hp with hp | hp
      · have h2 : hh'.get? p.1 = some p.2 := hget p hp
        rcases List.mem_cons.mp (hown p hp) with h1 | h1
        · rw [h1, hoI] at h2
          have h3 : p = (s₁.heap.objs.size, oI) := Prod.ext h1 (Option.some.inj h2).symm
          rw [h3]; exact N' _ (List.mem_cons_self ..)
        · obtain ⟨q, hq, e⟩ := List.mem_map.mp h1
          have h4 := hkeep _ _ hst' q hq
          rw [e, h2] at h4
          have h3 : p = q := Prod.ext e.symm (Option.some.inj h4)
          rw [h3]; exact N' _ (List.mem_cons_of_mem _ (hk' q hq))
      · exact N' _ (List.mem_cons_of_mem _ hp)
    cases f with
    | ret v => exact .ret p
    | brk => exact .brk p
    | next => exact .next (fin' p)
    | cont => exact .cont (fin' p)
  · rintro h' tk m' news' F' N' _ hInJ
    exact InJ.casesOn hInJ fun ps hb hJ _ => fin ps news' m' h' tk hJ (Fr.ov F' hb) N'
end
end
section
open LCg LCt
noncomputable def ForStepT (g : Heap) (L I : Addr) (s : Shared) (oI : Obj) (keep : List (Addr × Obj)) (Jn : List (Str × Value) → List (Addr × Obj) → Prop) (f : Flow) (s₂ : Shared) : Prop :=
  match f with
  | .next => Hold (ForEnd g L I s oI keep Jn s₂)
  | _ => False
theorem ForStepT.go {g : Heap} {L I : Addr} {s : Shared} {oI : Obj} {keep : List (Addr × Obj)} {Jn : List (Str × Value) → List (Addr × Obj) → Prop} {h' : Heap} {tk : Nat} {m₂ : Str → Option Value} {led₁ : List (Addr × Obj)} (ps : List (Str × Value)) (led' : List (Addr × Obj))
    (F : Fr g L h' m₂) (hb : Binds ps m₂) (N : News g L h' led₁) (hs : ∀ p ∈ (I, oI) :: led', p ∈ led₁) (off : ∀ p ∈ led', p.1 ≠ I) (hk : ∀ p ∈ keep, p ∈ led') (hj : Jn ps led') : ForStepT g L I s oI keep Jn .next { s with heap := h', toks := tk } :=
  ForEnd.mk h' tk m₂ led' ps F hb (fun p hp => N p (hs p hp)) off hk hj
section
variable {prog : Program} {w : World} {A : Around} {s : Shared} {g : Heap} {env : Env}
inductive ForGoT (prog : Program) (w : World) (A : Around) (g : Heap) (env : Env) (target : Expr) (body : List Stmt) (Q : Flow → Shared → Prop) (E : Value → Shared → Prop) (J : Nat → List (Str × Value) → List (Addr × Obj) → Prop) (xv : Value) (s₁ : Shared) : Prop
  | of {n : Nat} {P : Nat → Value → Prop} (keep : List (Addr × Obj)) {led : List (Addr × Obj)} {m₁ : Str → Option Value} (ps₀ : List (Str × Value))
    (src : Src prog w A xv s₁ n P keep) (F : Fr g env.locals s₁.heap m₁) (N : News g env.locals s₁.heap led) (hk : ∀ p ∈ keep, p ∈ led) (hb : Binds ps₀ m₁) (hJ : J 0 ps₀ led)
    (turn : ∀ i v ps led u s₂ I oI, i < n → P i v → J i ps led → (∀ p ∈ keep, p ∈ led) → Fr g env.locals s₂.heap (ov ps u) → News g env.locals s₂.heap ((I, oI) :: led) → (∀ p ∈ led, p.1 ≠ I) →
      wpAny (model prog w) A (assign target env v) (fun _ s₃ => wpAny (model prog w) A (execs body env) (ForStepT g env.locals I s₂ oI keep (J (i + 1))) E s₃) E s₂)
    (fin : ∀ ps led u h tk, J n ps led → Fr g env.locals h (ov ps u) → News g env.locals h led → Q .next { s₁ with heap := h, toks := tk }) : ForGoT prog w A g env target body Q E J xv s₁
theorem for_srcT {target iter : Expr} {pos : Pos} {body : List Stmt} {Q : Flow → Shared → Prop} {E : Value → Shared → Prop} (J : Nat → List (Str × Value) → List (Addr × Obj) → Prop) (hgo : ∀ it v, letOwnedTupleGo target it v = pure ())
    (h : wpAny (model prog w) A (eval iter env) (ForGoT prog w A g env target body Q E J) E s)
    (hs : ∀ x, foldedSetIterable iter env x = pure x := by intro _; rfl)
    (hE : PassesOwn (model prog w) A env E := by passes_own) :
    wpAny (model prog w) A (exec (.For target iter body [] pos) env) Q E s := by
  refine For_invT g (wpAny_mono h (fun xv s₁ h₁ => ?_) fun _ _ e => e) hs hE
  refine ForGoT.casesOn h₁ fun {n P} keep {led m₁} ps₀ src F N hk hb hJ turn fin => ?_
  have hnew := next_is_new F
  refine Src.casesOn src fun o St W st0 hIo hkeep hlt it => ?_
  refine it _ _ ⟨s₁.heap.objs.size, _, _, n, P, St, m₁, led, fun i => InJ keep (J i), rfl, W, ?_, ?_, ?_, st0, F.push _, (fun p hp => ⟨Heap.get?_push_of_some _ (N p hp).1, (N p hp).2⟩), (fun i s' v Q' _ hq => wpAny_of_eq (hgo _ _) hq), InJ.mk ps₀ hb hJ hk, ?_, ?_⟩
  · intro hm
    rcases List.mem_cons.mp hm with e | hm
    · exact absurd F.ns.lt (e ▸ Nat.lt_irrefl _)
    · obtain ⟨p, hp, e⟩ := List.mem_map.mp hm
      exact (N p (hk p hp)).2.1 e
  · intro b hb
    rw [List.mem_singleton.mp hb]
    exact hnew
  · intro p hp hI
    exact absurd (Heap.lt_size (N p hp).1) ((List.mem_singleton.mp hI) ▸ Nat.lt_irrefl _)
  · rintro i v m₂ news₁ s₂ own hin hP hInJ hoff hown hget hall hst' F₁ N₁
    refine InJ.casesOn hInJ fun ps hb hJ hk2 => ?_
    obtain ⟨oI, hoI⟩ := hIo _ _ hst'
    have hmemI := hall s₁.heap.objs.size (.head _) hnew _ hoI
    have hoff' : ∀ p ∈ news₁, p.1 ≠ s₁.heap.objs.size := fun p hp e => hoff p hp (List.mem_singleton.mpr e)
    have N₂ : News g env.locals s₂.heap ((s₁.heap.objs.size, oI) :: news₁) := fun p hp => by
      rcases List.mem_cons.mp hp with rfl | hp
      · exact N₁ _ (List.mem_append_left _ hmemI)
      · exact N₁ _ (List.mem_append_right _ hp)
    have F₂ : Fr g env.locals s₂.heap (ov ps m₂) := by rw [ov_eq hb]; exact F₁
    refine wpAny_mono (turn i v ps news₁ m₂ s₂ _ oI hin hP hJ hk2 F₂ N₂ hoff') (fun _ s₄ h₄ => wpAny_mono h₄ (fun f s₃ p => ?_) fun _ _ e => e) fun _ _ e => e
    have fin' : ForEnd g env.locals s₁.heap.objs.size s₂ oI keep (J (i + 1)) s₃ →
        LoopStepU g env.locals [s₁.heap.objs.size] own (InJ keep (J (i + 1))) s₂ .next s₃ := by
      refine fun hz => ForEnd.casesOn hz fun h' tk m' led' ps' F' hb' N' ho hk' r => ?_
      refine ⟨rfl, h', tk, m', led', rfl, F', fun p hp => ?_, fun p hp hI => ho p hp (List.mem_singleton.mp hI), InJ.mk ps' hb' r hk'⟩
      rcases List.mem_append.mp hp with hp | hp
      · have h2 : s₂.heap.get? p.1 = some p.2 := hget p hp
        rcases List.mem_cons.mp (hown p hp) with h1 | h1
        · rw [h1, hoI] at h2
          have h3 : p = (s₁.heap.objs.size, oI) := Prod.ext h1 (Option.some.inj h2).symm
          rw [h3]; exact N' _ (List.mem_cons_self ..)
        · obtain ⟨q, hq, e⟩ := List.mem_map.mp h1
          have h4 := hkeep _ _ hst' q hq
          rw [e, h2] at h4
          have h3 : p = q := Prod.ext e.symm (Option.some.inj h4)
          rw [h3]; exact N' _ (List.mem_cons_of_mem _ (hk' q hq))
      · exact N' _ (List.mem_cons_of_mem _ hp)
    cases f with
    | ret v => exact p.elim
    | brk => exact p.elim
    | next => exact fin' p
    | cont => exact p.elim
  · rintro h' tk m' news' F' N' _ hInJ
    exact InJ.casesOn hInJ fun ps hb hJ _ => fin ps news' m' h' tk hJ (Fr.ov F' hb) N'
end
end
section
open LCg LCt
noncomputable abbrev two (elt iter1 iter2 : Expr) (x1 x2 : Str) (px1 px2 : Pos) (scope : Scope) (pos : Pos) : Expr := .ListComp elt [⟨.Name x1 px1, iter1, [], 0⟩, ⟨.Name x2 px2, iter2, [], 0⟩] scope pos
theorem turn2_outer (elt iter1 iter2 : Expr) (x1 x2 : Str) (px1 px2 : Pos) (scope : Scope) (pos : Pos) (it acc : Value) (env : Env) :
    compTurn (two elt iter1 iter2 x1 x2 px1 px2 scope pos) 0 it acc env = (standAt iter1.pos >>= fun _ => pyNext it >>= fun r => match r with
      | none => pure (.done .next)
      | some v => letOwnedTupleGo (.Name x1 px1) it v >>= fun _ => assign (.Name x1 px1) env v >>= fun _ =>
        eval iter2 env >>= fun x => standAt iter2.pos >>= fun _ => foldedSetIterable iter2 env x >>= fun x => holding [x] (pyIter x) >>= fun it2 => runOwn (.compStart (two elt iter1 iter2 x1 x2 px1 px2 scope pos) 1 it2 acc env) env >>= fun _ =>
          again (.compLoop (two elt iter1 iter2 x1 x2 px1 px2 scope pos) 0 it acc env)) := by rfl
theorem turn2_inner (elt iter1 iter2 : Expr) (x1 x2 : Str) (px1 px2 : Pos) (scope : Scope) (pos : Pos) (it acc : Value) (env : Env) :
    compTurn (two elt iter1 iter2 x1 x2 px1 px2 scope pos) 1 it acc env = (standAt iter2.pos >>= fun _ => pyNext it >>= fun r => match r with
      | none => pure (.done .next)
      | some v => letOwnedTupleGo (.Name x2 px2) it v >>= fun _ => assign (.Name x2 px2) env v >>= fun _ =>
        (eval elt env >>= fun x => call (.builtin "list.append") [acc, x] >>= fun _ => pure ()) >>= fun _ =>
          again (.compLoop (two elt iter1 iter2 x1 x2 px1 px2 scope pos) 1 it acc env)) := by rfl
section
variable {prog : Program} {w : World} {A : Around} {E : Value → Shared → Prop} {R : Result → Shared → Prop} {s : Shared} {h₀ : Heap} {L : Addr} {m : Str → Option Value} {env : Env}
theorem start2 {elt iter1 iter2 : Expr} {x1 x2 : Str} {px1 px2 : Pos} {scope : Scope} {pos : Pos} {it acc : Value} {env : Env} (d : Nat) (hd : d = 0 ∨ d = 1)
    (h0 : codeAny (model prog w) A (.compLoop (two elt iter1 iter2 x1 x2 px1 px2 scope pos) d it acc env) R s)
    (h : wpAny (model prog w) A (pyIter it) (fun it' s' => codeAny (model prog w) A (.compLoop (two elt iter1 iter2 x1 x2 px1 px2 scope pos) d it' acc env) R s') (fun _ _ => False) s) :
    codeAny (model prog w) A (.compStart (two elt iter1 iter2 x1 x2 px1 px2 scope pos) d it acc env) R s := by
  refine codeAny_of_tree ?_
  show wpAny _ _ ((compStart (two elt iter1 iter2 x1 x2 px1 px2 scope pos) d it acc env).onRaise (fun x => do noteFrame x env; standAt theWindowsPlace)) _ _ s
  refine wpAny_notedAt ?_
  unfold compStart
  rcases hd with rfl | rfl
  all_goals
    show wpAny _ _ (ask >>= _) _ _ s
    refine wpAny_bind (wpAny_askSetting (wpAny_ite ?_))
    split
    · first
        | exact wpAny_bind (wpAny_pure (wpAny_pure (And.intro rfl h0)))
        | exact wpAny_pure (And.intro rfl h0)
    · refine wpAny_bind (wpAny_rule ?_)
      show wpAny _ _ (standAt _ >>= _) _ _ s
      exact wpAny_bind (wpAny_standAt (wpAny_bind (wpAny_mono h (fun it' s' h' => wpAny_pure (And.intro rfl h')) fun _ _ x => x.elim)))
theorem loop2_inner {elt iter1 iter2 : Expr} {x1 x2 : Str} {px1 px2 : Pos} {scope : Scope} {pos : Pos} {it acc : Value} {env : Env} (I : Nat → Shared → Prop)
    (turn : ∀ n s, I n s → wpAny (model prog w) A (pyNext it) (fun r s₁ => match r with
      | none => R (.ok .next) s₁
      | some v => wpAny (model prog w) A (assign (.Name x2 px2) env v) (fun _ s₂ => wpAny (model prog w) A (eval elt env) (fun x s₃ =>
          wpAny (model prog w) A (call (.builtin "list.append") [acc, x]) (fun _ s₄ => ∃ m, m < n ∧ I m s₄) (fun _ _ => False) s₃) (fun _ _ => False) s₂) (fun _ _ => False) s₁) (fun _ _ => False) s)
    (n : Nat) (h : I n s) : codeAny (model prog w) A (.compLoop (two elt iter1 iter2 x1 x2 px1 px2 scope pos) 1 it acc env) R s := by
  refine codeAny_loop rfl I (fun n s hI => ?_) n h
  show wpAny _ _ ((compTurn (two elt iter1 iter2 x1 x2 px1 px2 scope pos) 1 it acc env).onRaise (fun x => do noteFrame x env; theTreesLotGoes x)) _ _ s
  refine wpAny_noted ?_
  rw [turn2_inner]
  refine wpAny_bind (wpAny_standAt (wpAny_bind (wpAny_mono (turn n s hI) (fun r s₁ h₁ => ?_) fun _ _ h' => h'.elim)))
  cases r with
  | none => exact wpAny_pure h₁
  | some v =>
    refine wpAny_bind (wpAny_of_eq (a := ()) rfl ?_)
    exact wpAny_bind (wpAny_mono h₁ (fun _ s₂ h₂ => wpAny_bind (wpAny_bind (wpAny_mono h₂ (fun x s₃ h₃ => wpAny_bind (wpAny_mono h₃
      (fun _ s₄ h₄ => wpAny_pure (wpAny_pure ⟨rfl, h₄⟩)) fun _ _ h' => h'.elim)) fun _ _ h' => h'.elim))) fun _ _ h' => h'.elim)
theorem loop2_outer {elt iter1 iter2 : Expr} {x1 x2 : Str} {px1 px2 : Pos} {scope : Scope} {pos : Pos} {it acc : Value} {env : Env} (hs : ∀ x, foldedSetIterable iter2 env x = pure x) (I : Nat → Shared → Prop)
    (turn : ∀ n s, I n s → wpAny (model prog w) A (pyNext it) (fun r s₁ => match r with
      | none => R (.ok .next) s₁
      | some v => wpAny (model prog w) A (assign (.Name x1 px1) env v) (fun _ s₂ => wpAny (model prog w) A (eval iter2 env) (fun x s₃ => wpAny (model prog w) A (pyIter x) (fun it2 s₄ =>
          codeAny (model prog w) A (.compStart (two elt iter1 iter2 x1 x2 px1 px2 scope pos) 1 it2 acc env) (fun r s₅ => match r with | .ok _ => ∃ m, m < n ∧ I m s₅ | .error _ => False) s₄) (fun _ _ => False) s₃) (fun _ _ => False) s₂) (fun _ _ => False) s₁) (fun _ _ => False) s)
    (n : Nat) (h : I n s) : codeAny (model prog w) A (.compLoop (two elt iter1 iter2 x1 x2 px1 px2 scope pos) 0 it acc env) R s := by
  refine codeAny_loop rfl I (fun n s hI => ?_) n h
  show wpAny _ A ((compTurn (two elt iter1 iter2 x1 x2 px1 px2 scope pos) 0 it acc env).onRaise (fun x => do noteFrame x env; theTreesLotGoes x)) _ _ s
  refine wpAny_noted ?_
  rw [turn2_outer]
  refine wpAny_bind (wpAny_standAt (wpAny_bind (wpAny_mono (turn n s hI) (fun r s₁ h₁ => ?_) fun _ _ h' => h'.elim)))
  cases r with
  | none => exact wpAny_pure h₁
  | some v =>
    refine wpAny_bind (wpAny_of_eq (a := ()) rfl ?_)
    refine wpAny_bind (wpAny_mono h₁ (fun _ s₂ h₂ => wpAny_bind (wpAny_mono h₂ (fun x s₃ h₃ => ?_) fun _ _ h' => h'.elim)) fun _ _ h' => h'.elim)
    refine wpAny_bind (wpAny_standAt (wpAny_bind (wpAny_of_eq (hs x) (wpAny_bind (wpAny_holding (wpAny_mono h₃ (fun it2 s₄ h₄ => ?_) fun _ _ h' => h'.elim))))))
    refine wpAny_bind (wpAny_runOwn (codeAny_mono h₄ fun r s₅ h₅ => ?_))
    cases r with
    | ok f => exact wpAny_pure ⟨rfl, h₅⟩
    | error e => exact h₅.elim
/-- one turn of the second clause -/
noncomputable def InTurn (prog : Program) (w : World) (A : Around) (h₀ : Heap) (L : Addr) (m : Str → Option Value) (cenv : Env) (elt : Expr) (x1 x2 : Str) (s₁ : Shared) (v : Value) (I : Addr) (oI : Obj) (C D : Addr) (n2 : Nat) (P2 : Nat → Value → Prop) (J2 : Nat → List Value → List (Addr × Obj) → Prop) : Prop :=
  ∀ j v2 ys led I2 oI2 oC m₃ h tk, j < n2 → P2 j v2 → J2 j ys led → NsObj oC m₃ → m₃ x1 = some v → m₃ x2 = some v2 → Fr h₀ L h m → News h₀ L h ((I2, oI2) :: (I, oI) :: (C, oC) :: (D, lst ys) :: led) → Off3 I C D led → (∀ p ∈ led, p.1 ≠ I2) → (@Ne Nat I2 I ∧ @Ne Nat I2 C ∧ @Ne Nat I2 D) →
    wpAny (model prog w) A (eval elt cenv) (fun y s₃ => ∃ h' tk' led', s₃ = { s₁ with heap := h', toks := tk' } ∧ Fr h₀ L h' m ∧ News h₀ L h' ((I2, oI2) :: (I, oI) :: (C, oC) :: (D, lst ys) :: led') ∧ Off3 I C D led' ∧ (∀ p ∈ led', p.1 ≠ I2) ∧ J2 (j + 1) (ys ++ [y]) led') (fun _ _ => False) { s₁ with heap := h, toks := tk }
inductive In2 (prog : Program) (w : World) (A : Around) (h₀ : Heap) (L : Addr) (m : Str → Option Value) (env : Env) (elt : Expr) (x1 x2 : Str) (scope : Scope) (cl : List (Str × Addr)) (s₁ : Shared) (i : Nat) (v : Value) (ys : List Value) (I : Addr) (oI : Obj) (C : Addr) (oC : Obj) (D : Addr) (J : Nat → List Value → List (Addr × Obj) → Prop) (xv2 : Value) : Shared → Prop
  | mk (n2 : Nat) (P2 : Nat → Value → Prop) (led2 : List (Addr × Obj)) (J2 : Nat → List Value → List (Addr × Obj) → Prop) (h : Heap) (tk : Nat) (src : Src prog w A xv2 { s₁ with heap := h, toks := tk } n2 P2 []) (F : Fr h₀ L h m) (N : News h₀ L h ((I, oI) :: (C, oC) :: (D, lst ys) :: led2)) (off : Off3 I C D led2) (hJ : J2 0 ys led2) (hsz : ∀ j ys led, J2 j ys led → ys.length ≤ 100000)
      (inn : InTurn prog w A h₀ L m (compEnvC scope cl C env) elt x1 x2 s₁ v I oI C D n2 P2 J2) (fin : ∀ ys led, J2 n2 ys led → J (i + 1) ys led) : In2 prog w A h₀ L m env elt x1 x2 scope cl s₁ i v ys I oI C oC D J xv2 { s₁ with heap := h, toks := tk }
/-- one turn of the first clause -/
noncomputable def OutTurn (prog : Program) (w : World) (A : Around) (h₀ : Heap) (L : Addr) (m : Str → Option Value) (env : Env) (elt iter2 : Expr) (x1 x2 : Str) (scope : Scope) (cl : List (Str × Addr)) (s₁ : Shared) (n1 : Nat) (P : Nat → Value → Prop) (J : Nat → List Value → List (Addr × Obj) → Prop) : Prop :=
  ∀ i v ys led I oI C oC D m₂ h tk, i < n1 → P i v → J i ys led → NsObj oC m₂ → m₂ x1 = some v → Fr h₀ L h m → News h₀ L h ((I, oI) :: (C, oC) :: (D, lst ys) :: led) → Off3 I C D led → (@Ne Nat I C ∧ @Ne Nat I D ∧ @Ne Nat C D) →
    wpAny (model prog w) A (eval iter2 (compEnvC scope cl C env)) (In2 prog w A h₀ L m env elt x1 x2 scope cl s₁ i v ys I oI C oC D J) (fun _ _ => False) { s₁ with heap := h, toks := tk }
inductive OI (h₀ : Heap) (L : Addr) (m : Str → Option Value) (s₁ : Shared) (n1 : Nat) (St : Nat → Heap → Prop) (J : Nat → List Value → List (Addr × Obj) → Prop) (I C D : Addr) : Nat → Shared → Prop
  | mk (h' : Heap) (tk i : Nat) (ys : List Value) (m' : Str → Option Value) (news' : List (Addr × Obj)) (hi : i ≤ n1) (hst : St i h') (F : Fr h₀ L h' m) (hn : h'.Ns C m') (N : News h₀ L h' ((D, lst ys) :: news')) (off : Off3 I C D news') (hJ : J i ys news') : OI h₀ L m s₁ n1 St J I C D (n1 + 1 - i) { s₁ with heap := h', toks := tk }
inductive II (h₀ : Heap) (L : Addr) (m : Str → Option Value) (s₁ : Shared) (n2 : Nat) (St : Nat → Heap → Prop) (J : Nat → List Value → List (Addr × Obj) → Prop) (x1 : Str) (v : Value) (oI : Obj) (I C D I2 : Addr) : Nat → Shared → Prop
  | mk (h' : Heap) (tk j : Nat) (ys : List Value) (m₃ : Str → Option Value) (oC3 : Obj) (led : List (Addr × Obj)) (hj : j ≤ n2) (hst : St j h') (F : Fr h₀ L h' m) (hoC : NsObj oC3 m₃) (hm3 : m₃ x1 = some v) (N : News h₀ L h' ((I, oI) :: (C, oC3) :: (D, lst ys) :: led)) (off : Off3 I C D led) (offI : ∀ p ∈ led, p.1 ≠ I2) (hJ : J j ys led) : II h₀ L m s₁ n2 St J x1 v oI I C D I2 (n2 + 1 - j) { s₁ with heap := h', toks := tk }
theorem block2 {elt iter1 iter2 : Expr} {x1 x2 : Str} {px1 px2 : Pos} {scope : Scope} {cl : List (Str × Addr)} {pos : Pos} {s₁ s₂ : Shared} {I : Addr} {n1 : Nat} {P : Nat → Value → Prop} {St : Nat → Heap → Prop} {news : List (Addr × Obj)} {J : Nat → List Value → List (Addr × Obj) → Prop} {RR : Value → Addr → Result → Shared → Prop}
    (hs12 : ∃ hp, s₂ = { s₁ with heap := hp }) (W : Walks prog w A I [I] [I] n1 P St) (hIo : ∀ i h, St i h → ∃ o, h.get? I = some o)
    (hSt : ∀ i h h' o nw, St i h → h.get? I = some o → h'.get? I = some o → (∀ b o, h₀.get? b = some o → h'.get? b = some o) → News h₀ L h' nw → St i h')
    (hcell : ∀ y ∈ scope.names, y.2 ≠ .cell) (hkind : scope.kind = .function) (hx1 : scope.names.lookup x1 = some .local) (hx2 : scope.names.lookup x2 = some .local) (hxx : x1 ≠ x2) (hst : St 0 s₂.heap) (hfp : I < s₂.heap.objs.size)
    (F : Fr h₀ L s₂.heap m) (N : News h₀ L s₂.heap news) (hIL : L ≠ I) (hI₀ : h₀.get? I = none) (off : ∀ p ∈ news, p.1 ≠ I) (hJ : J 0 [] news)
    (hs2 : ∀ C x, foldedSetIterable iter2 (compEnvC scope cl C env) x = pure x) (out : OutTurn prog w A h₀ L m env elt iter2 x1 x2 scope cl s₁ n1 P J)
    (hRR : ∀ D C h tk m' ys news', Fr h₀ L h m → News h₀ L h ((D, lst ys) :: news') → Off1 D news' → h.Ns C m' → h₀.get? C = none → C ≠ L → C ≠ D → (∀ p ∈ news', p.1 ≠ C) → J n1 ys news' → RR (.ref D) C (.ok .next) { s₁ with heap := h, toks := tk }) :
    wpAny (model prog w) A (newList []) (fun acc s₃ => wpAny (model prog w) A (newFunctionEnv scope env.globals cl [] env.qual none .none (some env)) (fun cenv s₄ =>
      codeAny (model prog w) A (.compStart (two elt iter1 iter2 x1 x2 px1 px2 scope pos) 0 (.ref I) acc { cenv with scope := relabel scope env }) (RR acc cenv.locals) s₄) E s₃) E s₂ := by
  obtain ⟨hp2, rfl⟩ := hs12
  refine wpAny_newObj_type (wpAny_newFunctionEnv hcell (by intro y hy; simp at hy) (fun h₁ hns₁ hsb₁ => ?_) hkind)
  dsimp only at hns₁ hsb₁ hst hfp F N ⊢
  generalize hH2 : hp2.push { cls := .type "list", dict := none, data := .seq ([] : List Value).toArray } = H2 at hns₁ hsb₁ ⊢
  have hC : H2.objs.size = hp2.objs.size + 1 := by rw [← hH2, Heap.size_push]
  have hDC : hp2.objs.size ≠ H2.objs.size := by rw [hC]; exact Nat.ne_of_lt (Nat.lt_succ_self _)
  have below : ∀ b, b < hp2.objs.size → b ≠ H2.objs.size ∧ b ≠ hp2.objs.size := fun b hb => ⟨by rw [hC]; exact Nat.ne_of_lt (Nat.lt_succ_of_lt hb), Nat.ne_of_lt hb⟩
  have old : ∀ b o, hp2.get? b = some o → h₁.get? b = some o := fun b o e => hsb₁.extBut b o (below b (Heap.lt_size e)).1 (Heap.get?_push_of_some _ (hH2 ▸ Heap.get?_push_of_some _ e))
  have hacc : h₁.get? hp2.objs.size = some (lst []) := hsb₁.extBut _ _ hDC (Heap.get?_push_of_some _ (hH2 ▸ Heap.get?_push_size _ rfl))
  have fresh₀ : ∀ a, hp2.objs.size ≤ a → h₀.get? a = none := fun a ha => by
    cases e : h₀.get? a with
    | none => rfl
    | some o' => exact absurd (Heap.lt_size (F.keep a o' e)) (Nat.not_lt.mpr ha)
  have hD₀ : h₀.get? hp2.objs.size = none := fresh₀ _ (Nat.le_refl _)
  have hC₀ : h₀.get? H2.objs.size = none := fresh₀ _ (by rw [hC]; exact Nat.le_succ _)
  have hLlt : L < hp2.objs.size := F.ns.lt
  have hDL : hp2.objs.size ≠ L := Ne.symm (below L hLlt).2
  have hCL : H2.objs.size ≠ L := Ne.symm (below L hLlt).1
  have hCI : I ≠ H2.objs.size := (below I hfp).1
  have hDI : I ≠ hp2.objs.size := (below I hfp).2
  have hst₁ : St 0 h₁ := W.frame _ _ _ hst fun b _ o e => old b o e
  have off₀ : Off3 I H2.objs.size hp2.objs.size news := Off3.of fun p hp => ⟨off p hp, (below _ (Heap.lt_size (N p hp).1)).1, (below _ (Heap.lt_size (N p hp).1)).2⟩
  have N₀ : News h₀ L h₁ ((hp2.objs.size, lst []) :: news) := fun p hp => by
    rcases List.mem_cons.mp hp with rfl | hp
    · exact ⟨hacc, hDL, hD₀⟩
    · exact ⟨old _ _ (N p hp).1, (N p hp).2⟩
  have F₁ : Fr h₀ L h₁ m := F.keeps old
  clear hH2 hC below old hacc fresh₀ hst off N hsb₁ hLlt
  generalize hp2.objs.size = D at *
  generalize H2.objs.size = C at *
  have loop : ∀ s₃ : Shared, s₃ = { s₁ with heap := h₁, toks := s₁.toks + ([] : List (Str × Value)).length } →
      codeAny (model prog w) A (.compLoop (two elt iter1 iter2 x1 x2 px1 px2 scope pos) 0 (.ref I) (.ref D) (compEnvC scope cl C env)) (RR (.ref D) C) s₃ := by
    rintro s₃ rfl
    refine loop2_outer (hs2 C)
      (OI h₀ L m s₁ n1 St J I C D) ?_ (n1 + 1) (OI.mk h₁ _ 0 [] _ news (Nat.zero_le _) hst₁ F₁ hns₁ N₀ off₀ hJ)
    · refine fun k s' hK => OI.casesOn hK fun h' tk i ys m' news' hi hst' F' hn' N' off' hJ' => ?_
      by_cases hlt : i < n1
      · refine W.item i _ _ _ hlt hst' fun v h₂ tk₂ hPv hst₂ hk₂ => ?_
        refine wpAny_assign_Name (wpAny_storeName_local (lookup_relabel_local hx1) (hn'.at' fun o e => hk₂ _ o (by simpa using Ne.symm hCI) e) (fun h₃ hn₃ hs₃ => ?_) (by simp [compEnvC, relabel, hkind]))
        have hst₃ : St (i + 1) h₃ := W.frame _ _ _ hst₂ fun b hb o e => hs₃.extBut b o (by rw [List.mem_singleton.mp hb]; exact hCI) e
        obtain ⟨oI, heI⟩ := hIo _ _ hst₃
        obtain ⟨oC, heC, hoC⟩ := ns_obj hn₃
        have F₃ : Fr h₀ L h₃ m := (fr_but F' hk₂ hIL hI₀).change hs₃ hCL hC₀
        have off3 := off'.mem
        have N₂ : News h₀ L h₂ ((D, lst ys) :: news') := news_but N' hk₂ fun p hp => by
          rcases List.mem_cons.mp hp with rfl | hp
          · exact Ne.symm hDI
          · exact (off3 p hp).1
        have N₃ : News h₀ L h₃ ((I, oI) :: (C, oC) :: (D, lst ys) :: news') := fun p hp => by
          rcases List.mem_cons.mp hp with rfl | hp
          · exact ⟨heI, Ne.symm hIL, hI₀⟩
          · rcases List.mem_cons.mp hp with rfl | hp
            · exact ⟨heC, hCL, hC₀⟩
            · have z := N₂ p hp
              refine ⟨hs₃.extBut _ _ ?_ z.1, z.2⟩
              rcases List.mem_cons.mp hp with rfl | hp
              · exact hDC
              · exact (off3 p hp).2.1
        refine wpAny_mono (out i v ys news' I oI C oC D _ h₃ _ hlt hPv hJ' hoC (by simp) F₃ N₃ off' ⟨hCI, hDI, Ne.symm hDC⟩) (fun xv2 s₄ h₄ => ?_) fun _ _ e => e
        refine In2.casesOn h₄ fun n2 P2 led2 J2 h4 tk4 src2 F4 N4 off4 hJ2 hsz2 inn fin2 => ?_
        refine src_parts src2 F4 N4 fun o2 St2 W2 st20 hIo2 hSt2 hfp2 F5 N5 hIL2 hI02 off2 => ?_
        dsimp only at W2 st20 hIo2 hSt2 hfp2 F5 N5 hIL2 hI02 off2 ⊢
        generalize h4.objs.size = I2 at *
        have i2I : I2 ≠ I := fun e => off2 _ (.head _) e.symm
        have i2C : I2 ≠ C := fun e => off2 _ (.tail _ (.head _)) e.symm
        have i2D : I2 ≠ D := fun e => off2 _ (.tail _ (.tail _ (.head _))) e.symm
        have inner : ∀ s₅ : Shared, s₅ = { s₁ with heap := h4.push o2, toks := tk4 } →
            codeAny (model prog w) A (.compLoop (two elt iter1 iter2 x1 x2 px1 px2 scope pos) 1 (.ref I2) (.ref D) (compEnvC scope cl C env))
              (fun r s₆ => match r with
                | .ok _ => ∃ m_1, m_1 < n1 + 1 - i ∧ OI h₀ L m s₁ n1 St J I C D m_1 s₆
                | .error _ => False) s₅ := by
          rintro s₅ rfl
          refine loop2_inner
            (II h₀ L m s₁ n2 St2 J2 x1 v oI I C D I2) ?_ (n2 + 1)
            (II.mk _ _ 0 ys _ oC led2 (Nat.zero_le _) st20 F5 hoC (by simp) N5 off4 (fun p hp => off2 p (.tail _ (.tail _ (.tail _ hp)))) hJ2)
          refine fun k s' hK => II.casesOn hK fun h' tk j ys m₃ oC3 led hj hst' F' hoC3 hm3 N' off' offI hJ' => ?_
          by_cases hlt2 : j < n2
          · refine W2.item j _ _ _ hlt2 hst' fun v2 h₂ tk₂ hPv2 hst₂ hk₂ => ?_
            have hnC := hoC3.ns (N' _ (.tail _ (.head _))).1
            refine wpAny_assign_Name (wpAny_storeName_local (lookup_relabel_local hx2) (hnC.at' fun o e => hk₂ _ o (by simpa using Ne.symm i2C) e) (fun h₃ hn₃ hs₃ => ?_) (by simp [compEnvC, relabel, hkind]))
            have hst₃ : St2 (j + 1) h₃ := W2.frame _ _ _ hst₂ fun b hb o e => hs₃.extBut b o (by rw [List.mem_singleton.mp hb]; exact i2C) e
            obtain ⟨oI2, heI2⟩ := hIo2 _ _ hst₃
            obtain ⟨oC4, heC, hoC4⟩ := ns_obj hn₃
            have F₃ : Fr h₀ L h₃ m := (fr_but F' hk₂ hIL2 hI02).change hs₃ hCL hC₀
            have off3 := off'.mem
            have N₂ : News h₀ L h₂ ((I, oI) :: (D, lst ys) :: led) := news_but (news := (I, oI) :: (D, lst ys) :: led) (fun p hp => N' p (by
              rcases List.mem_cons.mp hp with rfl | hp
              · exact .head _
              · exact .tail _ (.tail _ hp))) hk₂ fun p hp => by
              rcases List.mem_cons.mp hp with rfl | hp
              · exact Ne.symm i2I
              · rcases List.mem_cons.mp hp with rfl | hp
                · exact Ne.symm i2D
                · exact offI p hp
            have N₃ : News h₀ L h₃ ((I2, oI2) :: (I, oI) :: (C, oC4) :: (D, lst ys) :: led) := fun p hp => by
              rcases List.mem_cons.mp hp with rfl | hp
              · exact ⟨heI2, Ne.symm hIL2, hI02⟩
              · rcases List.mem_cons.mp hp with rfl | hp
                · have z := N₂ _ (.head _)
                  exact ⟨hs₃.extBut _ _ hCI z.1, z.2⟩
                · rcases List.mem_cons.mp hp with rfl | hp
                  · exact ⟨heC, hCL, hC₀⟩
                  · have z := N₂ p (.tail _ hp)
                    refine ⟨hs₃.extBut _ _ ?_ z.1, z.2⟩
                    rcases List.mem_cons.mp hp with rfl | hp
                    · exact hDC
                    · exact (off3 p hp).2.1
            refine wpAny_mono (inn j v2 ys led I2 oI2 oC4 _ h₃ _ hlt2 hPv2 hJ' hoC4 (by simp [hxx, hm3]) (by simp) F₃ N₃ off' offI ⟨i2I, i2C, i2D⟩) (fun y s₄ h₄ => ?_) fun _ _ e => e
            obtain ⟨h5, tk5, led5, rfl, F5', N5', off5, offI5, hJ5⟩ := h₄
            have zI2 := (N5' _ (.head _)).1
            have zC := (N5' _ (.tail _ (.tail _ (.head _)))).1
            have zD := (N5' _ (.tail _ (.tail _ (.tail _ (.head _))))).1
            have hst5 : St2 (j + 1) h5 := hSt2 _ _ _ _ ((I2, oI2) :: []) hst₃ heI2 zI2 F5'.keep (fun p hp => N5' p (by rw [List.mem_singleton.mp hp]; exact .head _)) (fun _ h => nomatch h)
            refine append_at (hsz := by show ys.toArray.size ≤ sizeLine; rw [List.size_toArray]; exact Nat.le_trans (hsz2 _ _ _ hJ') (by decide)) zD fun h6 hs6 hD6 => ?_
            have off6 := off5.mem
            refine ⟨n2 + 1 - (j + 1), by omega, II.mk h6 tk5 (j + 1) (ys ++ [y]) _ oC4 led5 hlt2 (W2.frame _ _ _ hst5 fun b hb o e => hs6.extBut b o (by rw [List.mem_singleton.mp hb]; exact i2D) e) (F5'.change hs6 hDL hD₀) hoC4 (by simp [hxx, hm3]) (fun p hp => ?_) off5 offI5 hJ5⟩
            rcases List.mem_cons.mp hp with rfl | hp
            · have z := N5' _ (.tail _ (.head _))
              exact ⟨hs6.extBut _ _ hDI z.1, z.2⟩
            · rcases List.mem_cons.mp hp with rfl | hp
              · exact ⟨hs6.extBut _ _ (Ne.symm hDC) zC, hCL, hC₀⟩
              · rcases List.mem_cons.mp hp with rfl | hp
                · exact ⟨hD6.trans (congrArg some (lst_snoc ys y)), hDL, hD₀⟩
                · have z := N5' p (.tail _ (.tail _ (.tail _ (.tail _ hp))))
                  exact ⟨hs6.extBut _ _ (off6 p hp).2.2 z.1, z.2⟩
          · obtain rfl : j = n2 := Nat.le_antisymm hj (Nat.not_lt.mp hlt2)
            refine W2.done _ _ _ hst' fun h₂ tk₂ hk₂ => ?_
            have off3 := off'.mem
            have Nx : News h₀ L h₂ ((I, oI) :: (C, oC3) :: (D, lst ys) :: led) := news_but N' hk₂ fun p hp => by
              rcases List.mem_cons.mp hp with rfl | hp
              · exact Ne.symm i2I
              · rcases List.mem_cons.mp hp with rfl | hp
                · exact Ne.symm i2C
                · rcases List.mem_cons.mp hp with rfl | hp
                  · exact Ne.symm i2D
                  · exact offI p hp
            have Fx := fr_but F' hk₂ hIL2 hI02
            refine ⟨n1 + 1 - (i + 1), by omega, OI.mk h₂ tk₂ (i + 1) ys m₃ led hlt (hSt (i + 1) _ _ oI ((I, oI) :: []) hst₃ heI (Nx _ (.head _)).1 Fx.keep (fun p hp => Nx p (by rw [List.mem_singleton.mp hp]; exact .head _))) Fx (hoC3.ns (Nx _ (.tail _ (.head _))).1) (fun p hp => Nx p (.tail _ (.tail _ hp))) off' (fin2 _ _ hJ')⟩
        exact start2 1 (.inr rfl) (inner _ rfl) (W2.self 0 _ _ _ st20 (inner _ rfl))
      · obtain rfl : i = n1 := Nat.le_antisymm hi (Nat.not_lt.mp hlt)
        refine W.done _ _ _ hst' fun h₂ tk₂ hk₂ => ?_
        have off3 := off'.mem
        exact hRR _ _ h₂ tk₂ _ ys news' (fr_but F' hk₂ hIL hI₀) (news_but N' hk₂ fun p hp => by
          rcases List.mem_cons.mp hp with rfl | hp
          · exact Ne.symm hDI
          · exact (off3 p hp).1) off'.one (hn'.at' fun o e => hk₂ _ o (by simpa using Ne.symm hCI) e) hC₀ hCL (Ne.symm hDC) (fun p hp => (off3 p hp).2.1) hJ'
  exact start2 0 (.inl rfl) (loop _ rfl) (W.self 0 _ _ _ hst₁ (loop _ rfl))
inductive Go2 (prog : Program) (w : World) (A : Around) (h₀ : Heap) (L : Addr) (m : Str → Option Value) (env : Env) (elt iter2 : Expr) (x1 x2 : Str) (scope : Scope) (cl : List (Str × Addr)) (n1 : Nat) (J : Nat → List Value → List (Addr × Obj) → Prop) (Q : Value → Shared → Prop) (xv : Value) (s₁ : Shared) : Prop
  | mk (P : Nat → Value → Prop) (led : List (Addr × Obj)) (src : Src prog w A xv s₁ n1 P []) (F : Fr h₀ L s₁.heap m) (N : News h₀ L s₁.heap led) (hJ : J 0 [] led) (out : ∀ hp, OutTurn prog w A h₀ L m env elt iter2 x1 x2 scope cl { s₁ with heap := hp } n1 P J)
      (fin : ∀ hp ys led, J n1 ys led → FinE h₀ L m { s₁ with heap := hp } Q ys led) : Go2 prog w A h₀ L m env elt iter2 x1 x2 scope cl n1 J Q xv s₁
theorem comp2_E {elt iter1 iter2 : Expr} {x1 x2 : Str} {px1 px2 : Pos} {scope : Scope} {cl : List (Str × Addr)} {pos : Pos} {Q : Value → Shared → Prop} (_F₀ : Fr h₀ L s.heap m) (n1 : Nat) (J : Nat → List Value → List (Addr × Obj) → Prop)
    (hclos : closureFor scope env = pure cl) (hcell : ∀ y ∈ scope.names, y.2 ≠ .cell) (hkind : scope.kind = .function)
    (hnames : ∀ y ∈ scope.names, y.2 = .local → scope.names.lookup y.1 = some .local) (hx1 : scope.names.lookup x1 = some .local) (hx2 : scope.names.lookup x2 = some .local) (hxx : x1 ≠ x2)
    (h : wpAny (model prog w) A (eval iter1 env) (Go2 prog w A h₀ L m env elt iter2 x1 x2 scope cl n1 J Q) E s)
    (hs1 : ∀ x, foldedSetIterable iter1 env x = pure x := by intro _; rfl) (hs2 : ∀ C x, foldedSetIterable iter2 (compEnvC scope cl C env) x = pure x := by intro _ _; rfl) :
    wpAny (model prog w) A (eval (two elt iter1 iter2 x1 x2 px1 px2 scope pos) env) Q E s := by
  unfold two
  rw [eval_ListComp]
  refine wpAny_comprehension_free (use := none) rfl hs1 hclos hkind hnames (wpAny_mono h (fun xv s₁ h₁ => ?_) fun _ _ e => e)
  refine Go2.casesOn h₁ fun P led src F N hJ out fin => ?_
  refine src_parts src F N fun o St W st0 hIo hSt hfp F1 N1 hIL hI0 off => ?_
  refine block2 ⟨_, rfl⟩ W hIo (fun i h h' o' nw st e e' k N' => hSt i h h' o' nw st e e' k N' (fun _ h => nomatch h)) hcell hkind hx1 hx2 hxx st0 (hfp _ (.head _)) F1 N1 hIL hI0 off hJ hs2 (out _) ?_
  intro D C h tk m' ys news' F' N' o1 hn hC₀ hCL hCD offC hj
  refine ⟨m', hn, fun h'' hs'' => fin s₁.heap ys news' hj D h'' tk (F'.change hs'' hCL hC₀) (fun p hp => ?_) o1⟩
  refine ⟨hs''.extBut _ _ ?_ (N' p hp).1, (N' p hp).2⟩
  rcases List.mem_cons.mp hp with rfl | hp
  · exact Ne.symm hCD
  · exact offC p hp
end
end
section
noncomputable abbrev tupO (vs : List Value) : Obj := { cls := .type "tuple", data := .seq vs.toArray }
noncomputable def num (l : List Nat) : Int := l.foldl (fun (n : Int) (c : Nat) => 16 * n + (c : Int) - 65) 0
theorem num_snoc (l : List Nat) (c : Nat) : num (l ++ [c]) = 16 * num l + c - 65 := by unfold num; rw [List.foldl_append]; rfl
theorem str_get {l : List Nat} {i : Nat} {c : Nat} (h : (str l).cps[i]? = some c) : l.take (i + 1) = l.take i ++ [c] := by
  have h' : l[i]? = some c := by simpa [str] using h
  rw [List.take_add_one, h']; rfl
inductive OLight (x y z : Int) : Value → List (Addr × Obj) → Prop
  | mk (D : Addr) (t1 t2 t3 : Tok) : OLight x y z (.ref D) [(D, tupO [.int x t1, .int y t2, .int z t3])]
theorem c_light (w : World) (base : Heap) (l : List Nat) (tk : Tok) (hx : l.length ≤ 100) : Con w 135 [.str (str l) tk] [] base 3 30 (fun _ => OLight ((num l).fdiv 256) (((num l).fdiv 16).fmod 16) ((num l).fmod 16)) := by
  intro p loose mean mg mb dp un gd cn cs a ccd cl outer A₀ h₀ L m s Q B F X N T hk hdp hun hret
  revert X; k_fill; intro X
  k_dflt (refine' enterK B F X N T ?kA ?kF ?kK hret ?k6 ?k7 ?k8 ?k9 ?kB ?_ ?c5 ?c2 ?c3 ?c4; (case kA => exact rfl); (case kF => exact rfl); (case kK => assumption); (case k6 => k_is); (case k7 => k_is); (case k8 => ktr_room); (case k9 => exact BindsTo.of_eq rfl); (case c5 => decide); (case kB => exact locs rfl); (case c2 => exact rfl); (case c3 => exact rfl); (case c4 => exact rfl); k_whole)
  clear F X N T B hret
  intro g h₁ L' qk hL F N lt B X T st hq; (try dsimp only)
  k_steps
  rename Fr _ _ _ _ => F'; rename News _ _ _ _ => N'
  refine unhold (for_src (g := g) (fun i ps led => led = [] ∧ ∃ t u, ps = [(Str.ofString "word", .str (str l) t), (Str.ofString "number", .int (num (l.take i)) u)]) rfl rfl ?_)
  refine ld F' rfl (ForGo.of [] [(Str.ofString "word", .str (str l) _), (Str.ofString "number", .int 0 _)] (src_str rfl) F' N' (fun _ h => nomatch h) (.cons rfl (.cons rfl .nil)) ⟨rfl, _, _, rfl⟩ ?_ ?_)
  · clear F' N'
    rintro i v ps led u h tk I oI hi ⟨c, u', hc, rfl⟩ ⟨rfl, t, u1, rfl⟩ - F N off
    dsimp only [ov] at F
    k_steps
    rename Fr _ _ _ _ => F'; rename News _ _ _ _ => N'
    have hnum : 16 * num (l.take i) + (c : Int) - 65 = num (l.take (i + 1)) := by rw [str_get hc, num_snoc]
    exact ForStep.go [(Str.ofString "word", .str (str l) t), (Str.ofString "number", .int (num (l.take (i + 1))) _)] [] F' (.cons rfl (.cons (congrArg (fun z => some (Value.int z _)) hnum) .nil)) N' (fun _ h => h) (fun _ h => nomatch h) (fun _ h => nomatch h) ⟨rfl, _, _, rfl⟩
  · clear F' N'
    rintro ps led u h tk ⟨rfl, t, u1, rfl⟩ F N
    dsimp only [ov] at F
    dsimp only
    k_steps
    rename Fr _ _ _ _ => F'; rename News _ _ _ _ => N'
    have hl : l.take (str l).cps.size = l := List.take_length
    rw [hl] at N'
    exact hq _ _ (leaveS _ _ F' N' (fun _ h => h) (.mk _ _ _ _) hL)
end
section
theorem txt_join (sep : Str) (ys : List Str) : Txt.join sep ys = Str.join sep ys := eq_of_beq (join_closes rfl)
theorem str_len (l : List Nat) : (str l).length = l.length := rfl
theorem join_e : ∀ ls : List (List Nat), Str.join (Str.ofString "") (ls.map str) = str ls.flatten
  | [] => rfl
  | [x] => by simp [Str.join]
  | x :: y :: r => by
    show str x ++ Str.ofString "" ++ Str.join (Str.ofString "") ((y :: r).map str) = _
    rw [join_e (y :: r), show Str.ofString "" = str [] from rfl, str_app, str_app, List.append_nil]
    rfl
theorem sum_str (ls : List (List Nat)) : ((ls.map str).map (·.length)).sum = ls.flatten.length := by
  rw [List.map_map, List.length_flatten]; rfl
theorem q_join {prog : Program} {w : World} {A : Around} {E : Value → Shared → Prop} {s : Shared} {t : Tok} {Q : Value → Shared → Prop} {g : Heap} {L : Addr} {led : List (Addr × Obj)} {D : Addr} {ys : List Value} {k : Nat} {ls : List (List Nat)} (N : News g L s.heap led) (hm : (D, ({ cls := .type "list", data := .seq ys.toArray k } : Obj)) ∈ led) (hi : StrsAre ys (ls.map str)) (hz : ls.flatten.length ≤ 16000000)
    (h : ∀ t' k, Q (.str (str ls.flatten) t') { s with toks := k }) : wpAny (model prog w) A (call (.builtin "str.join") [.str (Str.ofString "") t, .ref D]) Q E s := by
  refine join_list (News.isList N hm) hi ?_ fun t' k => ?_
  · rw [sum_str, show (Str.ofString "").length = 0 from rfl, Nat.mul_zero]; omega
  · rw [txt_join, join_e]; exact h t' k
theorem q_chr {prog : Program} {w : World} {A : Around} {E : Value → Shared → Prop} {s : Shared} {c : UInt8} {u : Tok} {Q : Value → Shared → Prop} (h : Q (.str (str [c.toNat]) s.toks) { s with toks := s.toks + 1 }) : wpAny (model prog w) A (call (.builtin "chr") [.int (c.toNat : Int) u]) Q E s := by
  have := c.toNat_lt
  exact chr_of_range (by omega) (by omega) h
theorem lit_sp : Str.ofString " " = str [32] := by decide
theorem lit_q : Str.ofString "\"" = str [34] := by decide
theorem lit_qn : Str.ofString "\"\n" = str [34, 10] := by decide
theorem lit_b : Str.ofString "\\" = str [92] := by decide
theorem lit_tn : Str.ofString "\t\n" = str [9, 10] := by decide
theorem strs_snoc {vs : List Value} {ls : List (List Nat)} {x : List Nat} {t : Tok} (h : StrsAre vs (ls.map str)) : StrsAre (vs ++ [.str (str x) t]) ((ls ++ [x]).map str) := by
  rw [List.map_append]; exact StrsAre.append' h (.cons _ _ .nil)
/-- a word as the law spells it -/
noncomputable def spell (l : List Nat) (d : Int) : List Nat := if d = 0 then l ++ [32] else if d = 1 then 34 :: l ++ [34, 10] else (l.map fun c => [92, c]).flatten ++ [9, 10]
theorem flat_len : ∀ l : List Nat, ((l.map fun c => [92, c]).flatten).length = 2 * l.length
  | [] => rfl
  | c :: r => by
    show ([92, c] ++ (r.map fun c => [92, c]).flatten).length = 2 * (r.length + 1)
    rw [List.length_append, flat_len r]
    show 2 + _ = _
    omega
theorem spell_len (l : List Nat) (d : Int) : (spell l d).length ≤ 2 * l.length + 3 := by
  unfold spell
  have h := flat_len l
  split
  · rw [List.length_append]; show _ + 1 ≤ _; omega
  · split
    · rw [List.length_append, List.length_cons]; show _ + 2 ≤ _; omega
    · rw [List.length_append, h]; show _ + 2 ≤ _; omega
local macro_rules | `(tactic| walk_at "binaryOp Add str str") => `(tactic| (simp only [lit_sp, lit_q, lit_qn, lit_b, lit_tn, str_app]; refine add_str ?_ (by show _ ≤ 16777216; simp only [str_len, List.length_append, List.length_cons, List.length_nil]; omega); intro _ _; (try simp only [str_app])))
local macro_rules | `(tactic| walk_at "call builtin:chr") => `(tactic| refine q_chr ?_)
theorem c_plain (w : World) (base : Heap) (b : Array UInt8) (tk : Tok) (hx : b.size ≤ 100) : Con w 128 [.bytes b tk] [] base 3 30 (fun _ => OStr (str (b.toList.map (·.toNat))) []) := by
  intro p loose mean mg mb dp un gd cn cs a ccd cl outer A₀ h₀ L m s Q B F X N T hk hdp hun hret
  revert X; k_fill; intro X
  k_dflt (refine' enterK B F X N T ?kA ?kF ?kK hret ?k6 ?k7 ?k8 ?k9 ?kB ?_ ?c5 ?c2 ?c3 ?c4; (case kA => exact rfl); (case kF => exact rfl); (case kK => assumption); (case k6 => k_is); (case k7 => k_is); (case k8 => ktr_room); (case k9 => exact BindsTo.of_eq rfl); (case c5 => decide); (case kB => exact locs rfl); (case c2 => exact rfl); (case c3 => exact rfl); (case c4 => exact rfl); k_whole)
  clear F X N T B hret
  intro g h₁ L' qk hL F N lt B X T st hq; (try dsimp only)
  k_steps
  refine unhold (comp_E F (by with_unfolding_all rfl) (by decide) (by rfl) (by decide) (by rfl) ?_)
  refine ld F rfl (SrcGo.of [] (src_bytes rfl) (by show _ ≤ 16777216; omega) F N (fun _ h => nomatch h) (fun g5 => ?_))
  refine rest_ind (fun i ys led => led = [] ∧ StrsAre ys (((b.toList.take i).map fun c => [c.toNat]).map str)) ⟨rfl, .nil⟩ ?_ ?_
  · clear F N
    rintro i v ys led I oI C oC D m₂ h5 k5 E' hi ⟨c, u, hc, rfl⟩ ⟨rfl, hys⟩ hC hx F N off ne
    have hcc : b.toList.take (i + 1) = b.toList.take i ++ [c] := by rw [List.take_add_one, Array.getElem?_toList, hc]; rfl
    k_steps
    rw [hcc, List.map_append]
    exact strs_snoc hys
  · clear F N
    rintro ys led ⟨rfl, hys⟩ D' h5 k5 F N -
    k_steps
    have hb : b.toList.take b.size = b.toList := by rw [← Array.length_toList]; exact List.take_length
    rw [hb] at hys
    have hflat : ((b.toList.map fun c => [c.toNat]).flatten) = b.toList.map (·.toNat) := by
      generalize b.toList = l
      induction l with
      | nil => rfl
      | cons a r ih => rw [List.map_cons, List.flatten_cons, ih]; rfl
    refine q_join N (.head _) hys (by rw [hflat, List.length_map, Array.length_toList]; omega) fun t' k => ?_
    rw [hflat]
    exact hq _ _ (leaveS [] _ F N (fun _ h => nomatch h) (.mk _) hL)
theorem c_spell (w : World) (base : Heap) (l : List Nat) (d : Int) (tk : Tok)  (tk2 : Tok) (hl : l.length ≤ 100) : Con w 116 [.str (str l) tk, .int d tk2] [] base 3 30 (fun _ => OStr (str (spell l d)) []) := by
  intro p loose mean mg mb dp un gd cn cs a ccd cl outer A₀ h₀ L m s Q B F X N T hk hdp hun hret
  revert X; k_fill; intro X
  k_dflt (refine' enterK B F X N T ?kA ?kF ?kK hret ?k6 ?k7 ?k8 ?k9 ?kB ?_ ?c5 ?c2 ?c3 ?c4; (case kA => exact rfl); (case kF => exact rfl); (case kK => assumption); (case k6 => k_is); (case k7 => k_is); (case k8 => ktr_room); (case k9 => exact BindsTo.of_eq rfl); (case c5 => decide); (case kB => exact locs rfl); (case c2 => exact rfl); (case c3 => exact rfl); (case c4 => exact rfl); k_whole)
  clear F X N T B hret
  intro g h₁ L' qk hL F N lt B X T st hq; (try dsimp only)
  k_steps
  · rename d = 0 => h0'
    exact hq _ _ (leaveS [] _ F N (fun _ h => nomatch h) (by unfold spell; rw [if_pos h0']; exact .mk _) hL)
  · rename d ≠ 0 => h0'
    rename d = 1 => h1'
    exact hq _ _ (leaveS [] _ F N (fun _ h => nomatch h) (by unfold spell; rw [if_neg h0', if_pos h1']; exact .mk _) hL)
  · refine unhold (comp_E F (by with_unfolding_all rfl) (by decide) (by rfl) (by decide) (by rfl) ?_)
    refine ld F rfl (SrcGo.of [] (src_str rfl) (by show l.length ≤ 16777216; omega) F N (fun _ h => nomatch h) (fun g5 => ?_))
    refine rest_ind (fun i ys led => led = [] ∧ StrsAre ys (((l.take i).map fun c => [92, c]).map str)) ⟨rfl, .nil⟩ ?_ ?_
    · clear F N
      rintro i v ys led I oI C oC D m₂ h5 k5 E' hi ⟨c, u, hc, rfl⟩ ⟨rfl, hys⟩ hC hx F N off ne
      have hcc := str_get hc
      rw [show (⟨#[c]⟩ : Str) = str [c] from rfl] at hx
      k_steps
      rw [lit_b, str_app, hcc, List.map_append]
      exact strs_snoc hys
    · clear F N
      rintro ys led ⟨rfl, hys⟩ D' h5 k5 F N -
      k_steps
      have hb : l.take (str l).cps.size = l := List.take_length
      rw [hb] at hys
      have hfl := flat_len l
      refine q_join (ls := l.map fun c => [92, c]) N (.head _) hys (by rw [hfl]; omega) fun t' k => ?_
      k_steps
      rename d ≠ 0 => h0'
      rename d ≠ 1 => h1'
      exact hq _ _ (leaveS [] _ F N (fun _ h => nomatch h) (by unfold spell; rw [if_neg h0', if_neg h1']; exact .mk _) hL)
end
section
noncomputable def max3 (a b c : Int) : Int := max (max a b) c
noncomputable def min3 (a b c : Int) : Int := min (min a b) c
theorem max3_ge (a b c : Int) : a ≤ max3 a b c ∧ b ≤ max3 a b c ∧ c ≤ max3 a b c := ⟨Int.le_trans (Int.le_max_left a b) (Int.le_max_left _ c), Int.le_trans (Int.le_max_right a b) (Int.le_max_left _ c), Int.le_max_right _ c⟩
theorem max3_le {a b c k : Int} (h1 : a ≤ k) (h2 : b ≤ k) (h3 : c ≤ k) : max3 a b c ≤ k := Int.max_le.mpr ⟨Int.max_le.mpr ⟨h1, h2⟩, h3⟩
theorem min3_le (a b c : Int) : min3 a b c ≤ a ∧ min3 a b c ≤ b ∧ min3 a b c ≤ c := ⟨Int.le_trans (Int.min_le_left _ c) (Int.min_le_left a b), Int.le_trans (Int.min_le_left _ c) (Int.min_le_right a b), Int.min_le_right _ c⟩
theorem le_min3 {a b c k : Int} (h1 : k ≤ a) (h2 : k ≤ b) (h3 : k ≤ c) : k ≤ min3 a b c := Int.le_min.mpr ⟨Int.le_min.mpr ⟨h1, h2⟩, h3⟩
section
variable {prog : Program} {w : World} {A : Around} {E : Value → Shared → Prop} {s : Shared} {g : Heap} {L : Addr} {m : Str → Option Value} {led : List (Addr × Obj)}
theorem q_max3 {a b c : Int} {t u x : Tok} {Q : Value → Shared → Prop} (hh : A.handled = none) (F : Fr g L s.heap m) (N : News g L s.heap led)
    (h : ∀ h' t' k, Fr g L h' m → News g L h' led → Q (.int (max3 a b c) t') { s with heap := h', toks := k }) : wpAny (model prog w) A (call (.builtin "max") [.int a t, .int b u, .int c x]) Q E s := by
  refine max_three_ints hh fun h' tk hk => ?_
  have e : ∃ t', (if b > a then (if c > b then Value.int c x else .int b u) else (if c > a then .int c x else .int a t)) = .int (max3 a b c) t' := by
    unfold max3
    split <;> split
    · exact ⟨x, by congr 1; omega⟩
    · exact ⟨u, by congr 1; omega⟩
    · exact ⟨x, by congr 1; omega⟩
    · exact ⟨t, by congr 1; omega⟩
  obtain ⟨t', e⟩ := e
  rw [e]
  exact h h' t' tk (F.grownK hk) (N.grown hk)
theorem q_min3 {a b c : Int} {t u x : Tok} {Q : Value → Shared → Prop} (hh : A.handled = none) (F : Fr g L s.heap m) (N : News g L s.heap led)
    (h : ∀ h' t' k, Fr g L h' m → News g L h' led → Q (.int (min3 a b c) t') { s with heap := h', toks := k }) : wpAny (model prog w) A (call (.builtin "min") [.int a t, .int b u, .int c x]) Q E s := by
  refine min_three_ints hh fun h' tk hk => ?_
  have e : ∃ t', (if b < a then (if c < b then Value.int c x else .int b u) else (if c < a then .int c x else .int a t)) = .int (min3 a b c) t' := by
    unfold min3
    split <;> split
    · exact ⟨x, by congr 1; omega⟩
    · exact ⟨u, by congr 1; omega⟩
    · exact ⟨x, by congr 1; omega⟩
    · exact ⟨t, by congr 1; omega⟩
  obtain ⟨t', e⟩ := e
  rw [e]
  exact h h' t' tk (F.grownK hk) (N.grown hk)
end
noncomputable def qf (a b : Int) : UInt64 := Float64.ofFrac (decide (a < 0) != decide (b < 0)) a.natAbs b.natAbs
noncomputable def sF (r g b : Int) : UInt64 := if min3 r g b = max3 r g b then 0 else qf (max3 r g b - min3 r g b) (max3 r g b)
noncomputable def hF (r g b : Int) : UInt64 := if min3 r g b = max3 r g b then 0 else
  (Float64.divmod (Float64.div (if r = max3 r g b then Float64.sub (qf (max3 r g b - b) (max3 r g b - min3 r g b)) (qf (max3 r g b - g) (max3 r g b - min3 r g b))
    else if g = max3 r g b then Float64.sub (Float64.add 4611686018427387904 (qf (max3 r g b - r) (max3 r g b - min3 r g b))) (qf (max3 r g b - b) (max3 r g b - min3 r g b))
    else Float64.sub (Float64.add 4616189618054758400 (qf (max3 r g b - g) (max3 r g b - min3 r g b))) (qf (max3 r g b - r) (max3 r g b - min3 r g b))) 4618441417868443648) 4607182418800017408).snd
theorem inf_no (a b : Int) (h0 : 0 ≤ a) (h1 : a ≤ 24) (h2 : 0 < b) (h3 : b ≤ 24) : ¬ Float64.isInf (Float64.ofFrac (decide (a < 0) != decide (b < 0)) a.natAbs b.natAbs) = true := by
  have key : ∀ x : Fin 25, ∀ y : Fin 25, y.val ≠ 0 → Float64.isInf (Float64.ofFrac false x.val y.val) = false := by decide +kernel
  have := key ⟨a.natAbs, by omega⟩ ⟨b.natAbs, by omega⟩ (by show b.natAbs ≠ 0; omega)
  rw [decide_eq_false (by omega), decide_eq_false (by omega)]
  simpa using this
local macro_rules | `(tactic| walk_at "call builtin:max") => `(tactic| ((with_reducible rename Fr _ _ _ _ => fX); (with_reducible rename News _ _ _ _ => nX); refine q_max3 rfl fX nX ?_; clear fX nX; intro h' t' k' F' N'; (try dsimp only)))
local macro_rules | `(tactic| walk_at "call builtin:min") => `(tactic| ((with_reducible rename Fr _ _ _ _ => fX); (with_reducible rename News _ _ _ _ => nX); refine q_min3 rfl fX nX ?_; clear fX nX; intro h' t' k' F' N'; (try dsimp only)))
inductive OHsv (x y : UInt64) (m : Int) : Value → List (Addr × Obj) → Prop
  | mk (D : Addr) (th ts tm : Tok) : OHsv x y m (.ref D) [(D, tupO [.float x th, .float y ts, .int m tm])]
theorem c_hsv (w : World) (base : Heap) (r0 g0 b0 : Int) (t1 t2 t3 : Tok) (h1 : 0 ≤ r0 ∧ r0 ≤ 24) (h2 : 0 ≤ g0 ∧ g0 ≤ 24) (h3 : 0 ≤ b0 ∧ b0 ≤ 24) :
    Con w 57 [.int r0 t1, .int g0 t2, .int b0 t3] [] base 3 30 (fun _ => OHsv (hF r0 g0 b0) (sF r0 g0 b0) (max3 r0 g0 b0)) := by
  intro p loose mean mg mb dp un gd cn cs a ccd cl outer A₀ h₀ L m s Q B F X N T hk hdp hun hret
  revert X; k_fill; intro X
  k_dflt (refine' enterK B F X N T ?kA ?kF ?kK hret ?k6 ?k7 ?k8 ?k9 ?kB ?_ ?c5 ?c2 ?c3 ?c4; (case kA => exact rfl); (case kF => exact rfl); (case kK => assumption); (case k6 => k_is); (case k7 => k_is); (case k8 => ktr_room); (case k9 => exact BindsTo.of_eq rfl); (case c5 => decide); (case kB => exact locs rfl); (case c2 => exact rfl); (case c3 => exact rfl); (case c4 => exact rfl); k_whole)
  clear F X N T B hret
  intro g h₁ L' qk hL F N lt B X T st hq; (try dsimp only)
  have hM : max3 r0 g0 b0 ≤ 24 ∧ r0 ≤ max3 r0 g0 b0 ∧ g0 ≤ max3 r0 g0 b0 ∧ b0 ≤ max3 r0 g0 b0 := ⟨max3_le h1.2 h2.2 h3.2, max3_ge r0 g0 b0⟩
  have hm : 0 ≤ min3 r0 g0 b0 ∧ min3 r0 g0 b0 ≤ r0 ∧ min3 r0 g0 b0 ≤ g0 ∧ min3 r0 g0 b0 ≤ b0 := ⟨le_min3 h1.1 h2.1 h3.1, min3_le r0 g0 b0⟩
  k_steps
  · rename Fr _ _ _ _ => F'; rename News _ _ _ _ => N'
    exact hq _ _ (leaveS _ _ F' N' (fun _ h => h) (by unfold hF sF; rw [if_pos (by assumption), if_pos (by assumption)]; exact .mk _ _ _ _) hL)
  · rename Fr _ _ _ _ => F'; rename News _ _ _ _ => N'
    rename min3 _ _ _ ≠ max3 _ _ _ => hne
    rename r0 = max3 _ _ _ => hr
    exact hq _ _ (leaveS _ _ F' N' (fun _ h => h) (by rw [show sF r0 g0 b0 = _ from if_neg hne, show hF r0 g0 b0 = _ from (if_neg hne).trans (by rw [if_pos hr])]; exact .mk _ _ _ _) hL)
  · rename Fr _ _ _ _ => F'; rename News _ _ _ _ => N'
    rename min3 _ _ _ ≠ max3 _ _ _ => hne
    rename r0 ≠ max3 _ _ _ => hr
    rename g0 = max3 _ _ _ => hg
    exact hq _ _ (leaveS _ _ F' N' (fun _ h => h) (by rw [show sF r0 g0 b0 = _ from if_neg hne, show hF r0 g0 b0 = _ from (if_neg hne).trans (by rw [if_neg hr, if_pos hg])]; exact .mk _ _ _ _) hL)
  · rename Fr _ _ _ _ => F'; rename News _ _ _ _ => N'
    rename min3 _ _ _ ≠ max3 _ _ _ => hne
    rename r0 ≠ max3 _ _ _ => hr
    rename g0 ≠ max3 _ _ _ => hg
    exact hq _ _ (leaveS _ _ F' N' (fun _ h => h) (by rw [show sF r0 g0 b0 = _ from if_neg hne, show hF r0 g0 b0 = _ from (if_neg hne).trans (by rw [if_neg hr, if_neg hg])]; exact .mk _ _ _ _) hL)
end
section
noncomputable abbrev tup3 (r g b : Int) (t1 t2 t3 : Tok) (n : Nat) : Obj := { cls := .type "tuple", data := .seq #[.int r t1, .int g t2, .int b t3] n }
theorem ints3 {ys : List Value} {a b c : Int} (h : IntsAre ys [a, b, c]) : ∃ ta tb tc, ys = [.int a ta, .int b tb, .int c tc] := by
  cases h with | cons _ ta h => cases h with | cons _ tb h => cases h with | cons _ tc h => cases h; exact ⟨ta, tb, tc, rfl⟩
theorem ints_snoc {vs : List Value} {ns : List Int} {x : Int} {t : Tok} (h : IntsAre vs ns) : IntsAre (vs ++ [.int x t]) (ns ++ [x]) := IntsAre.append h (.cons x t .nil)
section
variable {prog : Program} {w : World} {A : Around} {E : Value → Shared → Prop} {s : Shared} {g : Heap} {L : Addr} {m : Str → Option Value} {led : List (Addr × Obj)}
theorem q_minL {D : Addr} {k : Nat} {a b c : Int} {t u x : Tok} {Q : Value → Shared → Prop} (hh : A.handled = none) (F : Fr g L s.heap m) (N : News g L s.heap led) (hm : (D, ({ cls := .type "list", data := .seq #[.int a t, .int b u, .int c x] k } : Obj)) ∈ led)
    (h : ∀ h' t' k, Fr g L h' m → News g L h' led → Q (.int (min3 a b c) t') { s with heap := h', toks := k }) : wpAny (model prog w) A (call (.builtin "min") [.ref D]) Q E s := by
  refine min_list_N (vs := [.int a t, .int b u, .int c x]) (ns := [a, b, c]) hh F N (News.isList N hm) (.cons _ _ (.cons _ _ (.cons _ _ .nil))) (Nat.zero_lt_succ _) fun h' M t' k F' N' hM hle => ?_
  have e : M = min3 a b c := by
    have h1 := hle a (.head _)
    have h2 := hle b (.tail _ (.head _))
    have h3 := hle c (.tail _ (.tail _ (.head _)))
    simp only [List.mem_cons, List.not_mem_nil, or_false] at hM
    refine Int.le_antisymm (le_min3 h1 h2 h3) ?_
    rcases hM with e | e | e
    · rw [e]; exact (min3_le a b c).1
    · rw [e]; exact (min3_le a b c).2.1
    · rw [e]; exact (min3_le a b c).2.2
  rw [e]
  exact h h' t' k F' N'
end
noncomputable def touchV (a b c : Int) : Int := max3 (a - min3 a b c) (b - min3 a b c) (c - min3 a b c)
local macro_rules | `(tactic| walk_at "call builtin:min") => `(tactic| ((with_reducible rename Fr _ _ _ _ => fX); (with_reducible rename News _ _ _ _ => nX); (with_unfolding_all refine q_minL rfl fX nX (.head _) ?_); clear fX nX; intro h' t' k' F' N'; (try dsimp only)))
theorem c_touch (w : World) (base : Heap) (a0 a1 : Addr) (r0 g0 b0 r1 g1 b1 : Int) (t1 t2 t3 t4 t5 t6 : Tok) (n0 n1 : Nat) (h1 : 0 ≤ r0 ∧ r0 ≤ 12 ∧ 0 ≤ g0 ∧ g0 ≤ 12 ∧ 0 ≤ b0 ∧ b0 ≤ 12) (h2 : 0 ≤ r1 ∧ r1 ≤ 12 ∧ 0 ≤ g1 ∧ g1 ≤ 12 ∧ 0 ≤ b1 ∧ b1 ≤ 12) :
    Con w 152 [.ref a0, .ref a1] [(a0, tup3 r0 g0 b0 t1 t2 t3 n0), (a1, tup3 r1 g1 b1 t4 t5 t6 n1)] base 5 60 (fun _ => OIs (.bool (touchV (r1 - r0) (g1 - g0) (b1 - b0) == 6)) [(a0, tup3 r0 g0 b0 t1 t2 t3 n0), (a1, tup3 r1 g1 b1 t4 t5 t6 n1)]) := by
  have hm : min3 (r1 - r0) (g1 - g0) (b1 - b0) ≤ r1 - r0 ∧ min3 (r1 - r0) (g1 - g0) (b1 - b0) ≤ g1 - g0 ∧ min3 (r1 - r0) (g1 - g0) (b1 - b0) ≤ b1 - b0 ∧ -12 ≤ min3 (r1 - r0) (g1 - g0) (b1 - b0) := ⟨(min3_le _ _ _).1, (min3_le _ _ _).2.1, (min3_le _ _ _).2.2, le_min3 (by omega) (by omega) (by omega)⟩
  have k1 : 0 ≤ r1 - r0 - min3 (r1 - r0) (g1 - g0) (b1 - b0) ∧ r1 - r0 - min3 (r1 - r0) (g1 - g0) (b1 - b0) ≤ 24 := by omega
  have k2 : 0 ≤ g1 - g0 - min3 (r1 - r0) (g1 - g0) (b1 - b0) ∧ g1 - g0 - min3 (r1 - r0) (g1 - g0) (b1 - b0) ≤ 24 := by omega
  have k3 : 0 ≤ b1 - b0 - min3 (r1 - r0) (g1 - g0) (b1 - b0) ∧ b1 - b0 - min3 (r1 - r0) (g1 - g0) (b1 - b0) ≤ 24 := by omega
  intro p loose mean mg mb dp un gd cn cs a ccd cl outer A₀ h₀ L m s Q B F X N T hk hdp hun hret
  revert X; k_fill; intro X
  k_dflt (refine' enterC B F X N T ?kA ?kF ?kK hret ?k6 ?k7 ?k8 ?k9 ?kB ?kD ?_ ?c2 ?c3 ?c4; (case kA => exact rfl); (case kF => exact rfl); (case kK => assumption); (case k6 => k_is); (case k7 => k_is); (case k8 => ktr_room); (case k9 => exact BindsTo.of_eq rfl); (case kB => exact rfl); (case kD => decide +kernel); (case c2 => exact rfl); (case c3 => exact rfl); (case c4 => exact rfl); k_whole)
  clear F X N T B hret
  intro g L' h' tk' cells' qk hL F' N' Y' B X T l1 hq; (try k_lt l1); k_cells Y'; (try simp only [List.cons_append, List.nil_append] at N'); (try dsimp only)
  rename_i o1 o2 q1 q2
  k_steps
  refine unhold (comp_A F' (by rfl) (by with_unfolding_all rfl) (by with_unfolding_all rfl) (by decide) (by rfl) (by decide) (by rfl) (by rfl) (by rfl) ?_)
  k_steps
  rename Fr _ _ _ _ => F'; rename News _ _ _ _ => N'
  rename IsRange _ _ _ _ _ _ _ _ => hR
  refine (SrcGo.of [] (src_range rfl hR (by decide) (n := 3) (by decide)) (by decide) F' N' (fun _ h => nomatch h) (fun g5 => ?_))
  refine rest_indRL [(L' + 1 + 1, o1), (L' + 1, o2), (a0, tup3 r0 g0 b0 t1 t2 t3 n0), (a1, tup3 r1 g1 b1 t4 t5 t6 n1)] (fun i ys => IntsAre ys ([r1 - r0, g1 - g0, b1 - b0].take i)) .nil ?_ ?_
  · clear F' N'
    intro LD hLD i u ys I oI C oC D m₂ h5 k5 E' hi hys hC hx F N off ne
    have h3 : i = 0 ∨ i = 1 ∨ i = 2 := by omega
    simp only [LCg.Off3, and_true] at off
    have e1f := off.1.1
    have e2f := off.1.2.1
    have e3f := off.1.2.2
    have e4f := off.2.1.1
    have e5f := off.2.1.2.1
    have e6f := off.2.1.2.2
    have e7f := off.2.2.1.1
    have e8f := off.2.2.1.2.1
    have e9f := off.2.2.1.2.2
    have e10f := off.2.2.2.1
    have e11f := off.2.2.2.2.1
    have e12f := off.2.2.2.2.2
    have n1f := ne.1
    have n2f := ne.2.1
    have n3f := ne.2.2
    rcases h3 with rfl | rfl | rfl
    · k_steps
      exact LedIs.of hLD (ints_snoc hys)
    · k_steps
      exact LedIs.of hLD (ints_snoc hys)
    · k_steps
      exact LedIs.of hLD (ints_snoc hys)
  · clear F' N'
    intro ys hys D' h5 k5 F N od
    simp only [LCg.Off1, and_true] at od
    obtain ⟨ta, tb, tc, rfl⟩ := ints3 hys
    k_steps
    rename Fr _ _ _ _ => F'; rename News _ _ _ _ => N'
    refine unhold (con_use (c_hsv w base (r1 - r0 - min3 (r1 - r0) (g1 - g0) (b1 - b0)) (g1 - g0 - min3 (r1 - r0) (g1 - g0) (b1 - b0)) (b1 - b0 - min3 (r1 - r0) (g1 - g0) (b1 - b0)) _ _ _ k1 k2 k3) B F' X T _ _ N' (fun _ h => nomatch h) (fun _ h => h) (fun _ _ h => nomatch h) rfl (by ktr_room) (by ktr_units) ?_)
    refine fun v mach' h6 k6 hr => OHsv.casesOn hr fun D2 th ts tm F6 N6 _ hzz => ?_
    have hne := hzz.2
    simp only [List.cons_append, List.nil_append] at N6
    clear F' N'
    k_steps
    exact hq _ _ (leaveS [(a0, tup3 r0 g0 b0 t1 t2 t3 n0), (a1, tup3 r1 g1 b1 t4 t5 t6 n1)] _ F6 N6 (fun _ h => .tail _ (.tail _ (.tail _ (.tail _ h)))) .mk hL)
end
section
noncomputable abbrev listO (ys : List Value) (k : Nat) : Obj := { cls := .type "list", data := .seq ys.toArray k }
noncomputable def placeOf (r g b : Int) : Int := Flt.toInt Float64.nearestOf (Float64.mul (Float64.ofInt 18) (hF r g b))
noncomputable def sideB (r g b side : Int) : Bool := decide ((placeOf r g b - 6 * side).fmod 18 ≤ 6)
noncomputable def sidesOf (r g b : Int) : List Int := if (Float64.cmp (sF r g b) 4607182418800017408 == some Ordering.lt) = true then [] else [0, 1, 2].filter (sideB r g b)
theorem filt_yes {ys : List Value} {l : List Int} {p : Int → Bool} {i : Nat} {x : Int} {t : Tok} (e : l.take (i + 1) = l.take i ++ [x]) (h : p x = true) (hys : IntsAre ys ((l.take i).filter p)) : IntsAre (ys ++ [.int x t]) ((l.take (i + 1)).filter p) := by
  rw [e, List.filter_append, show List.filter p [x] = [x] from by simp [h]]; exact ints_snoc hys
theorem filt_no {ys : List Value} {l : List Int} {p : Int → Bool} {i : Nat} {x : Int} (e : l.take (i + 1) = l.take i ++ [x]) (h : p x = false) (hys : IntsAre ys ((l.take i).filter p)) : IntsAre ys ((l.take (i + 1)).filter p) := by
  rw [e, List.filter_append, show List.filter p [x] = [] from by simp [h], List.append_nil]; exact hys
theorem c_sides (w : World) (base : Heap) (a0 : Addr) (r0 g0 b0 : Int) (t1 t2 t3 : Tok) (n0 : Nat) (h1 : 0 ≤ r0 ∧ r0 ≤ 12 ∧ 0 ≤ g0 ∧ g0 ≤ 12 ∧ 0 ≤ b0 ∧ b0 ≤ 12)
    (hna : Float64.isNaN (Float64.mul (Float64.ofInt 18) (hF r0 g0 b0)) = false) (hin : Float64.isInf (Float64.mul (Float64.ofInt 18) (hF r0 g0 b0)) = false) :
    Con w 147 [.ref a0] [(a0, tup3 r0 g0 b0 t1 t2 t3 n0)] base 5 60 (fun _ => OInts (sidesOf r0 g0 b0) [(a0, tup3 r0 g0 b0 t1 t2 t3 n0)]) := by
  have k1 : 0 ≤ r0 ∧ r0 ≤ 24 := by omega
  have k2 : 0 ≤ g0 ∧ g0 ≤ 24 := by omega
  have k3 : 0 ≤ b0 ∧ b0 ≤ 24 := by omega
  intro p loose mean mg mb dp un gd cn cs a ccd cl outer A₀ h₀ L m s Q B F X N T hk hdp hun hret
  revert X; k_fill; intro X
  k_dflt (refine' enterC B F X N T ?kA ?kF ?kK hret ?k6 ?k7 ?k8 ?k9 ?kB ?kD ?_ ?c2 ?c3 ?c4; (case kA => exact rfl); (case kF => exact rfl); (case kK => assumption); (case k6 => k_is); (case k7 => k_is); (case k8 => ktr_room); (case k9 => exact BindsTo.of_eq rfl); (case kB => exact rfl); (case kD => decide +kernel); (case c2 => exact rfl); (case c3 => exact rfl); (case c4 => exact rfl); k_whole)
  clear F X N T B hret
  intro g L' h' tk' cells' qk hL F' N' Y' B X T l1 hq; (try k_lt l1); k_cells Y'; (try simp only [List.cons_append, List.nil_append] at N'); (try dsimp only)
  rename_i o1 q1
  k_steps
  rename Fr _ _ _ _ => F'; rename News _ _ _ _ => N'
  refine unhold (con_use (c_hsv w base r0 g0 b0 _ _ _ k1 k2 k3) B F' X T _ _ N' (fun _ h => nomatch h) (fun _ h => h) (fun _ _ h => nomatch h) rfl (by ktr_room) (by ktr_units) ?_)
  refine fun v mach' h6 k6 hr => OHsv.casesOn hr fun D2 th ts tm F6 N6 _ hzz => ?_
  have hne := hzz.2
  simp only [List.cons_append, List.nil_append] at N6
  clear F' N'
  k_steps
  · rename Fr _ _ _ _ => F'; rename News _ _ _ _ => N'
    rename (Float64.cmp _ _ == _) = true => hc
    exact hq _ _ (leaveS [_, (a0, tup3 r0 g0 b0 t1 t2 t3 n0)] _ F' N' (fun p hp => by
      rcases List.mem_cons.mp hp with rfl | hp
      · exact .head _
      · exact .tail _ (.tail _ (.tail _ hp))) (.mk _ [] 0 (by rw [sidesOf, if_pos hc]; exact .nil)) hL)
  · rename Fr _ _ _ _ => F'; rename News _ _ _ _ => N'
    rename (Float64.cmp _ _ == _) = false => hc
    simp only [List.cons_append, List.nil_append] at N'
    refine unhold (compT_E F' (by with_unfolding_all rfl) (by decide) (by rfl) (by decide) (by rfl) ?_)
    k_steps
    rename Fr _ _ _ _ => F'; rename News _ _ _ _ => N'
    rename Obj => o3
    rename IsRange _ _ _ _ _ _ _ _ => hR
    refine (SrcGo.of [] (src_range rfl hR (by decide) (n := 3) (by decide)) (by decide) F' N' (fun _ h => nomatch h) (fun g5 => ?_))
    refine restT_indRL [(D2, tupO [.float (hF r0 g0 b0) th, .float (sF r0 g0 b0) ts, .int (max3 r0 g0 b0) tm]), (L' + 1, o3), (a0, tup3 r0 g0 b0 t1 t2 t3 n0)] (fun i ys => IntsAre ys ((([0, 1, 2] : List Int).take i).filter (sideB r0 g0 b0))) .nil ?_ ?_
    · clear F' N'
      intro LD hLD i u ys I oI C oC D m₂ h5 k5 E' hi hys hC hx F N off ne
      have h3 : i = 0 ∨ i = 1 ∨ i = 2 := by omega
      simp only [LCg.Off3, and_true] at off
      have e1f := off.1.1
      have e2f := off.1.2.1
      have e3f := off.1.2.2
      have e4f := off.2.1.1
      have e5f := off.2.1.2.1
      have e6f := off.2.1.2.2
      have e7f := off.2.2.1
      have e8f := off.2.2.2.1
      have e9f := off.2.2.2.2
      have n1f := ne.1
      have n2f := ne.2.1
      have n3f := ne.2.2
      rcases h3 with rfl | rfl | rfl
      · k_steps
        · rename Int.fmod _ 18 ≤ 6 => hb
          exact LedIs.of hLD (filt_yes (x := 0 + ((0 : Nat) : Int)) rfl (decide_eq_true hb) hys)
        · rename ¬ Int.fmod _ 18 ≤ 6 => hb
          exact LedIs.of hLD (filt_no (x := 0 + ((0 : Nat) : Int)) rfl (decide_eq_false hb) hys)
      · k_steps
        · rename Int.fmod _ 18 ≤ 6 => hb
          exact LedIs.of hLD (filt_yes (x := 0 + ((1 : Nat) : Int)) rfl (decide_eq_true hb) hys)
        · rename ¬ Int.fmod _ 18 ≤ 6 => hb
          exact LedIs.of hLD (filt_no (x := 0 + ((1 : Nat) : Int)) rfl (decide_eq_false hb) hys)
      · k_steps
        · rename Int.fmod _ 18 ≤ 6 => hb
          exact LedIs.of hLD (filt_yes (x := 0 + ((2 : Nat) : Int)) rfl (decide_eq_true hb) hys)
        · rename ¬ Int.fmod _ 18 ≤ 6 => hb
          exact LedIs.of hLD (filt_no (x := 0 + ((2 : Nat) : Int)) rfl (decide_eq_false hb) hys)
    · clear F' N'
      intro ys hys D' h5 k5 F N od
      k_steps
      exact hq _ _ (leaveS [_, (a0, tup3 r0 g0 b0 t1 t2 t3 n0)] _ F N (fun p hp => by
        rcases List.mem_cons.mp hp with rfl | hp
        · exact .head _
        · exact .tail _ (.tail _ (.tail _ hp))) (.mk _ _ _ (by rw [sidesOf, if_neg (by rw [hc]; exact Bool.false_ne_true)]; exact hys)) hL)
end
section
theorem mem_swap {a b : List (Addr × Obj)} : ∀ p ∈ a ++ b, p ∈ b ++ a := fun _ hp => (List.mem_append.mp hp).elim (List.mem_append_right _) (List.mem_append_left _)
section
variable {w : World} {p : Program} {loose : List Str} {mean : ExcName → Option Value} {mg mb : Str → Option Value} {dp un : Nat} {gd : Option (List Code)} {cn : Str} {cs : Scope} {a : Addr} {ccd : Value} {cl : List (Str × Addr)} {outer : List Env} {A₀ : Around} {base g : Heap} {L : Addr} {m : Str → Option Value} {s : Shared} {E : Value → Shared → Prop}
theorem gt_use {M : Mac} {l : List Nat} {k : Nat} {tp tl : Tok} {n : Nat} {x r : List Nat} {Q : Value → Shared → Prop} (rest : List (Addr × Obj)) (hl : l.length ≤ 10000) (hsm : ∀ c ∈ l, c < 128) (O : M.Ord) (RS : ReadSpec w M base l) (hk : k ≤ l.length)
    (B : Below A₀ base outer g) (F : Fr g L s.heap m) (X : (hd.heap_39 w.params).In g) (T : Top p loose mean mg mb g) (N : News g L s.heap (rest ++ M.led w k tp (lineAt l k) tl [] n)) (hr : ∀ q ∈ rest, M.Free q.1)
    (hck : cs.kind = .function) (hdp : dp + 7 < recursionLimit) (hun : un + 90 < cLine) (e : lex (l.drop k) = (x, r))
    (ret : ∀ h' tk' t' tp' tl', Fr g L h' m → News g L h' (rest ++ M.led w (l.length - r.length : Nat) tp' (lineAt l (l.length - r.length)) tl' [] n) → Q (.str (str x) t') { s with heap := h', toks := tk' }) :
    wpAny (model rw_sn0010_01.row.prog w) (ktrTop dp un gd cn cs L a ccd cl outer) (call (.ref 85) [.ref M.mx]) Q E s := by
  refine con_use (c_gt_lex w M base l hl hsm O RS k hk tp tl n) B F X T _ rest N (fun _ h => List.mem_append_right _ h) (fun _ h => List.mem_append_left _ h) (fun q hq => led_off (hr q hq)) hck hdp hun ?_
  refine fun v mach' h' tk' hr => OLex.casesOn hr fun t' tp' tl' F' N' _ _ => ?_
  rw [e] at N' ⊢
  exact ret h' tk' t' tp' tl' F' fun z hz => N' z (mem_swap z hz)
theorem pop_use {M : Mac} {k : Int} {tp tl : Tok} {line : Int} {v : Value} {q : List Value} {n : Nat} {Q : Value → Shared → Prop} (rest : List (Addr × Obj)) (O : M.Ord)
    (B : Below A₀ base outer g) (F : Fr g L s.heap m) (X : (hd.heap_39 w.params).In g) (T : Top p loose mean mg mb g) (N : News g L s.heap (rest ++ M.led w k tp line tl (v :: q) n)) (hr : ∀ q ∈ rest, M.Free q.1) (hz : (v :: q).length ≤ 100000)
    (hck : cs.kind = .function) (hdp : dp + 7 < recursionLimit) (hun : un + 90 < cLine)
    (ret : ∀ h' tk' n', Fr g L h' m → News g L h' (rest ++ M.led w k tp line tl q n') → Q v { s with heap := h', toks := tk' }) :
    wpAny (model rw_sn0010_01.row.prog w) (ktrTop dp un gd cn cs L a ccd cl outer) (call (.ref 85) [.ref M.mx]) Q E s := by
  refine con_use (c_gt_pop w M base O k tp line tl v q n hz) B F X T _ rest N (fun _ h => List.mem_append_right _ h) (fun _ h => List.mem_append_left _ h) (fun q hq => led_off (hr q hq)) hck hdp hun ?_
  rintro v' mach' h' tk' ⟨rfl, n', rfl⟩ F' N' - -
  exact ret h' tk' n' F' fun z hz => N' z (mem_swap z hz)
theorem push_use {M : Mac} {k : Int} {tp tl : Tok} {line : Int} {v : Value} {q : List Value} {n : Nat} {Q : Value → Shared → Prop} (rest : List (Addr × Obj)) (O : M.Ord)
    (B : Below A₀ base outer g) (F : Fr g L s.heap m) (X : (hd.heap_39 w.params).In g) (T : Top p loose mean mg mb g) (N : News g L s.heap (rest ++ M.led w k tp line tl q n)) (hr : ∀ q ∈ rest, M.Free q.1) (hz : q.length ≤ 100000)
    (hck : cs.kind = .function) (hdp : dp + 7 < recursionLimit) (hun : un + 90 < cLine)
    (ret : ∀ h' tk' n', Fr g L h' m → News g L h' (rest ++ M.led w k tp line tl (q ++ [v]) n') → Q .none { s with heap := h', toks := tk' }) :
    wpAny (model rw_sn0010_01.row.prog w) (ktrTop dp un gd cn cs L a ccd cl outer) (call (.ref 92) [.ref M.mx, v]) Q E s := by
  refine con_use (c_push w M base O k tp line tl v q n hz) B F X T _ rest N (fun _ h => List.mem_append_right _ h) (fun _ h => List.mem_append_left _ h) (fun q hq => led_off (hr q hq)) hck hdp hun ?_
  rintro v' mach' h' tk' ⟨rfl, n', rfl⟩ F' N' - -
  exact ret h' tk' n' F' fun z hz => N' z (mem_swap z hz)
theorem con_keep {f : Addr} {vs : List Value} {mach : List (Addr × Obj)} {d u : Nat} {R : Out} {Q : Value → Shared → Prop} (C : Con w f vs mach base d u R) (B : Below A₀ base outer g) (F : Fr g L s.heap m) (X : (hd.heap_39 w.params).In g) (T : Top p loose mean mg mb g) (led : List (Addr × Obj)) (N : News g L s.heap led) (hm : ∀ q ∈ mach, q ∈ led)
    (hkeep : ∀ a v mach', R a v mach' → ∀ q ∈ mach, q ∈ mach')
    (hk : cs.kind = .function) (hdp : dp + d < recursionLimit) (hun : un + u < cLine)
    (ret : ∀ v mach' h' tk', R s.heap.objs.size v mach' → Fr g L h' m → News g L h' (mach' ++ led) → (∀ q ∈ mach', q.1 ∉ mach.map (·.1) → ∀ p ∈ led, @Ne Nat q.1 p.1) → Q v { s with heap := h', toks := tk' }) :
    wpAny (model PySem.Challenge.rw_sn0010_01.row.prog w) (ktrTop dp un gd cn cs L a ccd cl outer) (call (.ref f) vs) Q E s := by
  classical
  refine con_use C B F X T led (led.filter fun q => decide (q.1 ∉ mach.map (·.1))) N hm (fun q hq => (List.mem_filter.mp hq).1) (fun q hq => of_decide_eq_true (List.mem_filter.mp hq).2) hk hdp hun ?_
  intro v mach' h' tk' r F' N' _ hz
  refine ret v mach' h' tk' r F' (fun q hq => ?_) hz.2
  rcases List.mem_append.mp hq with hq | hq
  · exact N' q (List.mem_append_left _ hq)
  · by_cases h : q.1 ∈ mach.map (·.1)
    · obtain ⟨p, hp, e⟩ := List.mem_map.mp h
      have e2 : p = q := Prod.ext e (by
        have h1 := (N p (hm p hp)).1
        rw [show p.1 = q.1 from e, (N q hq).1] at h1
        exact (Option.some.inj h1).symm)
      rw [← e2]
      exact N' p (List.mem_append_left _ (hkeep _ _ _ r p hp))
    · exact N' q (List.mem_append_right _ (List.mem_filter.mpr ⟨hq, decide_eq_true h⟩))
end
end
section
/-- the words that come one by one, till none comes -/
inductive Toks : List Nat → List (List Nat) → List Nat → Prop
  | nil {l r : List Nat} : lex l = ([], r) → Toks l [] r
  | cons {l r r' : List Nat} {x : List Nat} {ws : List (List Nat)} : lex l = (x, r) → x ≠ [] → Toks r ws r' → Toks l (x :: ws) r'

theorem inQ_suf : ∀ (l t : List Nat), ∃ j, (inQ t l).2 = l.drop j
  | [], t => ⟨0, by unfold inQ; rfl⟩
  | [c], t => by
    by_cases h1 : c = 34
    · subst h1; rw [inQ_q]; exact ⟨1, rfl⟩
    · by_cases h2 : c = 92
      · subst h2; rw [inQ_b0]; exact ⟨1, rfl⟩
      · rw [inQ_o h1 h2]; obtain ⟨j, e⟩ := inQ_suf [] (t ++ [c]); exact ⟨j + 1, e⟩
  | c :: d :: r, t => by
    by_cases h1 : c = 34
    · subst h1; rw [inQ_q]; exact ⟨1, rfl⟩
    · by_cases h2 : c = 92
      · subst h2; rw [inQ_b1]; obtain ⟨j, e⟩ := inQ_suf r (t ++ [d]); exact ⟨j + 2, e⟩
      · rw [inQ_o h1 h2]; obtain ⟨j, e⟩ := inQ_suf (d :: r) (t ++ [c]); exact ⟨j + 1, e⟩
theorem inB_suf : ∀ (l t : List Nat), ∃ j, (inB t l).2 = l.drop j
  | [], t => ⟨0, by unfold inB; rfl⟩
  | [c], t => by
    by_cases h1 : isW c = true
    · rw [inB_w h1]; exact ⟨1, rfl⟩
    · by_cases h2 : c = 92
      · subst h2; rw [inB_b0]; exact ⟨1, rfl⟩
      · rw [inB_o (by simpa using h1) h2]; obtain ⟨j, e⟩ := inB_suf [] (t ++ [c]); exact ⟨j + 1, e⟩
  | c :: d :: r, t => by
    by_cases h1 : isW c = true
    · rw [inB_w h1]; exact ⟨1, rfl⟩
    · by_cases h2 : c = 92
      · subst h2; rw [inB_b1]; obtain ⟨j, e⟩ := inB_suf r (t ++ [d]); exact ⟨j + 2, e⟩
      · rw [inB_o (by simpa using h1) h2]; obtain ⟨j, e⟩ := inB_suf (d :: r) (t ++ [c]); exact ⟨j + 1, e⟩
theorem lex_suf : ∀ (l : List Nat), ∃ j, (lex l).2 = l.drop j
  | [] => ⟨0, rfl⟩
  | c :: r => by
    by_cases h1 : isW c = true
    · rw [lex_w h1]; obtain ⟨j, e⟩ := lex_suf r; exact ⟨j + 1, e⟩
    · by_cases h2 : c = 34
      · subst h2; rw [lex_q]; obtain ⟨j, e⟩ := inQ_suf r []; exact ⟨j + 1, e⟩
      · by_cases h3 : c = 92
        · subst h3
          cases r with
          | nil => rw [lex_b0]; exact ⟨1, rfl⟩
          | cons d r => rw [lex_b1]; obtain ⟨j, e⟩ := inB_suf r [d]; exact ⟨j + 2, e⟩
        · rw [lex_o (by simpa using h1) h2 h3]; obtain ⟨j, e⟩ := inB_suf r [c]; exact ⟨j + 1, e⟩
theorem lex_at {l : List Nat} {k : Nat} {x r : List Nat} (h : lex (l.drop k) = (x, r)) : l.drop (l.length - r.length) = r ∧ l.length - r.length ≤ l.length := by
  obtain ⟨j, e⟩ := lex_suf (l.drop k)
  rw [h] at e
  have e' : r = l.drop (k + j) := by rw [← List.drop_drop]; exact e
  refine ⟨?_, Nat.sub_le _ _⟩
  rw [e', List.length_drop]
  by_cases hj : k + j ≤ l.length
  · rw [show l.length - (l.length - (k + j)) = k + j by omega]
  · rw [List.drop_eq_nil_of_le (by omega), List.drop_eq_nil_of_le (by omega)]
inductive OWords (w : World) (M : Mac) (l : List Nat) (n : Nat) (ws : List (List Nat)) (k : Nat) : Value → List (Addr × Obj) → Prop
  | mk (D : Addr) (vs : List Value) (kk : Nat) (tp' tl' : Tok) (hD : @LT.lt Nat _ M.pb D) (hs : StrsAre vs (ws.map str)) : OWords w M l n ws k (.ref D) ((D, listO vs kk) :: M.led w (k : Nat) tp' (lineAt l k) tl' [] n)
inductive JWs (w : World) (M : Mac) (l : List Nat) (D : Addr) (n : Nat) (ws : List (List Nat)) (r' : List Nat) (n' : Nat) : List (Str × Value) → List (Addr × Obj) → Prop
  | mk (k' : Nat) (x : List Nat) (done tail : List (List Nat)) (vs : List Value) (kk : Nat) (t tp tl : Tok) (h1 : k' ≤ l.length) (h2 : StrsAre vs (done.map str)) (h3 : done ++ tail = ws) (h4 : n' = tail.length) (h5 : (x = [] ∧ tail = [] ∧ l.drop k' = r') ∨ (x ≠ [] ∧ ∃ t, tail = x :: t ∧ Toks (l.drop k') t r')) :
    JWs w M l D n ws r' n' [(Str.ofString "machine", .ref M.mx), (Str.ofString "words", .ref D), (Str.ofString "word", .str (str x) t)] ((D, listO vs kk) :: M.led w (k' : Nat) tp (lineAt l k') tl [] n)
local macro_rules | `(tactic| walk_at "call builtin:list.append") => `(tactic| (k_dflt (refine' q_push ?k1 ?k2 ?k3 ?k4 ?_; (case k1 => k_asm); (case k2 => k_asm); (case k3 => k_upd); (case k4 => assumption); k_whole); intro h' F' N'))
theorem c_words (w : World) (M : Mac) (base : Heap) (l : List Nat) (hl : l.length ≤ 10000) (hsm : ∀ c ∈ l, c < 128) (O : M.Ord) (RS : ReadSpec w M base l) (k : Nat) (hk0 : k ≤ l.length) (tp tl : Tok) (n : Nat) (ws : List (List Nat)) (r' : List Nat) (hT : Toks (l.drop k) ws r') (hws : ws.length ≤ 1000) :
    Con w 142 [.ref M.mx] (M.led w k tp (lineAt l k) tl [] n) base 9 120 (fun _ => OWords w M l n ws (l.length - r'.length)) := by
  intro p loose mean mg mb dp un gd cn cs a ccd cl outer A₀ h₀ L m s Q B F X N T hk hdp hun hret
  revert X; k_fill; intro X
  k_dflt (refine' enterK B F X N T ?kA ?kF ?kK hret ?k6 ?k7 ?k8 ?k9 ?kB ?_ ?c5 ?c2 ?c3 ?c4; (case kA => exact rfl); (case kF => exact rfl); (case kK => assumption); (case k6 => k_is); (case k7 => k_is); (case k8 => ktr_room); (case k9 => exact BindsTo.of_eq rfl); (case c5 => decide); (case kB => exact locs rfl); (case c2 => exact rfl); (case c3 => exact rfl); (case c4 => exact rfl); k_whole)
  clear F X N T B hret
  intro g h₁ L' qk hL F N lt B X T st hq; (try dsimp only)
  dsimp only [Mac.led] at N
  have O' : M.Ord := O
  unfold Mac.Ord at O'
  k_steps
  rename Fr _ _ _ _ => F'; rename News _ _ _ _ => N'
  rename_i D hA lD hB
  have hD : @LT.lt Nat _ M.pb D := lD.1
  have hr : ∀ o : Obj, ∀ q ∈ [(D, o)], M.Free q.1 := fun o q hq => by rw [List.mem_singleton.mp hq]; exact free_gt O hD
  obtain ⟨x, r, hx⟩ : ∃ x r, lex (l.drop k) = (x, r) := ⟨_, _, rfl⟩
  obtain ⟨hd1, hd2⟩ := lex_at hx
  refine unhold (gt_use [(D, _)] hl hsm O RS hk0 B F' X T N' (hr _) rfl (by ktr_room) (by ktr_units) hx ?_)
  clear F' N'
  intro h5 k5 t5 tp5 tl5 F5 N5
  dsimp only [Mac.led, List.cons_append, List.nil_append] at N5
  k_steps
  rename Fr _ _ _ _ => F'; rename News _ _ _ _ => N'
  refine unhold (while_ov (JWs w M l D n ws r') ws.length _ F' (.cons rfl (.cons rfl (.cons rfl .nil))) N' ⟨_, x, [], ws, [], _, _, _, _, hd2, .nil, rfl, rfl, ?_⟩ ?_)
  · rw [hd1]
    cases hT with
    | nil h => rw [h] at hx; cases hx; exact .inl ⟨rfl, rfl, rfl⟩
    | cons h hne ht => rw [h] at hx; cases hx; exact .inr ⟨hne, _, rfl, ht⟩
  clear F' N'
  rintro n' ps led u h₂ tk₂ ⟨k', x', done, tail, vs, kk, t', tp', tl', hk', hvs, hdt, rfl, hcase⟩ F N
  dsimp only [ov] at F
  dsimp only [Mac.led] at N
  have hvl := hvs.len_eq
  rw [List.length_map] at hvl
  have hdl := congrArg List.length hdt
  rw [List.length_append] at hdl
  have hvz : vs.length ≤ 100000 := by omega
  k_steps
  · rename (str x' != Str.ofString "") = true => hne
    rcases hcase with ⟨rfl, -, -⟩ | ⟨hx', tl2, rfl, hT'⟩
    · exact absurd hne (by decide)
    · rename Fr _ _ _ _ => F'; rename News _ _ _ _ => N'
      obtain ⟨x2, r2, hx2⟩ : ∃ x r, lex (l.drop k') = (x, r) := ⟨_, _, rfl⟩
      obtain ⟨hd3, hd4⟩ := lex_at hx2
      refine unhold (gt_use [(D, _)] hl hsm O RS hk' B F' X T N' (hr _) rfl (by ktr_room) (by ktr_units) hx2 ?_)
      clear F' N'
      intro h6 k6 t6 tp6 tl6 F6 N6
      dsimp only [Mac.led, List.cons_append, List.nil_append] at N6
      k_steps
      rename Fr _ _ _ _ => F'; rename News _ _ _ _ => N'
      refine LoopStep.go tl2.length [(Str.ofString "machine", .ref M.mx), (Str.ofString "words", .ref D), (Str.ofString "word", .str (str x2) t6)] _ F' (.cons rfl (.cons rfl (.cons rfl .nil))) N' (fun _ h => h) (by simp) ⟨_, x2, done ++ [x'], tl2, vs ++ [.str (str x') t'], _, _, _, _, hd4, strs_snoc hvs, by rw [← hdt, List.append_assoc]; rfl, rfl, ?_⟩
      rw [hd3]
      cases hT' with
      | nil h => rw [h] at hx2; cases hx2; exact .inl ⟨rfl, rfl, rfl⟩
      | cons h hne ht => rw [h] at hx2; cases hx2; exact .inr ⟨hne, _, rfl, ht⟩
  · rename (str x' != Str.ofString "") = false => hne
    rcases hcase with ⟨rfl, rfl, hd5⟩ | ⟨hx', tl2, rfl, hT'⟩
    · have hk5 : l.length - r'.length = k' := back_to hk' hd5
      rw [List.append_nil] at hdt
      subst hdt
      dsimp only
      exact hq _ _ (leaveS _ _ F N (fun _ h => h) (by rw [hk5]; exact .mk _ _ _ _ _ hD hvs) hL)
    · exact absurd hne (by
        have h2 : ¬ str x' = Str.ofString "" := fun e => hx' (by
          have e' : x'.toArray = #[] := congrArg Str.cps e
          simpa using e')
        simp [bne, beq_eq_false_iff_ne.mpr h2])
end
section
theorem mem_mid3 {a b c : List (Addr × Obj)} : ∀ p ∈ a ++ (b ++ c), p ∈ (a ++ c) ++ b := fun p hp => by
  rcases List.mem_append.mp hp with h | h
  · exact List.mem_append_left _ (List.mem_append_left _ h)
  · rcases List.mem_append.mp h with h | h
    · exact List.mem_append_right _ h
    · exact List.mem_append_left _ (List.mem_append_right _ h)
theorem mem_mid4 {a b c : List (Addr × Obj)} : ∀ p ∈ (a ++ c) ++ b, p ∈ a ++ (b ++ c) := fun p hp => by
  rcases List.mem_append.mp hp with h | h
  · rcases List.mem_append.mp h with h | h
    · exact List.mem_append_left _ h
    · exact List.mem_append_right _ (List.mem_append_right _ h)
  · exact List.mem_append_right _ (List.mem_append_left _ h)
section
variable {w : World} {p : Program} {loose : List Str} {mean : ExcName → Option Value} {mg mb : Str → Option Value} {dp un : Nat} {gd : Option (List Code)} {cn : Str} {cs : Scope} {a : Addr} {ccd : Value} {cl : List (Str × Addr)} {outer : List Env} {A₀ : Around} {base g : Heap} {L : Addr} {m : Str → Option Value} {s : Shared} {E : Value → Shared → Prop}
theorem gt_mid {M : Mac} {l : List Nat} {k : Nat} {tp tl : Tok} {n : Nat} {x r : List Nat} {Q : Value → Shared → Prop} (pre tups : List (Addr × Obj)) (hl : l.length ≤ 10000) (hsm : ∀ c ∈ l, c < 128) (O : M.Ord) (RS : ReadSpec w M base l) (hk : k ≤ l.length)
    (B : Below A₀ base outer g) (F : Fr g L s.heap m) (X : (hd.heap_39 w.params).In g) (T : Top p loose mean mg mb g) (N : News g L s.heap (pre ++ (M.led w k tp (lineAt l k) tl [] n ++ tups))) (hr : ∀ q ∈ pre, M.Free q.1) (ht : ∀ q ∈ tups, M.Free q.1)
    (hck : cs.kind = .function) (hdp : dp + 7 < recursionLimit) (hun : un + 90 < cLine) (e : lex (l.drop k) = (x, r))
    (ret : ∀ h' tk' t' tp' tl', Fr g L h' m → News g L h' (pre ++ (M.led w (l.length - r.length : Nat) tp' (lineAt l (l.length - r.length)) tl' [] n ++ tups)) → Q (.str (str x) t') { s with heap := h', toks := tk' }) :
    wpAny (model rw_sn0010_01.row.prog w) (ktrTop dp un gd cn cs L a ccd cl outer) (call (.ref 85) [.ref M.mx]) Q E s :=
  gt_use (pre ++ tups) hl hsm O RS hk B F X T (fun p hp => N p (mem_mid4 p hp)) (fun q hq => (List.mem_append.mp hq).elim (hr q) (ht q)) hck hdp hun e fun h' tk' t' tp' tl' F' N' => ret h' tk' t' tp' tl' F' fun p hp => N' p (mem_mid3 p hp)
theorem pop_mid {M : Mac} {k : Int} {tp tl : Tok} {line : Int} {v : Value} {q : List Value} {n : Nat} {Q : Value → Shared → Prop} (pre tups : List (Addr × Obj)) (O : M.Ord)
    (B : Below A₀ base outer g) (F : Fr g L s.heap m) (X : (hd.heap_39 w.params).In g) (T : Top p loose mean mg mb g) (N : News g L s.heap (pre ++ (M.led w k tp line tl (v :: q) n ++ tups))) (hr : ∀ q ∈ pre, M.Free q.1) (ht : ∀ q ∈ tups, M.Free q.1) (hz : (v :: q).length ≤ 100000)
    (hck : cs.kind = .function) (hdp : dp + 7 < recursionLimit) (hun : un + 90 < cLine)
    (ret : ∀ h' tk' n', Fr g L h' m → News g L h' (pre ++ (M.led w k tp line tl q n' ++ tups)) → Q v { s with heap := h', toks := tk' }) :
    wpAny (model rw_sn0010_01.row.prog w) (ktrTop dp un gd cn cs L a ccd cl outer) (call (.ref 85) [.ref M.mx]) Q E s :=
  pop_use (pre ++ tups) O B F X T (fun p hp => N p (mem_mid4 p hp)) (fun q hq => (List.mem_append.mp hq).elim (hr q) (ht q)) hz hck hdp hun fun h' tk' n' F' N' => ret h' tk' n' F' fun p hp => N' p (mem_mid3 p hp)
theorem push_mid {M : Mac} {k : Int} {tp tl : Tok} {line : Int} {v : Value} {q : List Value} {n : Nat} {Q : Value → Shared → Prop} (pre tups : List (Addr × Obj)) (O : M.Ord)
    (B : Below A₀ base outer g) (F : Fr g L s.heap m) (X : (hd.heap_39 w.params).In g) (T : Top p loose mean mg mb g) (N : News g L s.heap (pre ++ (M.led w k tp line tl q n ++ tups))) (hr : ∀ q ∈ pre, M.Free q.1) (ht : ∀ q ∈ tups, M.Free q.1) (hz : q.length ≤ 100000)
    (hck : cs.kind = .function) (hdp : dp + 7 < recursionLimit) (hun : un + 90 < cLine)
    (ret : ∀ h' tk' n', Fr g L h' m → News g L h' (pre ++ (M.led w k tp line tl (q ++ [v]) n' ++ tups)) → Q .none { s with heap := h', toks := tk' }) :
    wpAny (model rw_sn0010_01.row.prog w) (ktrTop dp un gd cn cs L a ccd cl outer) (call (.ref 92) [.ref M.mx, v]) Q E s :=
  push_use (pre ++ tups) O B F X T (fun p hp => N p (mem_mid4 p hp)) (fun q hq => (List.mem_append.mp hq).elim (hr q) (ht q)) hz hck hdp hun fun h' tk' n' F' N' => ret h' tk' n' F' fun p hp => N' p (mem_mid3 p hp)
end
end
section
open PySem.SeqAt
noncomputable abbrev Lt := Int × Int × Int
/-- these references are to these lights -/
inductive Refs (led : List (Addr × Obj)) : List Value → List Lt → Prop
  | nil : Refs led [] []
  | cons {a : Addr} {r g b : Int} {t1 t2 t3 : Tok} {n : Nat} {vs : List Value} {ls : List Lt} : (a, tup3 r g b t1 t2 t3 n) ∈ led → Refs led vs ls → Refs led (.ref a :: vs) ((r, g, b) :: ls)
theorem Refs.mono {led led' : List (Addr × Obj)} {vs : List Value} {ls : List Lt} (h : Refs led vs ls) (hs : ∀ p ∈ led, p ∈ led') : Refs led' vs ls := by
  induction h with
  | nil => exact .nil
  | cons h _ ih => exact .cons (hs _ h) ih
theorem Refs.len {led : List (Addr × Obj)} {vs : List Value} {ls : List Lt} (h : Refs led vs ls) : vs.length = ls.length := by
  induction h with
  | nil => rfl
  | cons _ _ ih => rw [List.length_cons, List.length_cons, ih]
theorem Refs.snoc {led : List (Addr × Obj)} {vs : List Value} {ls : List Lt} {a : Addr} {r g b : Int} {t1 t2 t3 : Tok} {n : Nat} (h : Refs led vs ls) (hm : (a, tup3 r g b t1 t2 t3 n) ∈ led) : Refs led (vs ++ [.ref a]) (ls ++ [(r, g, b)]) := by
  induction h with
  | nil => exact .cons hm .nil
  | cons h _ ih => exact .cons h ih
theorem Refs.get {led : List (Addr × Obj)} {vs : List Value} {ls : List Lt} (h : Refs led vs ls) {i : Nat} {v : Value} (hv : vs[i]? = some v) : ∃ a r g b t1 t2 t3 n, v = .ref a ∧ (a, tup3 r g b t1 t2 t3 n) ∈ led ∧ ls[i]? = some (r, g, b) := by
  induction h generalizing i with
  | nil => simp at hv
  | cons h _ ih =>
    cases i with
    | zero => simp at hv; subst hv; exact ⟨_, _, _, _, _, _, _, _, rfl, h, rfl⟩
    | succ i => exact ih (by simpa using hv)
inductive RefAt (led : List (Addr × Obj)) (ls : List Lt) (i : Nat) (v : Value) : Prop
  | mk (a : Addr) (r g b : Int) (t1 t2 t3 : Tok) (n : Nat) (hv : v = .ref a) (hm : (a, tup3 r g b t1 t2 t3 n) ∈ led) (hl : ls[i]? = some (r, g, b)) : RefAt led ls i v
theorem Refs.getR {led : List (Addr × Obj)} {vs : List Value} {ls : List Lt} (h : Refs led vs ls) {i : Nat} {v : Value} (hv : vs[i]? = some v) : RefAt led ls i v := by
  obtain ⟨a, r, g, b, t1, t2, t3, n, h1, h2, h3⟩ := h.get hv
  exact ⟨a, r, g, b, t1, t2, t3, n, h1, h2, h3⟩
theorem Refs.drop1 {led : List (Addr × Obj)} {vs : List Value} {ls : List Lt} (h : Refs led vs ls) : Refs led (vs.drop 1) (ls.drop 1) := by
  cases h with
  | nil => exact .nil
  | cons _ h => exact h
noncomputable def lightOf (o : Obj) : Option Lt := match o.data with
  | .seq xs _ => (match xs.toList with | [.int r _, .int g _, .int b _] => some (r, g, b) | _ => none)
  | _ => none
section
variable {prog : Program} {w : World} {A : Around} {E : Value → Shared → Prop} {s : Shared} {g : Heap} {L : Addr} {m : Str → Option Value} {led led' : List (Addr × Obj)}
theorem q_ne_nil {D D2 : Addr} {vs : List Value} {k k2 : Nat} {Q : Value → Shared → Prop} (N : News g L s.heap led) (hm : (D, listO vs k) ∈ led) (hm2 : (D2, listO [] k2) ∈ led) (hu : A.units < cLine) (h : Q (.bool (!vs.isEmpty)) s) :
    wpAny (model prog w) A (compareOp .NotEq (.ref D) (.ref D2)) Q E s := by
  have h1 := News.isList N hm
  have h2 := News.isList N hm2
  cases vs with
  | nil => exact RcNeAt.lists (e := fun _ => true) h1 h2 rfl hu (fun j hj _ => absurd hj (by simp)) prog w E Q (by simpa using h)
  | cons v r => exact RcNeAt.lists_lengths h1 h2 (by simp) hu prog w E Q h
theorem q_item {value slice : Expr} {D : Addr} {vs : List Value} {k : Nat} {i : Int} {u : Tok} {x : Value} {Q : Value → Shared → Prop} (N : News g L s.heap led) (hm : (D, listO vs k) ∈ led) (h0 : 0 ≤ i) (hfit : i < 2 ^ 63) (hx : vs[i.toNat]? = some x) (h : Q x s)
    (hs : subscripted slice false (.ref D) (.int i u) = operate [.ref D, .int i u] (getItem (.ref D) (.int i u)) := by with_unfolding_all rfl) (hg : ∀ r, letTemporaryGo value (.ref D) r = pure () := by intro _; with_unfolding_all rfl) :
    wpAny (model prog w) A (subscriptTail value slice (.ref D) (.int i u)) Q E s := item_listL (News.isList N hm) h0 hfit hx h hs hg
theorem q_in_ints {D : Addr} {vs : List Value} {ns : List Int} {k : Nat} {i : Int} {u : Tok} {Q : Value → Shared → Prop} (N : News g L s.heap led) (hm : (D, listO vs k) ∈ led) (hi : IntsAre vs ns) (h : Q (.bool (ns.contains i)) s) :
    wpAny (model prog w) A (compareOp .In (.int i u) (.ref D)) Q E s := by
  refine in_listAt (fun v => match v with | .int j _ => j == i | _ => false) (News.isList N hm) (fun y hy => ?_) ?_
  · have hy' : y ∈ vs := by simpa using hy
    have : ∃ j t, y = .int j t := by
      clear h hm hy
      induction hi with
      | nil => cases hy'
      | cons n t _ ih =>
        rcases List.mem_cons.mp hy' with rfl | hy'
        · exact ⟨n, t, rfl⟩
        · exact ih hy'
    obtain ⟨j, t, rfl⟩ := this
    exact (MeetsSeq.EqGives.int j i t u).at _ _
  · have e : vs.toArray.any (fun v => match v with | .int j _ => j == i | _ => false) = ns.contains i := by
      rw [List.any_toArray]
      clear h hm
      induction hi with
      | nil => rfl
      | cons n t _ ih => rw [List.any_cons, ih, List.contains_cons]; show (n == i || _) = (i == n || _); rw [show (n == i) = (i == n) from BEq.comm]
    rw [e]; exact h
theorem q_notIn {D a : Addr} {vs : List Value} {ls : List Lt} {k n : Nat} {r c b : Int} {t1 t2 t3 : Tok} {Q : Value → Shared → Prop} (N : News g L s.heap led) (hm : (D, listO vs k) ∈ led) (hr : Refs led vs ls) (hx : (a, tup3 r c b t1 t2 t3 n) ∈ led) (hu : A.in1.units < cLine) (h : Q (.bool (!ls.contains (r, c, b))) s) :
    wpAny (model prog w) A (compareOp .NotIn (.ref a) (.ref D)) Q E s := by
  have ha := (N _ hx).1
  refine notIn_listAt (fun v => match v with | .ref a' => (s.heap.get? a').bind lightOf == some (r, c, b) | _ => false) (News.isList N hm) (fun y hy => ?_) ?_
  · have hy' : y ∈ vs := by simpa using hy
    obtain ⟨i, hi⟩ := List.mem_iff_getElem?.mp hy'
    obtain ⟨a', r', c', b', t1', t2', t3', n', rfl, hm', -⟩ := hr.get hi
    have ha' := (N _ hm').1
    dsimp only
    rw [ha']
    show EqAt A.in1 s (.ref a') (.ref a) (some (r', c', b') == some (r, c, b))
    by_cases e : a' = a
    · subst e
      rw [ha] at ha'
      have e2 : (some (r', c', b') : Option Lt) = some (r, c, b) := by
        have := congrArg lightOf (Option.some.inj ha'.symm)
        exact this
      rw [e2, beq_self_eq_true]
      exact EqAt.same _
    · have h1 : s.heap.IsTuple a' #[.int r' t1', .int c' t2', .int b' t3'] := ⟨_, ha', rfl, _, rfl⟩
      have h2 : s.heap.IsTuple a #[.int r t1, .int c t2, .int b t3] := ⟨_, ha, rfl, _, rfl⟩
      have key := RcAt.tuples (A := A.in1) (e := fun j => match j with | 0 => r' == r | 1 => c' == c | _ => b' == b) h1 h2 hu (fun j hj _ => by
        have : j = 0 ∨ j = 1 ∨ j = 2 := by have : j < 3 := hj; omega
        rcases this with rfl | rfl | rfl
        · exact (MeetsSeq.EqGives.int r' r _ _).at _ _
        · exact (MeetsSeq.EqGives.int c' c _ _).at _ _
        · exact (MeetsSeq.EqGives.int b' b _ _).at _ _)
      have e3 : (some (r', c', b') == some (r, c, b)) = ((List.range (min (#[Value.int r' t1', .int c' t2', .int b' t3'] : Array Value).size (#[Value.int r t1, .int c t2, .int b t3] : Array Value).size)).all (fun j => match j with | 0 => r' == r | 1 => c' == c | _ => b' == b) && (#[Value.int r' t1', .int c' t2', .int b' t3'] : Array Value).size == (#[Value.int r t1, .int c t2, .int b t3] : Array Value).size) := by
        show (r' == r && (c' == c && b' == b)) = ((r' == r && (c' == c && (b' == b && true))) && true)
        simp
      rw [e3]
      exact EqAt.of_refs e key
  · have e : vs.toArray.any (fun v => match v with | .ref a' => (s.heap.get? a').bind lightOf == some (r, c, b) | _ => false) = ls.contains (r, c, b) := by
      rw [List.any_toArray]
      clear h hm
      induction hr with
      | nil => rfl
      | cons hm' _ ih =>
        rw [List.any_cons, ih, List.contains_cons]
        dsimp only
        rw [(N _ hm').1]
        congr 1
        exact BEq.comm
    rw [e]; exact h
theorem q_slice1 {value slice : Expr} {D : Addr} {vs : List Value} {k : Nat} {u : Tok} {Q : Value → Shared → Prop} (F : Fr g L s.heap m) (N : News g L s.heap led) (hm : (D, listO vs k) ∈ led) (hz : vs.length ≤ 100000)
    (h : ∀ D' h', Fr g L h' m → News g L h' ((D', listO (vs.drop 1) 0) :: led) → (∀ p ∈ led, p.1 < D') → Q (.ref D') { s with heap := h' })
    (hs : subscripted slice false (.ref D) (.ref s.heap.objs.size) = operate [.ref s.heap.objs.size, .ref D] (getItem (.ref D) (.ref s.heap.objs.size)) := by with_unfolding_all rfl) (ht : ∀ r, letTemporaryGo value (.ref D) r = pure () := by intro _; with_unfolding_all rfl) :
    wpAny (model prog w) A (subscriptTail value slice (.ref D) (.ref s.heap.objs.size)) Q E { s with heap := s.heap.push { cls := .type "slice", data := .fields #[.int 1 u, .none, .none] } } :=
  kms_slice_lit (lo := some 1) (hi := none) (zs := vs.drop 1) F N (News.isList N hm) (by constructor) (by constructor) (by
    unfold kms_pick
    show (vs.drop (kms_lo (some 1) vs.length)).take (kms_hi none vs.length - kms_lo (some 1) vs.length) = vs.drop 1
    cases vs with
    | nil => rfl
    | cons v r =>
      show ((v :: r).drop (min 1 (r.length + 1))).take (r.length + 1 - min 1 (r.length + 1)) = r
      rw [show min 1 (r.length + 1) = 1 by omega]
      show r.take (r.length + 1 - 1) = r
      rw [Nat.add_sub_cancel, List.take_length]) h hs ht (by show vs.length ≤ 16777216; omega)
end
end
section
noncomputable def sidesL (l : Lt) : List Int := sidesOf l.1 l.2.1 l.2.2
noncomputable def touchL (a b : Lt) : Bool := touchV (b.1 - a.1) (b.2.1 - a.2.1) (b.2.2 - a.2.2) == 6
theorem filt_len {α : Type} (p : α → Bool) : ∀ l : List α, (l.filter p).length + (l.filter fun o => !p o).length = l.length
  | [] => rfl
  | x :: r => by
    have ih := filt_len p r
    cases h : p x with
    | true => rw [List.filter_cons_of_pos h, List.filter_cons_of_neg (by simp [h])]; simp only [List.length_cons]; omega
    | false => rw [List.filter_cons_of_neg (by simp [h]), List.filter_cons_of_pos (by simp [h])]; simp only [List.length_cons]; omega
noncomputable def nearL (c : Lt) (left : List Lt) : List Lt := left.filter (touchL c)
noncomputable def farL (c : Lt) (left : List Lt) : List Lt := left.filter fun o => !touchL c o
theorem near_far (c : Lt) (left : List Lt) : (nearL c left).length + (farL c left).length = left.length := filt_len (touchL c) left
noncomputable def bfs (left queue : List Lt) (sides : List Int) : List Lt × List Int :=
  match queue with
  | [] => (left, sides)
  | c :: q => bfs (farL c left) (q ++ nearL c left) (sides ++ sidesL c)
termination_by 2 * left.length + queue.length
decreasing_by
  have := near_far c left
  rw [List.length_append, List.length_cons]
  omega
noncomputable def joinedF : Nat → List Lt → Bool → Bool
  | 0, _, acc => acc
  | _ + 1, [], acc => acc
  | n + 1, c :: rest, acc => joinedF n (bfs rest [c] []).1 (if ((bfs rest [c] []).2.any (fun x => x == 0) && ((bfs rest [c] []).2.any (fun x => x == 1) && (bfs rest [c] []).2.any (fun x => x == 2))) = true then true else acc)
theorem bfs_nil (left : List Lt) (sides : List Int) : bfs left [] sides = (left, sides) := by rw [bfs]
theorem bfs_cons (left q : List Lt) (c : Lt) (sides : List Int) : bfs left (c :: q) sides = bfs (farL c left) (q ++ nearL c left) (sides ++ sidesL c) := by rw [bfs]
theorem bfs_sub : ∀ (n : Nat) (left queue : List Lt) (sides : List Int), 2 * left.length + queue.length ≤ n → (∀ x ∈ (bfs left queue sides).1, x ∈ left) ∧ (bfs left queue sides).1.length ≤ left.length := by
  intro n
  induction n with
  | zero =>
    intro left queue sides h
    have : queue = [] := List.eq_nil_of_length_eq_zero (by omega)
    subst this
    rw [bfs_nil]; exact ⟨fun _ h => h, Nat.le_refl _⟩
  | succ n ih =>
    intro left queue sides h
    cases queue with
    | nil => rw [bfs_nil]; exact ⟨fun _ h => h, Nat.le_refl _⟩
    | cons c q =>
      rw [bfs_cons]
      have hl := near_far c left
      obtain ⟨h1, h2⟩ := ih (farL c left) (q ++ nearL c left) (sides ++ sidesL c) (by rw [List.length_append]; rw [List.length_cons] at h; omega)
      exact ⟨fun x hx => (List.mem_filter.mp (h1 x hx)).1, by omega⟩
end
section
section
variable {prog : Program} {w : World} {A : Around} {E : Value → Shared → Prop} {s : Shared} {g : Heap} {L : Addr} {m : Str → Option Value} {led led' : List (Addr × Obj)}
theorem q_extend {D b : Addr} {vs ys : List Value} {k kb : Nat} {Q : Value → Shared → Prop} (F : Fr g L s.heap m) (N : News g L s.heap led) (hb : (b, listO ys kb) ∈ led) (hz : vs.length + ys.length ≤ 100000) (U : ∀ k', ∃ led', Upd D (listO vs k) (listO (vs ++ ys) k') led led')
    (h : ∀ h' k' led', Upd D (listO vs k) (listO (vs ++ ys) k') led led' → Fr g L h' m → News g L h' led' → Q .none { s with heap := h' }) :
    wpAny (model prog w) A (call (.builtin "list.extend") [.ref D, .ref b]) Q E s := by
  have hnl : ¬ (!vs.toArray.isEmpty && Builtin.List.listTooLong (vs.toArray.size + ys.toArray.size)) = true := by
    intro e
    have h2 : Builtin.List.listTooLong (vs.toArray.size + ys.toArray.size) = true := by
      revert e; cases (!vs.toArray.isEmpty) <;> simp
    have h3 : vs.toArray.size + ys.toArray.size > sizeLine := of_decide_eq_true h2
    have h4 : vs.toArray.size + ys.toArray.size ≤ 100000 := by simp only [List.size_toArray]; exact hz
    have h5 : sizeLine = 16777216 := rfl
    omega
  cases hy : ys with
  | nil =>
    subst hy
    obtain ⟨led', U'⟩ := U k
    refine kxn_extend (its := vs.toArray) (its2 := ([] : List Value).toArray) F N hb rfl (news' := led') (by rw [List.append_nil] at U'; exact U') hnl (by show vs.length ≤ 16777216; omega) (by show _ ≤ 16777216 + 1; simp only [List.size_toArray]; omega) fun h' F' N' => h h' k led' U' F' N'
  | cons y r =>
    subst hy
    obtain ⟨led', U'⟩ := U (k + 1)
    refine kl_extend (its := vs.toArray) (its2 := (y :: r).toArray) (l := vs ++ y :: r) F N hb rfl (by simp) U' hnl (by show vs.length ≤ 16777216; omega) (by show _ ≤ 16777216 + 1; simp only [List.size_toArray]; omega) fun h' F' N' => h h' (k + 1) led' U' F' N'
theorem q_extend1 {D b : Addr} {vs ys : List Value} {k kb : Nat} {r : List (Addr × Obj)} {Q : Value → Shared → Prop} (F : Fr g L s.heap m) (N : News g L s.heap ((D, listO vs k) :: r)) (hr : ∀ p ∈ r, p.1 ≠ D) (hb : (b, listO ys kb) ∈ r) (hz : vs.length + ys.length ≤ 100000)
    (h : ∀ h' k', Fr g L h' m → News g L h' ((D, listO (vs ++ ys) k') :: r) → Q .none { s with heap := h' }) :
    wpAny (model prog w) A (call (.builtin "list.extend") [.ref D, .ref b]) Q E s :=
  q_extend F N (.tail _ hb) hz (fun k' => ⟨_, .head hr⟩) fun h' k' led' U F' N' => by
    cases U with
    | head _ => exact h _ _ F' N'
    | tail hne _ => exact absurd rfl hne
end
end
section
noncomputable def wordOf (l : Lt) : List Nat := (i2a 3 (256 * l.1 + 16 * l.2.1 + l.2.2)).toList.map (·.toNat)
noncomputable def cells : List Lt := [(12, 0, 0), (9, 3, 0), (9, 0, 3), (6, 6, 0), (6, 3, 3), (6, 0, 6), (3, 9, 0), (3, 6, 3), (3, 3, 6), (3, 0, 9), (0, 12, 0), (0, 9, 3), (0, 6, 6), (0, 3, 9), (0, 0, 12)]
structure Good (l : Lt) : Prop where
  b : (0 ≤ l.1 ∧ l.1 ≤ 12 ∧ 0 ≤ l.2.1 ∧ l.2.1 ≤ 12 ∧ 0 ≤ l.2.2 ∧ l.2.2 ≤ 12)
  c : 0 ≤ 256 * l.1 + 16 * l.2.1 + l.2.2 ∧ 256 * l.1 + 16 * l.2.1 + l.2.2 < 4096
  n : ((num (wordOf l)).fdiv 256, ((num (wordOf l)).fdiv 16).fmod 16, (num (wordOf l)).fmod 16) = l
  w : wordOf l ≠ [] ∧ (wordOf l).length ≤ 3
  na : Float64.isNaN (Float64.mul (Float64.ofInt 18) (hF l.1 l.2.1 l.2.2)) = false
  inf : Float64.isInf (Float64.mul (Float64.ofInt 18) (hF l.1 l.2.1 l.2.2)) = false
theorem good_cells : ∀ l ∈ cells, Good l := by
  have h1 : ∀ l ∈ cells, (0 ≤ l.1 ∧ l.1 ≤ 12 ∧ 0 ≤ l.2.1 ∧ l.2.1 ≤ 12 ∧ 0 ≤ l.2.2 ∧ l.2.2 ≤ 12) := by decide +kernel
  have h2 : ∀ l ∈ cells, 0 ≤ 256 * l.1 + 16 * l.2.1 + l.2.2 ∧ 256 * l.1 + 16 * l.2.1 + l.2.2 < 4096 := by decide +kernel
  have h3 : ∀ l ∈ cells, ((num (wordOf l)).fdiv 256, ((num (wordOf l)).fdiv 16).fmod 16, (num (wordOf l)).fmod 16) = l := by decide +kernel
  have h4 : ∀ l ∈ cells, wordOf l ≠ [] ∧ (wordOf l).length ≤ 3 := by decide +kernel
  have h5 : ∀ l ∈ cells, Float64.isNaN (Float64.mul (Float64.ofInt 18) (hF l.1 l.2.1 l.2.2)) = false := by decide +kernel
  have h6 : ∀ l ∈ cells, Float64.isInf (Float64.mul (Float64.ofInt 18) (hF l.1 l.2.1 l.2.2)) = false := by decide +kernel
  exact fun l h => ⟨h1 l h, h2 l h, h3 l h, h4 l h, h5 l h, h6 l h⟩
theorem i2a_size (n : Int) : ∀ k, (i2a k n).size ≤ k := by
  intro k
  induction k generalizing n with
  | zero => exact Nat.le_refl _
  | succ k ih =>
    unfold i2a
    split
    · exact Nat.zero_le _
    · rw [Array.size_append]; have := ih (n / 16); show _ + 1 ≤ _; omega
theorem mem_mid {A B : List (Addr × Obj)} {x : Addr × Obj} : ∀ p, p ∈ A ++ x :: B → p ∈ [x] ++ (A ++ B) := fun p hp => by
  rcases List.mem_append.mp hp with h | h
  · exact List.mem_append_right [x] (List.mem_append_left _ h)
  · rcases List.mem_cons.mp h with rfl | h
    · exact .head _
    · exact List.mem_append_right [x] (List.mem_append_right _ h)
noncomputable def JOff (M : Mac) (a1 a2 Dw a : Addr) : Prop := @Ne Nat a a1 ∧ @Ne Nat a a2 ∧ @Ne Nat a Dw ∧ M.Free a
noncomputable def JO (M : Mac) (a1 a2 a : Addr) : Prop := @Ne Nat a a1 ∧ @Ne Nat a a2 ∧ M.Free a
theorem off1_mem {D : Addr} : ∀ {l : List (Addr × Obj)}, LCg.Off1 D l → ∀ p ∈ l, @Ne Nat p.1 D
  | [], _, _, h => nomatch h
  | _ :: _, x, p, h => by
    rcases List.mem_cons.mp h with rfl | h
    · exact x.1
    · exact off1_mem x.2 p h
theorem allLt_ne {d : Addr} : ∀ {l : List (Addr × Obj)}, AllLt d l → ∀ q ∈ l, @Ne Nat q.1 d
  | [], _, _, h => nomatch h
  | _ :: _, x, q, h => by
    rcases List.mem_cons.mp h with rfl | h
    · exact Nat.ne_of_lt x.1
    · exact allLt_ne x.2 q h
theorem free_off {w : World} {M : Mac} {p : Int} {tp : Tok} {line : Int} {tl : Tok} {q : List Value} {n : Nat} {a : Addr} (hm : ∀ z ∈ M.led w p tp line tl q n, @Ne Nat a z.1) : M.Free a := by
  simp only [Mac.led, List.forall_mem_cons] at hm
  exact ⟨hm.1, hm.2.1, hm.2.2.1, hm.2.2.2.1, hm.2.2.2.2.1, hm.2.2.2.2.2.1, hm.2.2.2.2.2.2.1, hm.2.2.2.2.2.2.2.1, hm.2.2.2.2.2.2.2.2.1, hm.2.2.2.2.2.2.2.2.2.1⟩
theorem sides_len (r g b : Int) : (sidesOf r g b).length ≤ 3 := by
  unfold sidesOf
  split
  · exact Nat.zero_le _
  · exact List.length_filter_le _ _
inductive JOut (w : World) (M : Mac) (l : List Nat) (a1 a2 : Addr) (RES : Bool) (n : Nat) : List (Str × Value) → List (Addr × Obj) → Prop
  | mk (DL : Addr) (vsl : List Value) (kl : Nat) (lsl : List Lt) (jb : Bool) (tups : List (Addr × Obj)) (o1 o2 : Obj) (tp tl : Tok) (nq : Nat) (c1 c2 : Option Value) (h1 : Refs tups vsl lsl) (h2 : ∀ q ∈ tups, JO M a1 a2 q.1) (h3 : M.Free DL) (h4 : ∀ x ∈ lsl, Good x) (h5 : lsl.length ≤ n) (h6 : n ≤ 15) (h7 : joinedF n lsl jb = RES) (h8 : o1.data = .cell c1) (h9 : o2.data = .cell c2) :
    JOut w M l a1 a2 RES n [(Str.ofString "machine", .ref M.mx), (Str.ofString "left", .ref DL), (Str.ofString "joined", .bool jb)] ((DL, listO vsl kl) :: (a1, o1) :: (a2, o2) :: (M.led w (l.length : Nat) tp (lineAt l l.length) tl [] nq ++ tups))
theorem c_code (w : World) (base : Heap) (a0 : Addr) (cr cg cb : Int) (t1 t2 t3 : Tok) (n0 : Nat) (h0 : 0 ≤ 256 * cr + 16 * cg + cb) (h1 : 256 * cr + 16 * cg + cb < 4096) : Con w 123 [.ref a0] [(a0, tup3 cr cg cb t1 t2 t3 n0)] base 4 40 (fun _ => OByt (i2a 3 (256 * cr + 16 * cg + cb)) [(a0, tup3 cr cg cb t1 t2 t3 n0)]) := by
  intro p loose mean mg mb dp un gd cn cs a ccd cl outer A₀ h₀ L m s Q B F X N T hk hdp hun hret
  revert X; k_fill; intro X
  k_dflt (refine' enterK B F X N T ?kA ?kF ?kK hret ?k6 ?k7 ?k8 ?k9 ?kB ?_ ?c5 ?c2 ?c3 ?c4; (case kA => exact rfl); (case kF => exact rfl); (case kK => assumption); (case k6 => k_is); (case k7 => k_is); (case k8 => ktr_room); (case k9 => exact BindsTo.of_eq rfl); (case c5 => decide); (case kB => exact locs rfl); (case c2 => exact rfl); (case c3 => exact rfl); (case c4 => exact rfl); k_whole)
  clear F X N T B hret
  intro g h₁ L' qk hL F N lt B X T st hq; (try dsimp only)
  k_steps
  refine unhold (con_use (c_Int2AP w base _ _ h0 h1) B F X T _ _ N (fun _ h => nomatch h) (fun _ h => h) (fun _ _ h => nomatch h) rfl (by ktr_room) (by ktr_units) ?_)
  rintro v mach' h5 k5 ⟨rfl, t, rfl⟩ F5 N5 - hz5
  exact hq _ _ (leaveS _ _ F5 N5 (fun _ h => h) (.mk t) hL)
inductive JIn (w : World) (M : Mac) (l : List Nat) (a1 a2 S : Addr) (jb : Bool) (RES : List Lt × List Int) (n : Nat) : List (Str × Value) → List (Addr × Obj) → Prop
  | mk (DL : Addr) (vsl : List Value) (kl : Nat) (lsl : List Lt) (vss : List Value) (ks : Nat) (sd : List Int) (qv : List Value) (lq : List Lt) (x : List Nat) (tx : Tok) (tups : List (Addr × Obj)) (o1 o2 : Obj) (tp tl : Tok) (nq : Nat) (c1 c2 : Option Value) (h1 : Refs tups vsl lsl) (h2 : ∀ q ∈ tups, JO M a1 a2 q.1 ∧ @Ne Nat q.1 S) (h3 : M.Free DL) (h4 : @Ne Nat DL S ∧ @Ne Nat DL a1 ∧ @Ne Nat DL a2) (h5 : ∀ x ∈ lsl, Good x) (h6 : ∀ x ∈ lq, Good x)
    (h7 : IntsAre vss sd) (h8 : StrsAre qv ((lq.map wordOf).map str)) (h9 : o1.data = .cell c1) (h10 : o2.data = .cell c2) (h11 : n ≤ 40) (h12 : sd.length + 3 * n ≤ 400)
    (h13 : (x = [] ∧ lq = [] ∧ bfs lsl [] sd = RES ∧ n = 2 * lsl.length) ∨ (∃ c, x = wordOf c ∧ Good c ∧ bfs lsl (c :: lq) sd = RES ∧ n = 2 * lsl.length + lq.length + 1)) :
    JIn w M l a1 a2 S jb RES n [(Str.ofString "machine", .ref M.mx), (Str.ofString "left", .ref DL), (Str.ofString "joined", .bool jb), (Str.ofString "sides", .ref S), (Str.ofString "word", .str (str x) tx)]
      ((S, listO vss ks) :: (DL, listO vsl kl) :: (a1, o1) :: (a2, o2) :: (M.led w (l.length : Nat) tp (lineAt l l.length) tl qv nq ++ tups))
theorem ints_len {vs : List Value} {ns : List Int} (h : IntsAre vs ns) : vs.length = ns.length := by
  induction h with
  | nil => rfl
  | cons _ _ _ ih => rw [List.length_cons, List.length_cons, ih]
theorem list_ne_tup {g : Heap} {L : Addr} {h : Heap} {led : List (Addr × Obj)} {D a : Addr} {ys xs : List Value} {k : Nat} (N : News g L h led) (h1 : (D, listO ys k) ∈ led) (h2 : (a, tupO xs) ∈ led) : @Ne Nat D a := fun e => by
  have h1 := (N _ h1).1
  have h2 := (N _ h2).1
  have e : D = a := e
  subst e
  rw [h1] at h2
  exact absurd (congrArg Obj.cls (Option.some.inj h2)) (by show ¬ (Value.type "list" = Value.type "tuple"); intro e; exact absurd (Value.type.inj e) (by decide))
theorem asgn_plain {prog : Program} {w : World} {A : Around} {E : Value → Shared → Prop} {Q : Flow → Shared → Prop} {s : Shared} {env : Env} {y : Str} {py pos : Pos} {value : Expr} (hs : swapsWith value (some (.Name y py)) pos.line env = pure false)
    (h : wpAny (model prog w) A (eval value env) (fun v s' => wpAny (model prog w) A (bindName env y v) (fun _ s'' => Q .next s'') E s') E s) : wpAny (model prog w) A (exec (.Assign [.Name y py] value pos) env) Q E s := by
  rw [exec_Assign_Name _ _ _ _ _ hs]
  refine wpAny_bind (wpAny_standAt (wpAny_bind (wpAny_mono h (fun v s' h' => ?_) fun _ _ e => e)))
  exact wpAny_bind (wpAny_standAt (wpAny_bind (wpAny_mono h' (fun _ _ q => wpAny_pure q) fun _ _ e => e)))
end
section
local macro_rules | `(tactic| walk_at "compareOp NotEq ref ref") => `(tactic| ((with_reducible rename News _ _ _ _ => nX); k_dflt (refine q_ne_nil nX (List.Mem.tail _ (List.Mem.head _)) (List.Mem.head _) (by ktr_units) ?_)))
local macro_rules | `(tactic| walk_at "subscriptTail Name Constant ref int") => `(tactic| ((with_reducible rename News _ _ _ _ => nX); k_dflt (refine q_item nX (by k_mem) (by decide) (by decide) rfl ?_)))
local macro_rules | `(tactic| walk_at "subscriptTail Name Slice ref ref") => `(tactic| ((with_reducible rename News _ _ _ _ => nX); (with_reducible rename Fr _ _ _ _ => fX); k_dflt (refine' q_slice1 fX nX ?k1 ?k2 ?_; (case k1 => k_mem); (case k2 => assumption)); clear nX fX; intro D' h' F' N' l1; (try k_lt l1)))
local macro_rules | `(tactic| k_all) => `(tactic| with_unfolding_all assumption)
local macro_rules | `(tactic| walk_at "compareOp NotIn ref ref") => `(tactic| refine hold ?_)
theorem ar0 {f q l nr n sd sd2 : Nat} (h1 : 0 + f = q + l) (h2 : 0 = q + nr) (h3 : n = 2 * l + q + 1) (h4 : n ≤ 40) (h5 : sd + 3 * n ≤ 400) (h6 : sd2 ≤ sd + 3) : 2 * f < n ∧ 2 * f ≤ 40 ∧ sd2 + 3 * (2 * f) ≤ 400 := by omega
theorem ar1 {f q l nr n sd sd2 r : Nat} (h1 : r + 1 + f = q + l) (h2 : r + 1 = q + nr) (h3 : n = 2 * l + q + 1) (h4 : n ≤ 40) (h5 : sd + 3 * n ≤ 400) (h6 : sd2 ≤ sd + 3) : 2 * f + r + 1 < n ∧ 2 * f + r + 1 ≤ 40 ∧ sd2 + 3 * (2 * f + r + 1) ≤ 400 := by omega
theorem ar2 {vs r q nr l n : Nat} (e : vs = r) (h2 : r + 1 = q + nr) (h3 : n = 2 * l + q + 1) (h4 : n ≤ 40) (h5 : nr ≤ l) : vs + 1 ≤ 100000 := by omega
theorem str_nonempty {x : List Nat} (h : x ≠ []) : (str x != Str.ofString "") = true := by
  cases x with
  | nil => exact absurd rfl h
  | cons a r => rfl
theorem near_contains {c o : Lt} {ls : List Lt} (h : o ∈ ls) : (ls.filter (touchL c)).contains o = touchL c o := by
  cases ht : touchL c o with
  | true => exact List.contains_iff_mem.mpr (List.mem_filter.mpr ⟨h, ht⟩)
  | false =>
    cases hc : (ls.filter (touchL c)).contains o with
    | false => rfl
    | true => rw [(List.mem_filter.mp (List.contains_iff_mem.mp hc)).2] at ht; cases ht
inductive OJoin (w : World) (M : Mac) (l : List Nat) (b : Bool) : Value → List (Addr × Obj) → Prop
  | mk (tp' tl' : Tok) (n' : Nat) : OJoin w M l b (.bool b) (M.led w (l.length : Nat) tp' (lineAt l l.length) tl' [] n')
inductive JRef (w : World) (M : Mac) (l : List Nat) (tp tl : Tok) (n : Nat) (a1 a2 Dw : Addr) (o1 o2 : Obj) (vs : List Value) (kw : Nat) (ls : List Lt) (i : Nat) (ys : List Value) : List (Addr × Obj) → Prop
  | mk (tups : List (Addr × Obj)) (h1 : Refs tups ys (ls.take i)) (h2 : ∀ q ∈ tups, JOff M a1 a2 Dw q.1) : JRef w M l tp tl n a1 a2 Dw o1 o2 vs kw ls i ys ((a1, o1) :: (a2, o2) :: (Dw, listO vs kw) :: (M.led w (l.length : Nat) tp (lineAt l l.length) tl [] n ++ tups))
inductive JPush (w : World) (M : Mac) (l : List Nat) (tp tl : Tok) (ps0 : List (Str × Value)) (e1 e2 e3 e4 e5 e6 e7 : Addr × Obj) (tups : List (Addr × Obj)) (lq nr : List Lt) (i : Nat) : List (Str × Value) → List (Addr × Obj) → Prop
  | mk (qv : List Value) (nq : Nat) (h : StrsAre qv (((lq ++ nr.take i).map wordOf).map str)) : JPush w M l tp tl ps0 e1 e2 e3 e4 e5 e6 e7 tups lq nr i ps0 (e1 :: e2 :: e3 :: e4 :: e5 :: e6 :: e7 :: (M.led w (l.length : Nat) tp (lineAt l l.length) tl qv nq ++ tups))
theorem c_joined (w : World) (M : Mac) (base : Heap) (l : List Nat) (hl : l.length ≤ 10000) (hsm : ∀ c ∈ l, c < 128) (O : M.Ord) (RS : ReadSpec w M base l) (tp tl : Tok) (n : Nat) (Dw : Addr) (vs : List Value) (kw : Nat) (ls : List Lt) (hvs : StrsAre vs ((ls.map wordOf).map str)) (hls : ∀ x ∈ ls, Good x) (hln : ls.length ≤ 15) (hfw : M.Free Dw) :
    Con w 157 [.ref M.mx, .ref Dw] ((Dw, listO vs kw) :: M.led w (l.length : Nat) tp (lineAt l l.length) tl [] n) base 12 160 (fun _ => OJoin w M l (joinedF ls.length ls false)) := by
  intro p loose mean mg mb dp un gd cn cs a ccd cl outer A₀ h₀ L m s Q B F X N T hk hdp hun hret
  revert X; k_fill; intro X
  k_dflt (refine' enterC B F X N T ?kA ?kF ?kK hret ?k6 ?k7 ?k8 ?k9 ?kB ?kD ?_ ?c2 ?c3 ?c4; (case kA => exact rfl); (case kF => exact rfl); (case kK => assumption); (case k6 => k_is); (case k7 => k_is); (case k8 => ktr_room); (case k9 => exact BindsTo.of_eq rfl); (case kB => exact rfl); (case kD => decide +kernel); (case c2 => exact rfl); (case c3 => exact rfl); (case c4 => exact rfl); k_whole)
  clear F X N T B hret
  intro g L' h' tk' cells' qk hL F' N' Y' B X T l1 hq; (try k_lt l1); k_cells Y'; (try simp only [List.cons_append, List.nil_append] at N'); (try dsimp only)
  rename_i o1 o2 q1 q2
  have hpL : @LT.lt Nat _ M.pb L' := And.left (And.right l1)
  have hf1 : M.Free (L' + 1) := free_gt O (Nat.lt_succ_of_lt hpL)
  have hf2 : M.Free (L' + 1 + 1) := free_gt O (Nat.lt_succ_of_lt (Nat.lt_succ_of_lt hpL))
  skip
  have O' : M.Ord := O
  unfold Mac.Ord at O'
  have hf1x0 := hf1.1
  have hf1x1 := hf1.2.1
  have hf1x2 := hf1.2.2.1
  have hf1x3 := hf1.2.2.2.1
  have hf1x4 := hf1.2.2.2.2.1
  have hf1x5 := hf1.2.2.2.2.2.1
  have hf1x6 := hf1.2.2.2.2.2.2.1
  have hf1x7 := hf1.2.2.2.2.2.2.2.1
  have hf1x8 := hf1.2.2.2.2.2.2.2.2.1
  have hf1x9 := hf1.2.2.2.2.2.2.2.2.2
  have hf2x0 := hf2.1
  have hf2x1 := hf2.2.1
  have hf2x2 := hf2.2.2.1
  have hf2x3 := hf2.2.2.2.1
  have hf2x4 := hf2.2.2.2.2.1
  have hf2x5 := hf2.2.2.2.2.2.1
  have hf2x6 := hf2.2.2.2.2.2.2.1
  have hf2x7 := hf2.2.2.2.2.2.2.2.1
  have hf2x8 := hf2.2.2.2.2.2.2.2.2.1
  have hf2x9 := hf2.2.2.2.2.2.2.2.2.2
  k_steps
  refine unhold (comp_A F' (by rfl) (by with_unfolding_all rfl) (by with_unfolding_all rfl) (by decide) (by rfl) (by decide) (by rfl) (by rfl) (by rfl) ?_)
  k_steps
  rename Fr _ _ _ _ => F'; rename News _ _ _ _ => N'
  have hvl := hvs.len_eq
  rw [List.length_map, List.length_map] at hvl
  refine (SrcGo.of [(Dw, listO vs kw)] (src_list rfl N' (.tail _ (.tail _ (.head _)))) (by show vs.toArray.size ≤ 16777216; rw [List.size_toArray]; omega) F' N' (fun p hp => by rw [List.mem_singleton.mp hp]; exact .tail _ (.tail _ (.head _))) (fun g5 => ?_))
  refine rest_ind (JRef w M l tp tl n (L' + 1 + 1) (L' + 1) Dw o1 o2 vs kw ls) (.mk [] .nil fun _ h => nomatch h) ?_ ?_
  · clear F' N'
    refine fun i v ys led I oI C oC D m₂ h5 k5 E' hi hv hJ => JRef.casesOn hJ fun tups hrf hoff hC hx F N off ne => ?_
    have hil : i < ls.length := by rw [List.size_toArray] at hi; omega
    obtain ⟨li, hli⟩ : ∃ li, ls[i]? = some li := ⟨ls[i], List.getElem?_eq_getElem hil⟩
    have hgood := hls li (List.mem_of_getElem? hli)
    obtain ⟨tv, hv2⟩ := hvs.at (j := i) (y := str (wordOf li)) (by rw [List.getElem?_map, List.getElem?_map, hli]; rfl)
    have hv3 : v = .str (str (wordOf li)) tv := by
      have : vs[i]? = some v := by simpa using hv
      rw [hv2] at this; exact (Option.some.inj this).symm
    rw [hv3] at hx
    k_steps
    refine unhold (con_keep (c_light w base (wordOf li) tv (by have := hgood.w; omega)) B F X T _ N (fun _ h => nomatch h) (fun _ _ _ _ _ h => nomatch h) rfl (by ktr_room) (by ktr_units) ?_)
    refine fun v mach' h6 k6 hr => OLight.casesOn hr fun D2 u1 u2 u3 F6 N6 hne => ?_
    have hne' := fun p hp => hne _ (.head _) (fun h => nomatch h) p hp
    rw [show (num (wordOf li)).fdiv 256 = li.1 from congrArg (·.1) hgood.n, show ((num (wordOf li)).fdiv 16).fmod 16 = li.2.1 from congrArg (·.2.1) hgood.n, show (num (wordOf li)).fmod 16 = li.2.2 from congrArg (·.2.2) hgood.n] at N6
    have hjo : JOff M (L' + 1 + 1) (L' + 1) Dw D2 := by
      refine ⟨hne' (L' + 1 + 1, o1) (.tail _ (.tail _ (.tail _ (.head _)))), hne' (L' + 1, o2) (.tail _ (.tail _ (.tail _ (.tail _ (.head _))))), hne' (Dw, listO vs kw) (.tail _ (.tail _ (.tail _ (.tail _ (.tail _ (.head _)))))), ?_⟩
      have hm : ∀ p ∈ M.led w (l.length : Nat) tp (lineAt l l.length) tl [] n, @Ne Nat D2 p.1 := fun p hp => hne' p (.tail _ (.tail _ (.tail _ (.tail _ (.tail _ (.tail _ (List.mem_append_left _ hp)))))))
      simp only [Mac.led, List.forall_mem_cons] at hm
      exact ⟨hm.1, hm.2.1, hm.2.2.1, hm.2.2.2.1, hm.2.2.2.2.1, hm.2.2.2.2.2.1, hm.2.2.2.2.2.2.1, hm.2.2.2.2.2.2.2.1, hm.2.2.2.2.2.2.2.2.1, hm.2.2.2.2.2.2.2.2.2.1⟩
    refine LCg.CompEnd.intro F6 N6 ((L' + 1 + 1, o1) :: (L' + 1, o2) :: (Dw, listO vs kw) :: (M.led w (l.length : Nat) tp (lineAt l l.length) tl [] n ++ ((D2, tup3 li.1 li.2.1 li.2.2 u1 u2 u3 0) :: tups))) (fun p hp => mem_mid (A := (I, oI) :: (C, oC) :: (D, LCg.lst ys) :: (L' + 1 + 1, o1) :: (L' + 1, o2) :: (Dw, listO vs kw) :: M.led w (l.length : Nat) tp (lineAt l l.length) tl [] n) p hp) (LCg.Off3.of fun p hp => ?_) (fun p hp => by rw [List.mem_singleton.mp hp]; exact .tail _ (.tail _ (.head _))) ⟨(D2, tup3 li.1 li.2.1 li.2.2 u1 u2 u3 0) :: tups, ?_, ?_⟩
    · rcases mem_mid (A := (L' + 1 + 1, o1) :: (L' + 1, o2) :: (Dw, listO vs kw) :: M.led w (l.length : Nat) tp (lineAt l l.length) tl [] n) p hp with _ | ⟨_, hp⟩
      · exact ⟨hne' (I, oI) (.head _), hne' (C, oC) (.tail _ (.head _)), hne' (D, LCg.lst ys) (.tail _ (.tail _ (.head _)))⟩
      · exact off.mem p hp
    · rw [List.take_add_one, hli]
      exact (hrf.mono fun p hp => .tail _ hp).snoc (.head _)
    · intro q hq
      rcases List.mem_cons.mp hq with rfl | hq
      · exact hjo
      · exact hoff q hq
  · clear F' N'
    refine fun ys led hJ => JRef.casesOn hJ fun tups hrf hoff D' h5 k5 F N od => ?_
    have htk : ls.take vs.toArray.size = ls := by rw [List.size_toArray, hvl]; exact List.take_length
    rw [htk] at hrf
    try dsimp only [List.cons_append, List.nil_append] at N
    k_steps
    rename Fr _ _ _ _ => F'; rename News _ _ _ _ => N'
    have odm := off1_mem od
    have hfD : M.Free D' := free_off fun z hz => Ne.symm (odm z (.tail _ (.tail _ (.tail _ (List.mem_append_left _ hz)))))
    have N2 : News g L' _ ((D', LCg.lst ys) :: (L' + 1 + 1, o1) :: (L' + 1, o2) :: (M.led w (l.length : Nat) tp (lineAt l l.length) tl [] n ++ tups)) := fun p hp => N' p (by
      rcases List.mem_cons.mp hp with rfl | hp
      · exact .head _
      · rcases List.mem_cons.mp hp with rfl | hp
        · exact .tail _ (.head _)
        · rcases List.mem_cons.mp hp with rfl | hp
          · exact .tail _ (.tail _ (.head _))
          · exact .tail _ (.tail _ (.tail _ (.tail _ hp))))
    clear N'
    refine unhold (hideW fun QO hzO => while_ov (JOut w M l (L' + 1 + 1) (L' + 1) (joinedF ls.length ls false)) ls.length _ F' (.cons rfl (.cons rfl (.cons rfl .nil))) N2 ⟨D', ys, _, ls, false, tups, o1, o2, tp, tl, n, _, _, hrf, fun q hq => ⟨(hoff q hq).1, (hoff q hq).2.1, (hoff q hq).2.2.2⟩, hfD, hls, Nat.le_refl _, hln, rfl, q1, q2⟩ ?_)
    clear F' N2 hrf hoff od odm hfD
    refine fun n' ps led u h₂ tk₂ hJ => JOut.casesOn hJ fun DL vsl kl lsl jb tups o1 o2 tp tl nq c1 c2 hrf hoff hfD hgd hn1 hn2 hres q1 q2 F N => ?_
    dsimp only [ov] at F
    try dsimp only [List.cons_append, List.nil_append] at N
    cases hrf with
    | nil =>
      k_steps
      refine hzO _ _ ?_
      k_steps
      rename Fr _ _ _ _ => F'; rename News _ _ _ _ => N'
      dsimp only
      have hj : jb = joinedF ls.length ls false := by rw [← hres]; cases n' <;> rfl
      exact hq _ _ (leaveS (M.led w (l.length : Nat) tp (lineAt l l.length) tl [] nq) _ F' N' (fun p hp => .tail _ (.tail _ (.tail _ (.tail _ (List.mem_append_left tups hp))))) (by rw [hj]; exact .mk _ _ _) hL)
    | @cons ac cr cg cb u1 u2 u3 un vr lr hac hrf =>
      have hvr := hrf.len
      have hvz : (Value.ref ac :: vr).length ≤ 100000 := by simp only [List.length_cons] at hn1 ⊢; omega
      have hgc := hgd (cr, cg, cb) (.head _)
      k_steps
      · rename List.isEmpty _ = true => hx
        cases hx
      rename Fr _ _ _ _ => F'; rename News _ _ _ _ => N'
      refine unhold (con_keep (c_code w base ac cr cg cb u1 u2 u3 un hgc.c.1 hgc.c.2) B F' X T _ N' (fun q hq => by rw [List.mem_singleton.mp hq]; repeat (first | exact hac | refine List.Mem.tail _ ?_)) (fun _ _ _ h q hq => by cases h; exact hq) rfl (by ktr_room) (by ktr_units) ?_)
      refine fun v mach' h6 k6 hr => OByt.casesOn hr fun t6 F6 N6 _ => ?_
      have N7 : News g L' h6 _ := fun p hp => N6 p (List.mem_append_right _ hp)
      clear F' N' N6
      k_steps
      have hsz := i2a_size (256 * cr + 16 * cg + cb) 3
      refine unhold (con_keep (c_plain w base _ _ (by omega)) B F6 X T _ N7 (fun _ h => nomatch h) (fun _ _ _ _ _ h => nomatch h) rfl (by ktr_room) (by ktr_units) ?_)
      refine fun v mach' h8 k8 hr => OStr.casesOn hr fun t8 F8 N8 _ => ?_
      clear F6 N7
      rw [List.nil_append] at N8
      rw [show (i2a 3 (256 * cr + 16 * cg + cb)).toList.map (·.toNat) = wordOf (cr, cg, cb) from rfl]
      k_steps
      refine unhold (push_mid [(DL, _), (L' + 1 + 1, o1), (L' + 1, o2)] tups O B F8 X T (fun p hp => N8 p (.tail _ hp)) (fun q hq => by
        rcases List.mem_cons.mp hq with rfl | hq
        · exact hfD
        · rcases List.mem_cons.mp hq with rfl | hq
          · exact hf2
          · rw [List.mem_singleton.mp hq]; exact hf1) (fun q hq => (hoff q hq).2.2) (Nat.zero_le _) rfl (by ktr_room) (by ktr_units) ?_)
      clear F8 N8
      intro h9 k9 n9 F9 N9
      try dsimp only [List.cons_append, List.nil_append] at N9
      k_steps
      rename Fr _ _ _ _ => F'; rename News _ _ _ _ => N'
      rename_i D2 hA l2 hB S hC l3 hD
      have hS2 : @LT.lt Nat _ D2 S := l3.1
      have hfD2 : M.Free D2 := free_gt O l2.2.2.2.1
      have hfS : M.Free S := free_gt O l3.2.2.2.2.1
      have hoffS : ∀ q ∈ tups, JO M (L' + 1 + 1) (L' + 1) q.1 ∧ @Ne Nat q.1 S := fun q hq => ⟨hoff q hq, allLt_ne l3.2.2.2.2.2.2.2.2.2.2.2.2.2.2 q hq⟩
      refine unhold (pop_mid [(S, _), (D2, _), (L' + 1 + 1, o1), (L' + 1, o2)] tups O B F' X T (fun p hp => N' p (by
        rcases List.mem_cons.mp hp with rfl | hp
        · exact .head _
        · rcases List.mem_cons.mp hp with rfl | hp
          · exact .tail _ (.head _)
          · exact .tail _ (.tail _ (.tail _ hp)))) (fun q hq => by
        rcases List.mem_cons.mp hq with rfl | hq
        · exact hfS
        · rcases List.mem_cons.mp hq with rfl | hq
          · exact hfD2
          · rcases List.mem_cons.mp hq with rfl | hq
            · exact hf2
            · rw [List.mem_singleton.mp hq]; exact hf1) (fun q hq => (hoff q hq).2.2) (by show 1 ≤ _; decide) rfl (by ktr_room) (by ktr_units) ?_)
      clear F' N'
      intro h10 k10 n10 F10 N10
      try dsimp only [List.cons_append, List.nil_append] at N10
      k_steps
      rename Fr _ _ _ _ => F'; rename News _ _ _ _ => N'
      have hnn : lr.length ≤ 14 := by simp only [List.length_cons] at hn1; omega
      refine unhold (hideW fun QI hzI => while_ov (JIn w M l (L' + 1 + 1) (L' + 1) S jb (bfs lr [(cr, cg, cb)] [])) (2 * lr.length + 0 + 1) _ F' (.cons rfl (.cons rfl (.cons rfl (.cons rfl (.cons rfl .nil))))) N' ⟨D2, _, _, lr, [], 0, [], [], [], wordOf (cr, cg, cb), _, tups, o1, o2, tp, tl, n10, c1, c2, hrf, hoffS, hfD2, ⟨Nat.ne_of_lt hS2, Nat.ne_of_gt l2.2.1, Nat.ne_of_gt l2.2.2.1⟩, fun x hx => hgd x (.tail _ hx), (fun _ h => nomatch h), .nil, .nil, q1, q2, by omega, by simp only [List.length_nil]; omega, .inr ⟨_, rfl, hgc, rfl, rfl⟩⟩ ?_)
      clear F' N'
      refine fun n3 ps led u h₃ tk₃ hJ => JIn.casesOn hJ fun DL3 vsl kl3 lsl3 vss ks sd qv lq x tx tups3 o3 o4 tp3 tl3 nq3 c3 c4 hrf3 hoff3 hfD3 hDS hg3 hgq hsd hqv q3 q4 hn40 hsl hcase F N => ?_
      have hds1 := hDS.1
      have hds2 := hDS.2.1
      have hds3 := hDS.2.2
      dsimp only [ov] at F
      try dsimp only [List.cons_append, List.nil_append] at N
      have ht1 : ∀ q ∈ tups3, q.1 ≠ L' + 1 := fun q hq => (hoff3 q hq).1.2.1
      have ht2 : ∀ q ∈ tups3, q.1 ≠ L' + 1 + 1 := fun q hq => (hoff3 q hq).1.1
      have htS : ∀ q ∈ tups3, q.1 ≠ S := fun q hq => (hoff3 q hq).2
      rcases hcase with ⟨rfl, rfl, hb, hn3⟩ | ⟨c, rfl, hgc3, hb, hn3⟩
      · cases hqv
        rw [bfs_nil] at hb
        obtain ⟨m1, rfl⟩ : ∃ m1, n' = m1 + 1 := ⟨n' - 1, by simp only [List.length_cons] at hn1; omega⟩
        have hr2 : joinedF m1 lsl3 (if (sd.any (fun x => x == 0) && (sd.any (fun x => x == 1) && sd.any (fun x => x == 2))) = true then true else jb) = joinedF ls.length ls false := by
          rw [← hres]
          show _ = joinedF m1 (bfs lr [(cr, cg, cb)] []).1 _
          rw [← hb]
        have hlm1 : lsl3.length ≤ m1 := by
          have := (bfs_sub _ lr [(cr, cg, cb)] [] (Nat.le_refl _)).2
          rw [← hb] at this
          rw [List.length_cons] at hn1
          exact Nat.le_trans this (Nat.le_of_succ_le_succ hn1)
        k_steps
        refine hzI _ _ ?_
        k_steps
        · rename Fr _ _ _ _ => F'; rename News _ _ _ _ => N'
          rename (List.any (α := Int) _ (fun x => x == 0)) = true => e0
          rename (List.any (α := Int) _ (fun x => x == 1)) = true => e1
          rename (List.any (α := Int) _ (fun x => x == 2)) = true => e2
          rw [if_pos (by rw [e0, e1, e2]; rfl)] at hr2
          exact LoopStep.go m1 [(Str.ofString "machine", .ref M.mx), (Str.ofString "left", .ref DL3), (Str.ofString "joined", .bool true)] ((DL3, listO vsl kl3) :: (L' + 1 + 1, o3) :: (L' + 1, o4) :: (M.led w (l.length : Nat) tp3 (lineAt l l.length) tl3 [] nq3 ++ tups3)) F' (.cons rfl (.cons rfl (.cons rfl .nil))) N' (fun _ h => .tail _ h) (Nat.lt_succ_self _) ⟨DL3, vsl, kl3, lsl3, true, tups3, o3, o4, tp3, tl3, nq3, _, _, hrf3, fun q hq => (hoff3 q hq).1, hfD3, hg3, hlm1, by omega, hr2, q3, q4⟩
        · rename (List.any (α := Int) _ (fun x => x == 0)) = true => e0
          rename (List.any (α := Int) _ (fun x => x == 1)) = true => e1
          rename (List.any (α := Int) _ (fun x => x == 2)) = false => e2
          rw [if_neg (by rw [e0, e1, e2]; exact Bool.false_ne_true)] at hr2
          exact LoopStep.go m1 [(Str.ofString "machine", .ref M.mx), (Str.ofString "left", .ref DL3), (Str.ofString "joined", .bool jb)] ((DL3, listO vsl kl3) :: (L' + 1 + 1, o3) :: (L' + 1, o4) :: (M.led w (l.length : Nat) tp3 (lineAt l l.length) tl3 [] nq3 ++ tups3)) F (.cons rfl (.cons rfl (.cons rfl .nil))) N (fun _ h => .tail _ h) (Nat.lt_succ_self _) ⟨DL3, vsl, kl3, lsl3, jb, tups3, o3, o4, tp3, tl3, nq3, _, _, hrf3, fun q hq => (hoff3 q hq).1, hfD3, hg3, hlm1, by omega, hr2, q3, q4⟩
        · rename (List.any (α := Int) _ (fun x => x == 0)) = true => e0
          rename (List.any (α := Int) _ (fun x => x == 1)) = false => e1
          rw [if_neg (by rw [e0, e1]; exact Bool.false_ne_true)] at hr2
          exact LoopStep.go m1 [(Str.ofString "machine", .ref M.mx), (Str.ofString "left", .ref DL3), (Str.ofString "joined", .bool jb)] ((DL3, listO vsl kl3) :: (L' + 1 + 1, o3) :: (L' + 1, o4) :: (M.led w (l.length : Nat) tp3 (lineAt l l.length) tl3 [] nq3 ++ tups3)) F (.cons rfl (.cons rfl (.cons rfl .nil))) N (fun _ h => .tail _ h) (Nat.lt_succ_self _) ⟨DL3, vsl, kl3, lsl3, jb, tups3, o3, o4, tp3, tl3, nq3, _, _, hrf3, fun q hq => (hoff3 q hq).1, hfD3, hg3, hlm1, by omega, hr2, q3, q4⟩
        · rename (List.any (α := Int) _ (fun x => x == 0)) = false => e0
          rw [if_neg (by rw [e0]; exact Bool.false_ne_true)] at hr2
          exact LoopStep.go m1 [(Str.ofString "machine", .ref M.mx), (Str.ofString "left", .ref DL3), (Str.ofString "joined", .bool jb)] ((DL3, listO vsl kl3) :: (L' + 1 + 1, o3) :: (L' + 1, o4) :: (M.led w (l.length : Nat) tp3 (lineAt l l.length) tl3 [] nq3 ++ tups3)) F (.cons rfl (.cons rfl (.cons rfl .nil))) N (fun _ h => .tail _ h) (Nat.lt_succ_self _) ⟨DL3, vsl, kl3, lsl3, jb, tups3, o3, o4, tp3, tl3, nq3, _, _, hrf3, fun q hq => (hoff3 q hq).1, hfD3, hg3, hlm1, by omega, hr2, q3, q4⟩
      · k_steps
        · refine unhold (con_keep (c_light w base (wordOf c) tx (by have := hgc3.w; omega)) B F X T _ N (fun _ h => nomatch h) (fun _ _ _ _ _ h => nomatch h) rfl (by ktr_room) (by ktr_units) ?_)
          refine fun v mach' h6 k6 hr => OLight.casesOn hr fun D4 v1 v2 v3 F6 N6 hne => ?_
          have hne' := fun p hp => hne _ (.head _) (fun h => nomatch h) p hp
          rw [show (num (wordOf c)).fdiv 256 = c.1 from congrArg (·.1) hgc3.n, show ((num (wordOf c)).fdiv 16).fmod 16 = c.2.1 from congrArg (·.2.1) hgc3.n, show (num (wordOf c)).fmod 16 = c.2.2 from congrArg (·.2.2) hgc3.n] at N6
          clear F N
          simp only [List.cons_append, List.nil_append] at N6
          have hd1 : @Ne Nat D4 S := hne' (S, listO vss ks) (.head _)
          have hd2 : @Ne Nat D4 (L' + 1 + 1) := hne' (L' + 1 + 1, o3) (.tail _ (.tail _ (.head _)))
          have hd3 : @Ne Nat D4 (L' + 1) := hne' (L' + 1, o4) (.tail _ (.tail _ (.tail _ (.head _))))
          k_steps
          rename Fr _ _ _ _ => F'; rename News _ _ _ _ => N'
          rename Obj => o5
          refine unhold (con_keep (c_sides w base D4 c.1 c.2.1 c.2.2 v1 v2 v3 0 hgc3.b hgc3.na hgc3.inf) B F' X T _ N' (fun q hq => by rw [List.mem_singleton.mp hq]; exact .head _) (fun _ _ _ h q hq => by cases h; exact .tail _ hq) rfl (by ktr_room) (by ktr_units) ?_)
          refine fun v mach' h7 k7 hr => OInts.casesOn hr fun D5 ys5 k5' hys5 F7 N7 hne5 => ?_
          have hne5' := fun p hp (h : D5 ≠ D4) => hne5 _ (.head _) (fun hh => h (List.mem_singleton.mp hh)) p hp
          clear F' N'
          simp only [List.cons_append, List.nil_append] at N7
          k_steps
          have h54 : @Ne Nat D5 D4 := list_ne_tup N7 (.head _) (.tail _ (.tail _ (.head _)))
          have hne6 := fun p hp => hne5' p hp h54
          have hS3 : ∀ p ∈ (D5, listO ys5 k5') :: (D4, tup3 c.fst c.snd.fst c.snd.snd v1 v2 v3 0) :: (DL3, listO vsl kl3) :: (L' + 1 + 1, o3) :: (L' + 1, o5) :: (M.led w (l.length : Nat) tp3 (lineAt l l.length) tl3 qv nq3 ++ tups3), @Ne Nat p.1 S := by
            simp only [List.forall_mem_cons]
            exact ⟨hne6 (S, listO vss ks) (.tail _ (.head _)), hd1, hDS.1, Nat.ne_of_lt l3.2.2.1, Nat.ne_of_lt l3.2.2.2.1, fun p hp => (List.mem_append.mp hp).elim (fun h e => led_off hfS (List.mem_map.mpr ⟨p, h, e⟩)) (fun h => htS p h)⟩
          refine q_extend1 (k := ks) (kb := k5') (r := (D5, listO ys5 k5') :: (D4, tup3 c.fst c.snd.fst c.snd.snd v1 v2 v3 0) :: (DL3, listO vsl kl3) :: (L' + 1 + 1, o3) :: (L' + 1, o5) :: (M.led w (l.length : Nat) tp3 (lineAt l l.length) tl3 qv nq3 ++ tups3)) F7 (fun p hp => N7 p (by
            rcases List.mem_cons.mp hp with rfl | hp
            · exact .tail _ (.tail _ (.tail _ (.head _)))
            · rcases List.mem_cons.mp hp with rfl | hp
              · exact .head _
              · rcases List.mem_cons.mp hp with rfl | hp
                · exact .tail _ (.head _)
                · exact .tail _ (.tail _ (.tail _ (.tail _ hp))))) hS3 (.head _) (by have := ints_len hsd; have := ints_len hys5; have := sides_len c.1 c.2.1 c.2.2; omega) ?_
          intro h8 k8 F8 N8
          clear F7 N7
          try dsimp only [List.cons_append, List.nil_append] at N8
          k_steps
          refine unhold (asgn_plain (by with_unfolding_all rfl) ?_)
          k_steps
          refine unhold (compT_E F8 (by with_unfolding_all rfl) (by decide) (by rfl) (by decide) (by rfl) ?_)
          k_steps
          rename Fr _ _ _ _ => F'; rename News _ _ _ _ => N'
          have hvl3 := hrf3.len
          refine (SrcGo.of [(DL3, listO vsl kl3)] (src_list rfl N' (.tail _ (.tail _ (.tail _ (.head _))))) (by show vsl.toArray.size ≤ 16777216; rw [List.size_toArray]; omega) F' N' (fun p hp => by rw [List.mem_singleton.mp hp]; exact .tail _ (.tail _ (.tail _ (.head _)))) (fun g5 => ?_))
          refine restT_indL ((S, listO (vss ++ ys5) k8) :: (D5, listO ys5 k5') :: (D4, tup3 c.fst c.snd.fst c.snd.snd v1 v2 v3 0) :: (DL3, listO vsl kl3) :: (L' + 1 + 1, o3) :: (L' + 1, o5) :: (M.led w (l.length : Nat) tp3 (lineAt l l.length) tl3 qv nq3 ++ tups3)) (fun i ys => Refs tups3 ys ((lsl3.take i).filter (touchL c))) .nil ?_ ?_
          · clear F' N'
            intro LD hLD i v ys I oI C oC D m₂ h9 k9 E' hi hv hys hC hx F N off ne
            have hv3 : vsl[i]? = some v := by simpa using hv
            refine RefAt.casesOn (hrf3.getR hv3) fun a9 r9 g9 b9 u1 u2 u3 un9 hve hm9 hl9 => ?_
            rw [hve] at hx
            have hg9 := hg3 _ (List.mem_of_getElem? hl9)
            k_steps
            refine unhold (con_keep (c_touch w base D4 a9 c.1 c.2.1 c.2.2 r9 g9 b9 v1 v2 v3 u1 u2 u3 0 un9 hgc3.b hg9.b) B F X T _ N (fun q hq => by
              rcases List.mem_cons.mp hq with rfl | hq
              · exact .tail _ (.tail _ (.tail _ (.tail _ (.tail _ (.head _)))))
              · rw [List.mem_singleton.mp hq]
                exact .tail _ (.tail _ (.tail _ (.tail _ (.tail _ (.tail _ (.tail _ (.tail _ (.tail _ (List.mem_append_right _ hm9)))))))))) (fun _ _ _ h q hq => by cases h; exact hq) rfl (by ktr_room) (by ktr_units) ?_)
            refine fun v mach' h10 k10 hr => OIs.casesOn hr fun F10 N10 _ => ?_
            have N11 : News g L' h10 _ := fun p hp => N10 p (List.mem_append_right _ hp)
            clear F N N10
            have htl : List.take (i + 1) lsl3 = List.take i lsl3 ++ [(r9, g9, b9)] := by rw [List.take_add_one, hl9]; rfl
            k_steps
            · rename touchV _ _ _ = 6 => hb
              have hb' : touchL c (r9, g9, b9) = true := beq_iff_eq.mpr hb
              refine LCg.CompEnd.intro F10 N11 ((S, listO (vss ++ ys5) k8) :: (D5, listO ys5 k5') :: (D4, tup3 c.fst c.snd.fst c.snd.snd v1 v2 v3 0) :: (DL3, listO vsl kl3) :: (L' + 1 + 1, o3) :: (L' + 1, o5) :: (M.led w (l.length : Nat) tp3 (lineAt l l.length) tl3 qv nq3 ++ tups3)) (fun _ h => h) off (fun p hp => by rw [List.mem_singleton.mp hp]; exact .tail _ (.tail _ (.tail _ (.head _)))) (.of hLD ?_)
              rw [htl, List.filter_append, List.filter_cons_of_pos hb']
              exact hys.snoc hm9
            · rename ¬ touchV _ _ _ = 6 => hb
              have hb' : ¬ touchL c (r9, g9, b9) = true := fun h => hb (beq_iff_eq.mp h)
              refine LCg.CompEnd.intro F10 N11 ((S, listO (vss ++ ys5) k8) :: (D5, listO ys5 k5') :: (D4, tup3 c.fst c.snd.fst c.snd.snd v1 v2 v3 0) :: (DL3, listO vsl kl3) :: (L' + 1 + 1, o3) :: (L' + 1, o5) :: (M.led w (l.length : Nat) tp3 (lineAt l l.length) tl3 qv nq3 ++ tups3)) (fun _ h => h) off (fun p hp => by rw [List.mem_singleton.mp hp]; exact .tail _ (.tail _ (.tail _ (.head _)))) (.of hLD ?_)
              rw [htl, List.filter_append, List.filter_cons_of_neg hb', List.filter_nil, List.append_nil]
              exact hys
          · clear F' N'
            intro ys hys D6 h9 k9 F N od
            have odm := off1_mem od
            have hfD6 : M.Free D6 := free_off fun z hz => Ne.symm (odm z (.tail _ (.tail _ (.tail _ (.tail _ (.tail _ (.tail _ (List.mem_append_left _ hz))))))))
            have hd61 : @Ne Nat D6 (L' + 1) := Ne.symm (odm _ (.tail _ (.tail _ (.tail _ (.tail _ (.tail _ (.head _)))))))
            have hd62 : @Ne Nat D6 (L' + 1 + 1) := Ne.symm (odm _ (.tail _ (.tail _ (.tail _ (.tail _ (.head _))))))
            have hd6S : @Ne Nat D6 S := Ne.symm (odm _ (.head _))
            have hd63 : @Ne Nat D6 DL3 := Ne.symm (odm _ (.tail _ (.tail _ (.tail _ (.head _)))))
            have hd51 : @Ne Nat D5 (L' + 1) := hne6 _ (.tail _ (.tail _ (.tail _ (.tail _ (.head _)))))
            have hd52 : @Ne Nat D5 (L' + 1 + 1) := hne6 _ (.tail _ (.tail _ (.tail _ (.head _))))
            have htk : lsl3.take vsl.toArray.size = lsl3 := by rw [List.size_toArray, hvl3]; exact List.take_length
            rw [htk] at hys
            try dsimp only [List.cons_append, List.nil_append] at N
            k_steps
            rename Fr _ _ _ _ => F'; rename News _ _ _ _ => N'
            rename Obj => o6
            rename o6.data = _ => q6
            rename o5.data = _ => q5
            have hyl := hys.len
            have hnf := near_far c lsl3
            unfold nearL at hnf
            have hfD4 : M.Free D4 := free_off fun z hz => by
              have h2 : z ∈ M.led w (l.length : Nat) tp3 (lineAt l l.length) tl3 qv nq3 ++ tups3 := List.mem_append_left _ hz
              exact hne' z (.tail _ (.tail _ (.tail _ (.tail _ h2))))
            have hfD5 : M.Free D5 := free_off fun z hz => by
              have h2 : z ∈ M.led w (l.length : Nat) tp3 (lineAt l l.length) tl3 qv nq3 ++ tups3 := List.mem_append_left _ hz
              exact hne6 z (.tail _ (.tail _ (.tail _ (.tail _ (.tail _ h2)))))
            refine unhold (hideW fun QF hzF => for_src (g := g) (JPush w M l tp3 tl3 [(Str.ofString "machine", .ref M.mx), (Str.ofString "left", .ref DL3), (Str.ofString "joined", .bool jb), (Str.ofString "sides", .ref S), (Str.ofString "word", .str (str (wordOf c)) tx)] (D6, LCg.lst ys) (S, listO (vss ++ ys5) k8) (D5, listO ys5 k5') (D4, tup3 c.fst c.snd.fst c.snd.snd v1 v2 v3 0) (DL3, listO vsl kl3) (L' + 1 + 1, o6) (L' + 1, o5) tups3 lq (nearL c lsl3)) rfl rfl ?_)
            k_steps
            refine (ForGo.of [(D6, LCg.lst ys)] [(Str.ofString "machine", .ref M.mx), (Str.ofString "left", .ref DL3), (Str.ofString "joined", .bool jb), (Str.ofString "sides", .ref S), (Str.ofString "word", .str (str (wordOf c)) tx)] (src_list rfl N' (.head _)) F' N' (fun p hp => by rw [List.mem_singleton.mp hp]; exact .head _) (.cons rfl (.cons rfl (.cons rfl (.cons rfl (.cons rfl .nil))))) (⟨qv, _, by rw [List.take_zero, List.append_nil]; exact hqv⟩) ?_ ?_)
            · clear F' N'
              refine fun i v ps led u2 h10 k10 I oI hi hv hJ => JPush.casesOn hJ fun qv' nq' hqv' _ F N off => ?_
              dsimp only [ov] at F
              have hv3 : ys[i]? = some v := by simpa using hv
              refine RefAt.casesOn (hys.getR hv3) fun a9 r9 g9 b9 u1 u2 u3 un9 hve hm9 hl9 => ?_
              rw [hve] at F
              have hg9 := hg3 _ (List.mem_filter.mp (List.mem_of_getElem? hl9)).1
              k_steps
              refine unhold (con_keep (c_code w base a9 r9 g9 b9 u1 u2 u3 un9 hg9.c.1 hg9.c.2) B F X T _ N (fun q hq => by
                rw [List.mem_singleton.mp hq]
                exact .tail _ (.tail _ (.tail _ (.tail _ (.tail _ (.tail _ (.tail _ (.tail _ (List.mem_append_right _ hm9))))))))) (fun _ _ _ h q hq => by cases h; exact hq) rfl (by ktr_room) (by ktr_units) ?_)
              refine fun v mach' h11 k11 hr => OByt.casesOn hr fun t11 F11 N11 _ => ?_
              have N12 : News g L' h11 _ := fun p hp => N11 p (List.mem_append_right _ hp)
              clear F N N11
              k_steps
              have hsz := i2a_size (256 * r9 + 16 * g9 + b9) 3
              refine unhold (con_keep (c_plain w base _ _ (by omega)) B F11 X T _ N12 (fun _ h => nomatch h) (fun _ _ _ _ _ h => nomatch h) rfl (by ktr_room) (by ktr_units) ?_)
              refine fun v mach' h13 k13 hr => OStr.casesOn hr fun t13 F13 N13 _ => ?_
              clear F11 N12
              rw [List.nil_append] at N13
              rw [show (i2a 3 (256 * r9 + 16 * g9 + b9)).toList.map (·.toNat) = wordOf (r9, g9, b9) from rfl]
              k_steps
              have hfI : M.Free I := free_off fun z hz => Ne.symm (off z (.tail _ (.tail _ (.tail _ (.tail _ (.tail _ (.tail _ (.tail _ (List.mem_append_left _ hz)))))))))
              have hqz := hqv'.len_eq
              rw [List.length_map, List.length_map, List.length_append, List.length_take] at hqz
              have hqy : min i (nearL c lsl3).length ≤ lsl3.length := Nat.le_trans (Nat.min_le_right _ _) (List.length_filter_le _ _)
              refine unhold (push_mid ((I, oI) :: [(D6, LCg.lst ys), (S, listO (vss ++ ys5) k8), (D5, listO ys5 k5'), (D4, tup3 c.fst c.snd.fst c.snd.snd v1 v2 v3 0), (DL3, listO vsl kl3), (L' + 1 + 1, o6), (L' + 1, o5)]) tups3 O B F13 X T N13 (by
                simp only [List.forall_mem_cons]
                exact ⟨hfI, hfD6, hfS, hfD5, hfD4, hfD3, hf2, hf1, fun _ h => nomatch h⟩) (fun q hq => (hoff3 q hq).1.2.2) (by omega) rfl (by ktr_room) (by ktr_units) ?_)
              clear F13 N13
              intro h14 k14 n14 F14 N14
              k_steps
              simp only [List.cons_append, List.nil_append] at N14
              refine ForStep.go [(Str.ofString "machine", .ref M.mx), (Str.ofString "left", .ref DL3), (Str.ofString "joined", .bool jb), (Str.ofString "sides", .ref S), (Str.ofString "word", .str (str (wordOf c)) tx)] ((D6, LCg.lst ys) :: (S, listO (vss ++ ys5) k8) :: (D5, listO ys5 k5') :: (D4, tup3 c.fst c.snd.fst c.snd.snd v1 v2 v3 0) :: (DL3, listO vsl kl3) :: (L' + 1 + 1, o6) :: (L' + 1, o5) :: (M.led w (l.length : Nat) tp3 (lineAt l l.length) tl3 (qv' ++ [.str (str (wordOf (r9, g9, b9))) t13]) n14 ++ tups3)) F14 (.cons rfl (.cons rfl (.cons rfl (.cons rfl (.cons rfl .nil))))) N14 (fun _ h => h) ?_ (fun p hp => by rw [List.mem_singleton.mp hp]; exact .head _) ⟨_, _, ?_⟩
              · simp only [List.forall_mem_cons, List.forall_mem_append] at off ⊢
                obtain ⟨of1, of2, of3, of4, of5, of6, of7, -, of8⟩ := off
                exact ⟨of1, of2, of3, of4, of5, of6, of7, fun p h e => led_off hfI (List.mem_map.mpr ⟨p, h, e⟩), of8⟩
              · have hl10 : (nearL c lsl3)[i]? = some (r9, g9, b9) := hl9
                rw [List.take_add_one, hl10, ← List.append_assoc, List.map_append]
                exact strs_snoc (t := t13) hqv'
            · clear F' N'
              refine fun ps led u2 h10 k10 hJ => JPush.casesOn hJ fun qv' nq' hqv' F N => ?_
              dsimp only [ov] at F
              refine hzF _ _ ?_
              k_steps
              refine unhold (compT_A F (by rfl) (by with_unfolding_all rfl) (by with_unfolding_all rfl) (by decide) (by rfl) (by decide) (by rfl) (by rfl) (by rfl) ?_)
              k_steps
              refine (SrcGo.of [(DL3, listO vsl kl3)] (src_list rfl N (.tail _ (.tail _ (.tail _ (.tail _ (.head _)))))) (by show vsl.toArray.size ≤ 16777216; rw [List.size_toArray]; omega) F N (fun p hp => by rw [List.mem_singleton.mp hp]; exact .tail _ (.tail _ (.tail _ (.tail _ (.head _))))) (fun g5 => ?_))
              refine restT_indL ((D6, LCg.lst ys) :: (S, listO (vss ++ ys5) k8) :: (D5, listO ys5 k5') :: (D4, tup3 c.fst c.snd.fst c.snd.snd v1 v2 v3 0) :: (DL3, listO vsl kl3) :: (L' + 1 + 1, o6) :: (L' + 1, o5) :: (M.led w (l.length : Nat) tp3 (lineAt l l.length) tl3 qv' nq' ++ tups3)) (fun i ys2 => Refs tups3 ys2 ((lsl3.take i).filter (fun o => !touchL c o))) .nil ?_ ?_
              · clear F N
                intro LD hLD i v ys2 I oI C oC D m₂ h11 k11 E' hi hv hys2 hC hx F N off ne
                have hv3 : vsl[i]? = some v := by simpa using hv
                refine RefAt.casesOn (hrf3.getR hv3) fun a9 r9 g9 b9 u1 u2 u3 un9 hve hm9 hl9 => ?_
                rw [hve] at hx
                have hlm := List.mem_of_getElem? hl9
                k_steps
                refine unhold (q_notIn N (D := D6) (ls := lsl3.filter (touchL c)) (.tail _ (.tail _ (.tail _ (.head _)))) (hys.mono fun p hp => .tail _ (.tail _ (.tail _ (.tail _ (.tail _ (.tail _ (.tail _ (.tail _ (.tail _ (.tail _ (List.mem_append_right _ hp))))))))))) (.tail _ (.tail _ (.tail _ (.tail _ (.tail _ (.tail _ (.tail _ (.tail _ (.tail _ (.tail _ (List.mem_append_right _ hm9))))))))))) (by ktr_units) ?_)
                rw [near_contains hlm]
                have htl : List.take (i + 1) lsl3 = List.take i lsl3 ++ [(r9, g9, b9)] := by rw [List.take_add_one, hl9]; rfl
                cases htc : touchL c (r9, g9, b9) with
                | true =>
                  have hb' : ¬ (!touchL c (r9, g9, b9)) = true := by rw [htc]; decide
                  k_steps
                  refine LCg.CompEnd.intro F N ((D6, LCg.lst ys) :: (S, listO (vss ++ ys5) k8) :: (D5, listO ys5 k5') :: (D4, tup3 c.fst c.snd.fst c.snd.snd v1 v2 v3 0) :: (DL3, listO vsl kl3) :: (L' + 1 + 1, o6) :: (L' + 1, o5) :: (M.led w (l.length : Nat) tp3 (lineAt l l.length) tl3 qv' nq' ++ tups3)) (fun _ h => h) off (fun p hp => by rw [List.mem_singleton.mp hp]; exact .tail _ (.tail _ (.tail _ (.tail _ (.head _))))) (.of hLD ?_)
                  rw [htl, List.filter_append, List.filter_cons_of_neg (p := fun o => !touchL c o) hb', List.filter_nil, List.append_nil]
                  exact hys2
                | false =>
                  have hb' : (!touchL c (r9, g9, b9)) = true := by rw [htc]; rfl
                  k_steps
                  refine LCg.CompEnd.intro F N ((D6, LCg.lst ys) :: (S, listO (vss ++ ys5) k8) :: (D5, listO ys5 k5') :: (D4, tup3 c.fst c.snd.fst c.snd.snd v1 v2 v3 0) :: (DL3, listO vsl kl3) :: (L' + 1 + 1, o6) :: (L' + 1, o5) :: (M.led w (l.length : Nat) tp3 (lineAt l l.length) tl3 qv' nq' ++ tups3)) (fun _ h => h) off (fun p hp => by rw [List.mem_singleton.mp hp]; exact .tail _ (.tail _ (.tail _ (.tail _ (.head _))))) (.of hLD ?_)
                  rw [htl, List.filter_append, List.filter_cons_of_pos (p := fun o => !touchL c o) hb']
                  exact hys2.snoc hm9
              · clear F N
                intro ys2 hys2 D7 h11 k11 F N od
                have htk : lsl3.take vsl.toArray.size = lsl3 := by rw [List.size_toArray, hvl3]; exact List.take_length
                rw [htk] at hys2
                have odm := off1_mem od
                have hfD7 : M.Free D7 := free_off fun z hz => Ne.symm (odm z (.tail _ (.tail _ (.tail _ (.tail _ (.tail _ (.tail _ (.tail _ (List.mem_append_left _ hz)))))))))
                have hd71 : @Ne Nat D7 (L' + 1) := Ne.symm (odm _ (.tail _ (.tail _ (.tail _ (.tail _ (.tail _ (.tail _ (.head _))))))))
                have hd72 : @Ne Nat D7 (L' + 1 + 1) := Ne.symm (odm _ (.tail _ (.tail _ (.tail _ (.tail _ (.tail _ (.head _)))))))
                have hd7S : @Ne Nat D7 S := Ne.symm (odm _ (.tail _ (.head _)))
                have htk2 : (nearL c lsl3).take ys.toArray.size = nearL c lsl3 := by rw [List.size_toArray, hyl]; exact List.take_length
                rw [htk2] at hqv'
                k_steps
                have N2 : News g L' h11 ([(S, listO (vss ++ ys5) k8), (D7, LCg.lst ys2), (L' + 1 + 1, o6), (L' + 1, o5)] ++ (M.led w (l.length : Nat) tp3 (lineAt l l.length) tl3 qv' nq' ++ tups3)) := fun p hp => N p (by
                  rcases List.mem_cons.mp hp with rfl | hp
                  · exact .tail _ (.tail _ (.head _))
                  · rcases List.mem_cons.mp hp with rfl | hp
                    · exact .head _
                    · rcases List.mem_cons.mp hp with rfl | hp
                      · exact .tail _ (.tail _ (.tail _ (.tail _ (.tail _ (.tail _ (.head _))))))
                      · exact .tail _ (.tail _ (.tail _ (.tail _ (.tail _ (.tail _ (.tail _ hp)))))))
                clear N
                have hfr4 : ∀ q ∈ [(S, listO (vss ++ ys5) k8), (D7, LCg.lst ys2), (L' + 1 + 1, o6), (L' + 1, o5)], M.Free q.1 := by
                  simp only [List.forall_mem_cons]
                  exact ⟨hfS, hfD7, hf2, hf1, fun _ h => nomatch h⟩
                rw [bfs_cons] at hb
                have hnq : (lq ++ nearL c lsl3).length + (farL c lsl3).length = lq.length + lsl3.length := by rw [List.length_append]; unfold nearL; omega
                have hgfar : ∀ x ∈ farL c lsl3, Good x := fun x hx => hg3 x (List.mem_filter.mp hx).1
                have hgq2 : ∀ x ∈ lq ++ nearL c lsl3, Good x := fun x hx => (List.mem_append.mp hx).elim (hgq x) (fun hx => hg3 x (List.mem_filter.mp hx).1)
                have hsd2 : IntsAre (vss ++ ys5) (sd ++ sidesL c) := IntsAre.append hsd hys5
                have hsl2 : (sd ++ sidesL c).length ≤ sd.length + 3 := by rw [List.length_append]; have := sides_len c.1 c.2.1 c.2.2; unfold sidesL; omega
                have hhh : (lq ++ nearL c lsl3).length = lq.length + (nearL c lsl3).length := List.length_append
                generalize hqe : lq ++ nearL c lsl3 = qq at hqv' hb hnq hgq2 hhh
                cases qq with
                | nil =>
                  cases hqv'
                  refine unhold (gt_mid [(S, listO (vss ++ ys5) k8), (D7, LCg.lst ys2), (L' + 1 + 1, o6), (L' + 1, o5)] tups3 hl hsm O RS (Nat.le_refl _) B F X T N2 hfr4 (fun q hq => (hoff3 q hq).1.2.2) rfl (by ktr_room) (by ktr_units) (x := []) (r := []) (by rw [List.drop_length]; rfl) ?_)
                  intro h12 k12 t12 tp12 tl12 F12 N12
                  clear F N2
                  rw [List.length_nil] at hnq hhh
                  k_steps
                  rename Fr _ _ _ _ => F'; rename News _ _ _ _ => N'
                  have ar := ar0 hnq hhh hn3 hn40 hsl hsl2
                  refine LoopStep.go (2 * (farL c lsl3).length) [(Str.ofString "machine", .ref M.mx), (Str.ofString "left", .ref D7), (Str.ofString "joined", .bool jb), (Str.ofString "sides", .ref S), (Str.ofString "word", .str (str []) t12)] ((S, listO (vss ++ ys5) k8) :: (D7, LCg.lst ys2) :: (L' + 1 + 1, o6) :: (L' + 1, o5) :: (M.led w (l.length : Nat) tp12 (lineAt l l.length) tl12 [] nq' ++ tups3)) F' (.cons rfl (.cons rfl (.cons rfl (.cons rfl (.cons rfl .nil))))) N' (fun _ h => h) ar.1 ⟨D7, ys2, _, farL c lsl3, _, _, _, [], [], [], t12, tups3, o6, o5, tp12, tl12, nq', _, _, hys2, hoff3, hfD7, ⟨hd7S, hd72, hd71⟩, hgfar, (fun _ h => nomatch h), hsd2, .nil, q6, q5, ar.2.1, ar.2.2, .inl ⟨rfl, rfl, hb, rfl⟩⟩
                | cons c2 rest =>
                  cases hqv' with
                  | cons t2 _ hqr =>
                  refine unhold (pop_mid [(S, listO (vss ++ ys5) k8), (D7, LCg.lst ys2), (L' + 1 + 1, o6), (L' + 1, o5)] tups3 O B F X T N2 hfr4 (fun q hq => (hoff3 q hq).1.2.2) (by have e := hqr.len_eq; rw [List.length_map, List.length_map] at e; rw [List.length_cons] at hhh ⊢; exact ar2 e hhh hn3 hn40 (List.length_filter_le _ _)) rfl (by ktr_room) (by ktr_units) ?_)
                  intro h12 k12 n12 F12 N12
                  clear F N2
                  rw [List.length_cons] at hnq hhh
                  k_steps
                  rename Fr _ _ _ _ => F'; rename News _ _ _ _ => N'
                  have ar := ar1 hnq hhh hn3 hn40 hsl hsl2
                  refine LoopStep.go (2 * (farL c lsl3).length + rest.length + 1) [(Str.ofString "machine", .ref M.mx), (Str.ofString "left", .ref D7), (Str.ofString "joined", .bool jb), (Str.ofString "sides", .ref S), (Str.ofString "word", .str (str (wordOf c2)) _)] ((S, listO (vss ++ ys5) k8) :: (D7, LCg.lst ys2) :: (L' + 1 + 1, o6) :: (L' + 1, o5) :: (M.led w (l.length : Nat) tp3 (lineAt l l.length) tl3 _ n12 ++ tups3)) F' (.cons rfl (.cons rfl (.cons rfl (.cons rfl (.cons rfl .nil))))) N' (fun _ h => h) ar.1 ⟨D7, ys2, _, farL c lsl3, _, _, _, _, rest, (wordOf c2), _, tups3, o6, o5, tp3, tl3, n12, _, _, hys2, hoff3, hfD7, ⟨hd7S, hd72, hd71⟩, hgfar, (fun x hx => hgq2 x (.tail _ hx)), hsd2, hqr, q6, q5, ar.2.1, ar.2.2, .inr ⟨c2, rfl, hgq2 c2 (.head _), hb, rfl⟩⟩
        all_goals (rename (_ != Str.ofString "") = false => hw1; rw [str_nonempty hgc3.w.1] at hw1; cases hw1)
end
section
local macro_rules | `(tactic| walk_at "subscriptTail Name Name ref int") => `(tactic| refine hold ?_)
theorem ints_at {vs : List Value} {ns : List Int} (h : IntsAre vs ns) {i : Nat} (hi : i < ns.length) : ∃ n t, vs[i]? = some (.int n t) ∧ ns[i]? = some n := by
  induction h generalizing i with
  | nil => exact absurd hi (by simp)
  | cons n t _ ih =>
    cases i with
    | zero => exact ⟨n, t, rfl, rfl⟩
    | succ i => exact ih (by simpa using hi)
inductive IntAt (vs : List Value) (ns : List Int) (i : Nat) : Prop
  | mk (n : Int) (t : Tok) (h1 : vs[i]? = some (.int n t)) (h2 : ns[i]? = some n) : IntAt vs ns i
theorem ints_atR {vs : List Value} {ns : List Int} (h : IntsAre vs ns) {i : Nat} (hi : i < ns.length) : IntAt vs ns i := by
  obtain ⟨n, t, h1, h2⟩ := ints_at h hi
  exact ⟨n, t, h1, h2⟩
noncomputable def fixL : List Int := [0, 1, 2, 1, 1, 1, 4, 0, 1, 2, 4, 0, 1, 2, 4]
noncomputable def drawsOf (sc : List Int) : List Int := (List.range 15).map fun k => ((if k < sc.length then sc else fixL).getD k 0).fmod 6
theorem draws_step {sc : List Int} {i : Nat} {n : Int} {ys : List Value} {t : Tok} (hi : i < 15) (h : (if i < sc.length then sc else fixL)[i]? = some n) (hys : IntsAre ys ((drawsOf sc).take i)) : IntsAre (ys ++ [.int (n.fmod 6) t]) ((drawsOf sc).take (i + 1)) := by
  have e : (drawsOf sc)[i]? = some (n.fmod 6) := by
    unfold drawsOf
    rw [List.getElem?_map, List.getElem?_range hi]
    show some (((if i < sc.length then sc else fixL).getD i 0).fmod 6) = _
    rw [List.getD_eq_getElem?_getD, h]; rfl
  rw [List.take_add_one, e]
  exact ints_snoc hys
local macro_rules | `(tactic| walk_at "call builtin:len") => `(tactic| refine hold ?_)
local macro_rules | `(tactic| walk_at "call type:range") => `(tactic| ((rename Fr _ _ _ _ => F'); (rename News _ _ _ _ => N'); first | (with_unfolding_all refine range1_rows F' N' ?_; intro _ _ _ _ _ _ _ _ _) | (with_unfolding_all refine range2_rows F' N' ?_; intro _ _ _ _ _ _ _ _ _)))
theorem c_draws (w : World) (base : Heap) (Ds : Addr) (vs : List Value) (sc : List Int) (hv : IntsAre vs sc) (hl : sc.length ≤ 63) (hS : base.IsList Ds vs.toArray) : Con w 104 [.ref Ds] [] base 6 60 (fun _ => OInts (drawsOf sc) []) := by
  intro p loose mean mg mb dp un gd cn cs a ccd cl outer A₀ h₀ L m s Q B F X N T hk hdp hun hret
  revert X; k_fill; intro X
  k_dflt (refine' enterC B F X N T ?kA ?kF ?kK hret ?k6 ?k7 ?k8 ?k9 ?kB ?kD ?_ ?c2 ?c3 ?c4; (case kA => exact rfl); (case kF => exact rfl); (case kK => assumption); (case k6 => k_is); (case k7 => k_is); (case k8 => ktr_room); (case k9 => exact BindsTo.of_eq rfl); (case kB => exact rfl); (case kD => decide +kernel); (case c2 => exact rfl); (case c3 => exact rfl); (case c4 => exact rfl); k_whole)
  clear F X N T B hret
  intro g L' h' tk' cells' qk hL F' N' Y' B X T l1 hq; (try k_lt l1); k_cells Y'; (try simp only [List.cons_append, List.nil_append] at N'); (try dsimp only)
  k_steps
  rename Fr _ _ _ _ => F'; rename News _ _ _ _ => N'
  rename_i oA oB qA qB Df h1 lX hX oC qC
  obtain ⟨fv, nf, hfv, N2⟩ : ∃ fv nf, IntsAre fv fixL ∧ News g L' hX ((Df, listO fv nf) :: _) := ⟨_, _, .cons _ _ (.cons _ _ (.cons _ _ (.cons _ _ (.cons _ _ (.cons _ _ (.cons _ _ (.cons _ _ (.cons _ _ (.cons _ _ (.cons _ _ (.cons _ _ (.cons _ _ (.cons _ _ (.cons _ _ .nil)))))))))))))), N'⟩
  clear N'
  refine unhold (comp_E F' (by with_unfolding_all rfl) (by decide) (by rfl) (by decide) (by rfl) ?_)
  k_steps
  rename Fr _ _ _ _ => F'; rename News _ _ _ _ => N'
  rename IsRange _ _ _ _ _ _ _ _ => hR
  have hvl := ints_len hv
  have hfl : fv.length = 15 := ints_len hfv
  refine (SrcGo.of [] (src_range rfl hR (by decide) (n := 15) (by decide)) (by decide) F' N' (fun _ h => nomatch h) (fun g5 => ?_))
  refine rest_indRL [(Df, listO fv nf), (L' + 1 + 1, oC), (L' + 1, oB)] (fun i ys => IntsAre ys ((drawsOf sc).take i)) .nil ?_ ?_
  · clear F' N'
    intro LD hLD i u ys I oI C oC2 D m₂ h5 k5 E' hi hys hC hx F N off ne
    simp only [LCg.Off3, and_true] at off
    have e1f := off.1.1
    have e2f := off.1.2.1
    have e3f := off.1.2.2
    have e4f := off.2.1.1
    have e5f := off.2.1.2.1
    have e6f := off.2.1.2.2
    have e7f := off.2.2.1
    have e8f := off.2.2.2.1
    have e9f := off.2.2.2.2
    have n1f := ne.1
    have n2f := ne.2.1
    have n3f := ne.2.2
    have hSn : h5.IsList Ds vs.toArray := hS.at fun o e => F.keep _ _ (B.stays _ _ e)
    k_steps
    refine unhold (Calls.call_len_list hSn (by rw [List.size_toArray]; omega) ?_)
    rw [List.size_toArray, hvl]
    k_steps
    · rename _ < (sc.length : Int) => hlt
      refine IntAt.casesOn (ints_atR (i := i) hv (by omega)) fun n t hn1 hn2 => ?_
      refine unhold (item_listL hSn (by omega) (by omega) (x := .int n t) (by rw [show (0 + (i : Int)).toNat = i by omega]; exact hn1) ?_)
      k_steps
      exact LedIs.of hLD (draws_step hi (by rw [if_pos (by omega)]; exact hn2) hys)
    · rename ¬ _ < (sc.length : Int) => hlt
      refine IntAt.casesOn (ints_atR (i := i) hfv (by show i < 15; exact hi)) fun n t hn1 hn2 => ?_
      refine unhold (q_item N (.tail _ (.tail _ (.tail _ (.head _)))) (by omega) (by omega) (x := .int n t) (by rw [show (0 + (i : Int)).toNat = i by omega]; exact hn1) ?_)
      k_steps
      exact LedIs.of hLD (draws_step hi (by rw [if_neg (by omega)]; exact hn2) hys)
  · clear F' N'
    intro ys hys D' h5 k5 F N od
    simp only [LCg.Off1, and_true] at od
    k_steps
    exact hq _ _ (leaveS [_] _ F N (fun p hp => by rw [List.mem_singleton.mp hp]; exact .head _) (.mk _ _ _ (by rw [show drawsOf sc = (drawsOf sc).take 15 from rfl]; exact hys)) hL)
end
section
noncomputable def sumsRow (r1 r2 : List Int) (n : Nat) : List Int := (List.range n).map fun j => r1.getD j 0 + r2.getD j 0 + r2.getD (j + 1) 0
noncomputable def voteRow (r1 r2 : List Int) (n : Nat) : List Int := (sumsRow r1 r2 n).map fun s => if s > 1 then 1 else 0
noncomputable def votesOf (rows : List (List Int)) : List (List Int) := (List.range (rows.length - 1)).map fun i => voteRow (rows.getD i []) (rows.getD (i + 1) []) (i + 1)
noncomputable def lastR : Nat → List (List Int) → Int
  | 0, rows => (rows.getD 0 []).getD 0 0
  | n + 1, rows => lastR n (votesOf rows)
noncomputable def rowsOf (sc : List Int) : List (List Int) := [sc.take 1, (sc.drop 1).take 2, (sc.drop 3).take 3, (sc.drop 6).take 4, (sc.drop 10).take 5]
noncomputable def Shape (n : Nat) (rows : List (List Int)) : Prop := rows.length = n ∧ ∀ i, i < n → (rows.getD i []).length = i + 1
theorem shape_rows {sc : List Int} (h : sc.length = 15) : Shape 5 (rowsOf sc) := by
  refine ⟨rfl, fun i hi => ?_⟩
  have : i = 0 ∨ i = 1 ∨ i = 2 ∨ i = 3 ∨ i = 4 := by omega
  rcases this with rfl | rfl | rfl | rfl | rfl
  · show (sc.take 1).length = 1; rw [List.length_take]; omega
  · show ((sc.drop 1).take 2).length = 2; rw [List.length_take, List.length_drop]; omega
  · show ((sc.drop 3).take 3).length = 3; rw [List.length_take, List.length_drop]; omega
  · show ((sc.drop 6).take 4).length = 4; rw [List.length_take, List.length_drop]; omega
  · show ((sc.drop 10).take 5).length = 5; rw [List.length_take, List.length_drop]; omega
theorem votes_get {rows : List (List Int)} {i : Nat} (h : i < rows.length - 1) : (votesOf rows)[i]? = some (voteRow (rows.getD i []) (rows.getD (i + 1) []) (i + 1)) := by
  unfold votesOf
  rw [List.getElem?_map, List.getElem?_range h]; rfl
theorem shape_votes {n : Nat} {rows : List (List Int)} (h : Shape (n + 1) rows) : Shape n (votesOf rows) := by
  have hl : (votesOf rows).length = n := by unfold votesOf; rw [List.length_map, List.length_range, h.1]; rfl
  refine ⟨hl, fun i hi => ?_⟩
  rw [List.getD_eq_getElem?_getD, votes_get (by rw [h.1]; exact hi)]
  show (voteRow _ _ _).length = _
  unfold voteRow sumsRow
  rw [List.length_map, List.length_map, List.length_range]
theorem ints_take {vs : List Value} {ns : List Int} (h : IntsAre vs ns) : ∀ k, IntsAre (vs.take k) (ns.take k) := by
  induction h with
  | nil => intro k; rw [List.take_nil, List.take_nil]; exact .nil
  | cons n t _ ih =>
    intro k
    cases k with
    | zero => exact .nil
    | succ k => exact .cons n t (ih k)
theorem ints_drop {vs : List Value} {ns : List Int} (h : IntsAre vs ns) : ∀ k, IntsAre (vs.drop k) (ns.drop k) := by
  induction h with
  | nil => intro k; rw [List.drop_nil, List.drop_nil]; exact .nil
  | cons n t h ih =>
    intro k
    cases k with
    | zero => exact .cons n t h
    | succ k => exact ih k
theorem sums_get {r1 r2 : List Int} {n j : Nat} {a b c : Int} (hj : j < n) (h1 : r1[j]? = some a) (h2 : r2[j]? = some b) (h3 : r2[j + 1]? = some c) : (sumsRow r1 r2 n)[j]? = some (a + b + c) := by
  unfold sumsRow
  rw [List.getElem?_map, List.getElem?_range hj]
  show some (r1.getD j 0 + r2.getD j 0 + r2.getD (j + 1) 0) = _
  rw [List.getD_eq_getElem?_getD, List.getD_eq_getElem?_getD, List.getD_eq_getElem?_getD, h1, h2, h3]; rfl
theorem vote_get {r1 r2 : List Int} {n j : Nat} {s : Int} (h : (sumsRow r1 r2 n)[j]? = some s) : (voteRow r1 r2 n)[j]? = some (if s > 1 then 1 else 0) := by
  unfold voteRow
  rw [List.getElem?_map, h]; rfl
theorem sums_len {r1 r2 : List Int} {n : Nat} : (sumsRow r1 r2 n).length = n := by unfold sumsRow; rw [List.length_map, List.length_range]
theorem vote_len {r1 r2 : List Int} {n : Nat} : (voteRow r1 r2 n).length = n := by unfold voteRow; rw [List.length_map, sums_len]
theorem ints_next {l : List Int} {ys : List Value} {j : Nat} {x : Int} {t : Tok} (h : l[j]? = some x) (hys : IntsAre ys (l.take j)) : IntsAre (ys ++ [.int x t]) (l.take (j + 1)) := by
  rw [List.take_add_one, h]
  exact ints_snoc hys
theorem small_ok : ∀ k, k ≤ 5 → Builtin.Range.small 0 (k : Nat) 1 = true := by decide
theorem size_ok : ∀ k, k ≤ 5 → Builtin.Range.rangeSize 0 (k : Nat) 1 = (k : Nat) := by decide
/-- these references are to these lists of ints -/
inductive RowsAre (led : List (Addr × Obj)) : List Value → List (List Int) → Prop
  | nil : RowsAre led [] []
  | cons {a : Addr} {xs : List Value} {k : Nat} {row : List Int} {vs : List Value} {rows : List (List Int)} : (a, listO xs k) ∈ led → IntsAre xs row → RowsAre led vs rows → RowsAre led (.ref a :: vs) (row :: rows)
theorem RowsAre.mono {led led' : List (Addr × Obj)} {vs : List Value} {ls : List (List Int)} (h : RowsAre led vs ls) (hs : ∀ p ∈ led, p ∈ led') : RowsAre led' vs ls := by
  induction h with
  | nil => exact .nil
  | cons h hi _ ih => exact .cons (hs _ h) hi ih
theorem RowsAre.len {led : List (Addr × Obj)} {vs : List Value} {ls : List (List Int)} (h : RowsAre led vs ls) : vs.length = ls.length := by
  induction h with
  | nil => rfl
  | cons _ _ _ ih => rw [List.length_cons, List.length_cons, ih]
theorem RowsAre.snoc {led : List (Addr × Obj)} {vs : List Value} {ls : List (List Int)} {a : Addr} {xs : List Value} {k : Nat} {row : List Int} (h : RowsAre led vs ls) (hm : (a, listO xs k) ∈ led) (hi : IntsAre xs row) : RowsAre led (vs ++ [.ref a]) (ls ++ [row]) := by
  induction h with
  | nil => exact .cons hm hi .nil
  | cons h h2 _ ih => exact .cons h h2 ih
theorem RowsAre.get {led : List (Addr × Obj)} {vs : List Value} {ls : List (List Int)} (h : RowsAre led vs ls) {i : Nat} (hi : i < ls.length) : ∃ a xs k, vs[i]? = some (.ref a) ∧ (a, listO xs k) ∈ led ∧ IntsAre xs (ls.getD i []) := by
  induction h generalizing i with
  | nil => exact absurd hi (by simp)
  | cons hm h2 _ ih =>
    cases i with
    | zero => exact ⟨_, _, _, rfl, hm, h2⟩
    | succ i =>
      obtain ⟨a, xs, k, e1, e2, e3⟩ := ih (i := i) (by simpa using hi)
      exact ⟨a, xs, k, by simpa using e1, e2, by simpa using e3⟩
inductive RowAt (led : List (Addr × Obj)) (vs : List Value) (ls : List (List Int)) (i : Nat) : Prop
  | mk (a : Addr) (xs : List Value) (k : Nat) (h1 : vs[i]? = some (.ref a)) (h2 : (a, listO xs k) ∈ led) (h3 : IntsAre xs (ls.getD i [])) : RowAt led vs ls i
theorem RowsAre.getR {led : List (Addr × Obj)} {vs : List Value} {ls : List (List Int)} (h : RowsAre led vs ls) {i : Nat} (hi : i < ls.length) : RowAt led vs ls i := by
  obtain ⟨a, xs, k, h1, h2, h3⟩ := h.get hi
  exact ⟨a, xs, k, h1, h2, h3⟩
theorem news_sub {g : Heap} {L : Addr} {h : Heap} {led led' : List (Addr × Obj)} (N : News g L h led) (hs : ∀ p ∈ led', p ∈ led) : News g L h led' := fun p hp => N p (hs p hp)
end
section
theorem q_slice2 {prog : Program} {w : World} {A : Around} {E : Value → Shared → Prop} {s : Shared} {g : Heap} {L : Addr} {m : Str → Option Value} {led : List (Addr × Obj)} {value slice : Expr} {D : Addr} {vs : List Value} {k : Nat} {lo hi : Int} {u u2 : Tok} {Q : Value → Shared → Prop} (F : Fr g L s.heap m) (N : News g L s.heap led) (hm : (D, listO vs k) ∈ led) (hz : vs.length ≤ 100000) (h0 : 0 ≤ lo) (h1 : lo ≤ hi) (h2 : hi ≤ vs.length)
    (h : ∀ D' h', Fr g L h' m → News g L h' ((D', listO ((vs.drop lo.toNat).take (hi.toNat - lo.toNat)) 0) :: led) → (∀ p ∈ led, p.1 < D') → Q (.ref D') { s with heap := h' })
    (hs : subscripted slice false (.ref D) (.ref s.heap.objs.size) = operate [.ref s.heap.objs.size, .ref D] (getItem (.ref D) (.ref s.heap.objs.size)) := by with_unfolding_all rfl) (ht : ∀ r, letTemporaryGo value (.ref D) r = pure () := by intro _; with_unfolding_all rfl) :
    wpAny (model prog w) A (subscriptTail value slice (.ref D) (.ref s.heap.objs.size)) Q E { s with heap := s.heap.push { cls := .type "slice", data := .fields #[.int lo u, .int hi u2, .none] } } :=
  kms_slice_lit (lo := some lo) (hi := some hi) (zs := (vs.drop lo.toNat).take (hi.toNat - lo.toNat)) F N (News.isList N hm) (by constructor) (by constructor) (by
    unfold kms_pick
    show (vs.drop (kms_lo (some lo) vs.length)).take (kms_hi (some hi) vs.length - kms_lo (some lo) vs.length) = _
    have e1 : kms_lo (some lo) vs.length = lo.toNat := by
      show (if lo < 0 then _ else min lo.toNat vs.length) = _
      rw [if_neg (by omega)]; omega
    have e2 : kms_hi (some hi) vs.length = hi.toNat := by
      show (if hi < 0 then _ else min hi.toNat vs.length) = _
      rw [if_neg (by omega)]; omega
    rw [e1, e2]) h hs ht (by show vs.length ≤ 16777216; omega)
local macro_rules | `(tactic| walk_at "subscriptTail Name Name ref int") => `(tactic| refine hold ?_)
local macro_rules | `(tactic| walk_at "subscriptTail Name Slice ref ref") => `(tactic| ((with_reducible rename News _ _ _ _ => nX); (with_reducible rename Fr _ _ _ _ => fX); k_dflt (refine' q_slice2 fX nX ?k1 ?k2 ?k3 ?k4 ?k5 ?_; (case k1 => k_mem); (case k2 => omega); (case k3 => decide); (case k4 => decide); (case k5 => omega)); clear nX fX; intro D' h' F' N' l1; (try k_lt l1)))
local macro_rules | `(tactic| walk_at "call builtin:len") => `(tactic| refine hold ?_)
local macro_rules | `(tactic| walk_at "subscriptTail Name Constant ref int") => `(tactic| refine hold ?_)
local macro_rules | `(tactic| walk_at "subscriptTail Subscript Constant ref int") => `(tactic| refine hold ?_)
local macro_rules | `(tactic| walk_at "subscriptTail Subscript Name ref int") => `(tactic| refine hold ?_)
local macro_rules | `(tactic| walk_at "subscriptTail Name BinOp ref int") => `(tactic| refine hold ?_)
local macro_rules | `(tactic| walk_at "subscriptTail Subscript BinOp ref int") => `(tactic| refine hold ?_)
local macro_rules | `(tactic| k_all) => `(tactic| with_unfolding_all assumption)
local macro_rules | `(tactic| walk_at "subscriptTail Subscript") => `(tactic| (k_dflt (refine kba_turn (value' := PySem.Expr.Name (PySem.Str.ofString "_") ⟨0, 0, 0, 0⟩) (fun _ => rfl) ?_); refine hold ?_))
local macro_rules | `(tactic| walk_at "call builtin:list.append") => `(tactic| refine hold ?_)
inductive JVot (a1 a2 Ds : Addr) (vs : List Value) (k0 : Nat) (RES : Int) (n : Nat) : List (Str × Value) → List (Addr × Obj) → Prop
  | mk (DR : Addr) (rv : List Value) (kr : Nat) (rows : List (List Int)) (ext : List (Addr × Obj)) (o1 o2 : Obj) (c2 : Option Value) (h1 : RowsAre ext rv rows) (h2 : ∀ q ∈ ext, @Ne Nat q.1 a1 ∧ @Ne Nat q.1 a2 ∧ @Ne Nat q.1 DR ∧ @Ne Nat q.1 Ds) (h3 : @Ne Nat DR a1 ∧ @Ne Nat DR a2 ∧ @Ne Nat DR Ds) (h4 : Shape (n + 1) rows) (h5 : lastR n rows = RES) (h6 : o1.data = .cell (some (.ref DR))) (h7 : o2.data = .cell c2) (h8 : n ≤ 4) :
    JVot a1 a2 Ds vs k0 RES n [(Str.ofString "owners", .ref Ds)] ((DR, listO rv kr) :: (a2, o2) :: (a1, o1) :: (Ds, listO vs k0) :: ext)
inductive JRow (a1 a2 Ds DR : Addr) (vs : List Value) (k0 : Nat) (rv : List Value) (kr : Nat) (rows : List (List Int)) (o1 : Obj) (i : Nat) : List (Str × Value) → List (Addr × Obj) → Prop
  | mk (DV : Addr) (vv : List Value) (kv : Nat) (e2 : List (Addr × Obj)) (o3 : Obj) (c3 : Option Value) (h1 : RowsAre e2 rv rows) (h2 : RowsAre e2 vv ((votesOf rows).take i)) (h3 : ∀ q ∈ e2, @Ne Nat q.1 a1 ∧ @Ne Nat q.1 a2 ∧ @Ne Nat q.1 DR ∧ @Ne Nat q.1 Ds ∧ @Ne Nat q.1 DV) (h4 : @Ne Nat DV a1 ∧ @Ne Nat DV a2 ∧ @Ne Nat DV DR ∧ @Ne Nat DV Ds) (h5 : o3.data = .cell c3) :
    JRow a1 a2 Ds DR vs k0 rv kr rows o1 i [(Str.ofString "owners", .ref Ds), (Str.ofString "votes", .ref DV)] ((DV, listO vv kv) :: (DR, listO rv kr) :: (a2, o3) :: (a1, o1) :: (Ds, listO vs k0) :: e2)
local macro_rules | `(tactic| walk_at "call type:range") => `(tactic| ((rename Fr _ _ _ _ => F'); (rename News _ _ _ _ => N'); first | (with_unfolding_all refine range1_rows F' N' ?_; intro _ _ _ _ _ _ _ _ _) | (with_unfolding_all refine range2_rows F' N' ?_; intro _ _ _ _ _ _ _ _ _)))
theorem ar5 {v i n k : Nat} (e : v = min i k) (h : i < n) (hn : n ≤ 4) : v ≤ 100000 := by omega
theorem ar6 {i n : Nat} (h : i < n) (hn : n ≤ 4) : i ≤ 4 := by omega
theorem ixa (i : Nat) : (0 : Int) ≤ 0 + (i : Int) := by omega
theorem ixb {i : Nat} (h : i ≤ 4) : 0 + (i : Int) < 2 ^ 63 := by omega
theorem ixc (i : Nat) : (0 + (i : Int)).toNat = i := by omega
theorem ixa1 (i : Nat) : (0 : Int) ≤ 0 + (i : Int) + 1 := by omega
theorem ixb1 {i : Nat} (h : i ≤ 4) : 0 + (i : Int) + 1 < 2 ^ 63 := by omega
theorem ixc1 (i : Nat) : (0 + (i : Int) + 1).toNat = i + 1 := by omega
theorem c_last (w : World) (base : Heap) (Ds : Addr) (vs : List Value) (k0 : Nat) (sc : List Int) (hv : IntsAre vs sc) (hl : sc.length = 15) : Con w 162 [.ref Ds] [(Ds, listO vs k0)] base 6 60 (fun _ => OInt (lastR 4 (rowsOf sc)) [(Ds, listO vs k0)]) := by
  have hvl : vs.length = 15 := (ints_len hv).trans hl
  intro p loose mean mg mb dp un gd cn cs a ccd cl outer A₀ h₀ L m s Q B F X N T hk hdp hun hret
  revert X; k_fill; intro X
  k_dflt (refine' enterC B F X N T ?kA ?kF ?kK hret ?k6 ?k7 ?k8 ?k9 ?kB ?kD ?_ ?c2 ?c3 ?c4; (case kA => exact rfl); (case kF => exact rfl); (case kK => assumption); (case k6 => k_is); (case k7 => k_is); (case k8 => ktr_room); (case k9 => exact BindsTo.of_eq rfl); (case kB => exact rfl); (case kD => decide +kernel); (case c2 => exact rfl); (case c3 => exact rfl); (case c4 => exact rfl); k_whole)
  clear F X N T B hret
  intro g L' h' tk' cells' qk hL F' N' Y' B X T l1 hq; (try k_lt l1); k_cells Y'; (try simp only [List.cons_append, List.nil_append] at N'); (try dsimp only)
  k_steps
  rename Fr _ _ _ _ => F'; rename News _ _ _ _ => N'
  rename_i oA oB qA qB D0 g0 l0 D1 g1 l1x D2 g2 l2 D3 g3 l3 D4 g4 l4 DR gR lR hX oR qR
  have N2 : News g L' hX ((DR, listO [.ref D0, .ref D1, .ref D2, .ref D3, .ref D4] 0) :: (L' + 1 + 1, oA) :: (L' + 1, oR) :: (Ds, listO vs k0) :: [(D4, listO ((vs.drop 10).take 5) 0), (D3, listO ((vs.drop 6).take 4) 0), (D2, listO ((vs.drop 3).take 3) 0), (D1, listO ((vs.drop 1).take 2) 0), (D0, listO ((vs.drop 0).take 1) 0)]) := news_sub N' (by (repeat (refine List.forall_mem_cons.mpr ⟨by (repeat (first | exact List.Mem.head _ | refine List.Mem.tail _ ?_)), ?_⟩)); exact fun _ h => nomatch h)
  clear N'
  refine unhold (hideW fun QO hzO => while_ov (JVot (L' + 1) (L' + 1 + 1) Ds vs k0 (lastR 4 (rowsOf sc))) 4 [(Str.ofString "owners", .ref Ds)] F' (.cons rfl .nil) N2 ⟨DR, _, _, rowsOf sc, _, oR, oA, _, ?_, ?_, ?_, shape_rows hl, rfl, qR, qA, Nat.le_refl _⟩ ?_)
  · exact .cons (.tail _ (.tail _ (.tail _ (.tail _ (.head _))))) (ints_take hv 1) (.cons (.tail _ (.tail _ (.tail _ (.head _)))) (ints_take (ints_drop hv 1) 2) (.cons (.tail _ (.tail _ (.head _))) (ints_take (ints_drop hv 3) 3) (.cons (.tail _ (.head _)) (ints_take (ints_drop hv 6) 4) (.cons (.head _) (ints_take (ints_drop hv 10) 5) .nil))))
  · simp only [List.forall_mem_cons]
    refine ⟨?_, ?_, ?_, ?_, ?_, fun _ h => nomatch h⟩ <;> (refine ⟨neN ?_, neN ?_, neN ?_, neN ?_⟩ <;> omega)
  · refine ⟨neN ?_, neN ?_, neN ?_⟩ <;> omega
  clear F' N2
  refine fun n ps led u h₂ tk₂ hJ => JVot.casesOn hJ fun DR rv kr rows ext o1 o2 c2 hra hoff hDR hsh hres q1 q2 hn4 F N => ?_
  dsimp only [ov] at F
  have hrl := hra.len
  have hrn : rv.length = n + 1 := hrl.trans hsh.1
  have hfit : ((rv.toArray.size : Nat) : Int) < 2 ^ 63 := by rw [List.size_toArray, hrn]; omega
  k_steps
  refine unhold (Calls.call_len_list (News.isList N (.head _)) hfit ?_)
  rw [List.size_toArray, hrn]
  k_steps
  · rename _ > (1 : Int) => hgt
    refine unhold (hideW fun QF hzF => for_srcT (g := g) (JRow (L' + 1) (L' + 1 + 1) Ds DR vs k0 rv kr rows o1) (fun _ _ => rfl) ?_)
    k_steps
    rename Fr _ _ _ _ => F'; rename News _ _ _ _ => N'
    rename_i DV hV lV hV2
    refine unhold (Calls.call_len_list (News.isList N' (.tail _ (.head _))) hfit ?_)
    rw [List.size_toArray, hrn]
    k_steps
    rename Fr _ _ _ _ => F'; rename News _ _ _ _ => N'
    rename IsRange _ _ _ _ _ _ _ _ => hR
    rw [show ((n + 1 : Nat) : Int) - 1 = ((n : Nat) : Int) by omega] at hR
    refine (ForGoT.of [] [(Str.ofString "owners", .ref Ds), (Str.ofString "votes", .ref DV)] (src_range rfl hR (small_ok n (by omega)) (size_ok n (by omega))) F' N' (fun _ h => nomatch h) (.cons rfl (.cons rfl .nil)) (⟨DV, [], _, ext, o2, c2, hra, .nil, fun q hq => ⟨(hoff q hq).1, (hoff q hq).2.1, (hoff q hq).2.2.1, (hoff q hq).2.2.2, allLt_ne lV.2.2.2.2 q hq⟩, ⟨neN ?_, neN ?_, neN ?_, neN ?_⟩, q2⟩) ?_ ?_)
    · omega
    · omega
    · omega
    · omega
    · clear F' N'
      rintro i v ps led u9 ⟨hp9, gn9, dr9, tk9, os9⟩ I oI hi ⟨t9, rfl⟩
      refine fun hJ => JRow.casesOn hJ fun DV vv kv e2 o3 c3 hra2 hvv hoff2 hDV2 q3 _ F N off => ?_
      dsimp only at F N off ⊢
      dsimp only [ov] at F
      simp only [List.forall_mem_cons] at off
      obtain ⟨of1, of2, of3, of4, of5, of6⟩ := off
      have if1 : @Ne Nat I DV := Ne.symm of1
      have if2 : @Ne Nat I DR := Ne.symm of2
      have if3 : @Ne Nat I (L' + 1 + 1) := Ne.symm of3
      have if4 : @Ne Nat I (L' + 1) := Ne.symm of4
      have if5 : @Ne Nat I Ds := Ne.symm of5
      have e2a : ∀ q ∈ e2, @Ne Nat q.1 (L' + 1 + 1) := fun q hq => (hoff2 q hq).2.1
      obtain ⟨dv1, dv2, dv3, dv4⟩ := hDV2
      obtain ⟨dr1, dr2, dr3⟩ := hDR
      refine RowAt.casesOn (hra2.getR (i := i) (by rw [hsh.1]; omega)) fun aA xA kA eA mA iA => ?_
      refine RowAt.casesOn (hra2.getR (i := i + 1) (by rw [hsh.1]; omega)) fun aB xB kB eB mB iB => ?_
      have lA := hsh.2 i (by omega)
      have lB := hsh.2 (i + 1) (by omega)
      have F1 : Fr g L' hp9 _ := F
      have N1 : News g L' hp9 _ := N
      clear F N
      refine wpAny_assign_Name ?_
      k_steps
      rename Fr _ _ _ _ => F'; rename News _ _ _ _ => N'
      rename Obj => o4
      refine unhold (comp_A F' (by rfl) (by with_unfolding_all rfl) (by with_unfolding_all rfl) (by decide) (by rfl) (by decide) (by rfl) (by rfl) (by rfl) ?_)
      k_steps
      rename Fr _ _ _ _ => F'; rename News _ _ _ _ => N'
      rename IsRange _ _ _ _ _ _ _ _ => hR2
      rw [show (0 : Int) + (i : Int) + 1 = ((i + 1 : Nat) : Int) by omega] at hR2
      refine (SrcGo.of [] (src_range rfl hR2 (small_ok (i + 1) (by omega)) (size_ok (i + 1) (by omega))) (by show i + 1 ≤ 16777216; omega) F' N' (fun _ h => nomatch h) (fun g5 => ?_))
      refine rest_indRL ((I, oI) :: (DV, listO vv kv) :: (DR, listO rv kr) :: (L' + 1 + 1, o4) :: (L' + 1, o1) :: (Ds, listO vs k0) :: e2) (fun j ys => IntsAre ys ((sumsRow (rows.getD i []) (rows.getD (i + 1) []) (i + 1)).take j)) .nil ?_ ?_
      · clear F' N'
        intro LD hLD j u5 ys I2 oI2 C oC2 D m₂ h5 k5 E' hj hys hC hx F N off ne
        have hi4 : i ≤ 4 := ar6 hi hn4
        have hj4 : j ≤ 4 := Nat.le_trans (Nat.le_of_lt_succ hj) hi4
        refine IntAt.casesOn (ints_atR (i := j) iA (by omega)) fun n1 t1 ja jA => ?_
        refine IntAt.casesOn (ints_atR (i := j) iB (by omega)) fun n2 t2 jb jB => ?_
        refine IntAt.casesOn (ints_atR (i := j + 1) iB (by omega)) fun n3 t3 jc jC => ?_
        k_steps
        refine unhold (q_item N (.tail _ (.tail _ (.tail _ (.tail _ (.tail _ (.head _)))))) (ixa i) (ixb hi4) (x := .ref aA) (by rw [ixc i]; exact eA) ?_)
        k_steps
        refine unhold (q_item N (.tail _ (.tail _ (.tail _ (.tail _ (.tail _ (.tail _ (.tail _ (.tail _ (.tail _ mA))))))))) (ixa j) (ixb hj4) (x := .int n1 t1) (by rw [ixc j]; exact ja) ?_)
        k_steps
        refine unhold (q_item N (.tail _ (.tail _ (.tail _ (.tail _ (.tail _ (.head _)))))) (ixa1 i) (ixb1 hi4) (x := .ref aB) (by rw [ixc1 i]; exact eB) ?_)
        k_steps
        refine unhold (q_item N (.tail _ (.tail _ (.tail _ (.tail _ (.tail _ (.tail _ (.tail _ (.tail _ (.tail _ mB))))))))) (ixa j) (ixb hj4) (x := .int n2 t2) (by rw [ixc j]; exact jb) ?_)
        k_steps
        refine unhold (q_item N (.tail _ (.tail _ (.tail _ (.tail _ (.tail _ (.head _)))))) (ixa1 i) (ixb1 hi4) (x := .ref aB) (by rw [ixc1 i]; exact eB) ?_)
        k_steps
        refine unhold (q_item N (.tail _ (.tail _ (.tail _ (.tail _ (.tail _ (.tail _ (.tail _ (.tail _ (.tail _ mB))))))))) (ixa1 j) (ixb1 hj4) (x := .int n3 t3) (by rw [ixc1 j]; exact jc) ?_)
        k_steps
        refine LCg.CompEnd.intro F N ((I, oI) :: (DV, listO vv kv) :: (DR, listO rv kr) :: (L' + 1 + 1, o4) :: (L' + 1, o1) :: (Ds, listO vs k0) :: e2) (fun _ h => h) off (fun _ h => nomatch h) (.of hLD (ints_next (sums_get hj jA jB jC) hys))
      · clear F' N'
        intro ys hys D7 h7 k7 F N od
        rw [List.take_of_length_le (by rw [sums_len]; exact Nat.le_refl _)] at hys
        have hyl := ints_len hys
        rw [sums_len] at hyl
        have odm := off1_mem od
        k_steps
        refine unhold (comp_E F (by with_unfolding_all rfl) (by decide) (by rfl) (by decide) (by rfl) ?_)
        k_steps
        refine (SrcGo.of [(D7, LCg.lst ys)] (src_list rfl N (.head _)) (by show ys.toArray.size ≤ 16777216; rw [List.size_toArray]; omega) F N (fun p hp => by rw [List.mem_singleton.mp hp]; exact .head _) (fun g6 => ?_))
        refine rest_indL ((D7, LCg.lst ys) :: (I, oI) :: (DV, listO vv kv) :: (DR, listO rv kr) :: (L' + 1 + 1, o4) :: (L' + 1, o1) :: (Ds, listO vs k0) :: e2) (fun j ys2 => IntsAre ys2 ((voteRow (rows.getD i []) (rows.getD (i + 1) []) (i + 1)).take j)) .nil ?_ ?_
        · clear F N
          intro LD hLD j v ys2 I2 oI2 C oC2 D m₂ h5 k5 E' hj hv5 hys2 hC hx F N off ne
          have hv3 : ys[j]? = some v := by simpa using hv5
          refine IntAt.casesOn (ints_atR (i := j) hys (by rw [sums_len]; rw [List.size_toArray] at hj; omega)) fun n1 t1 ja jA => ?_
          have hv4 : v = .int n1 t1 := Option.some.inj (hv3.symm.trans ja)
          rw [hv4] at hx
          have hvg := vote_get jA
          k_steps
          · rename _ < n1 => h1
            rw [if_pos h1] at hvg
            exact LCg.CompEnd.intro F N ((D7, LCg.lst ys) :: (I, oI) :: (DV, listO vv kv) :: (DR, listO rv kr) :: (L' + 1 + 1, o4) :: (L' + 1, o1) :: (Ds, listO vs k0) :: e2) (fun _ h => h) off (fun p hp => by rw [List.mem_singleton.mp hp]; exact .head _) (.of hLD (ints_next hvg hys2))
          · rename ¬ _ < n1 => h1
            rw [if_neg h1] at hvg
            exact LCg.CompEnd.intro F N ((D7, LCg.lst ys) :: (I, oI) :: (DV, listO vv kv) :: (DR, listO rv kr) :: (L' + 1 + 1, o4) :: (L' + 1, o1) :: (Ds, listO vs k0) :: e2) (fun _ h => h) off (fun p hp => by rw [List.mem_singleton.mp hp]; exact .head _) (.of hLD (ints_next hvg hys2))
        · clear F N
          intro ys2 hys2 D8 h8 k8 F N od2
          rw [List.take_of_length_le (by rw [vote_len, List.size_toArray]; omega)] at hys2
          have odn := off1_mem od2
          k_steps
          have hR8 : ∀ p ∈ (I, oI) :: (DR, listO rv kr) :: (L' + 1 + 1, o4) :: (L' + 1, o1) :: (Ds, listO vs k0) :: (D8, LCg.lst ys2) :: e2, p.1 ≠ DV := by
            simp only [List.forall_mem_cons]
            exact ⟨if1, Ne.symm dv3, Ne.symm dv2, Ne.symm dv1, Ne.symm dv4, Ne.symm (odn _ (.tail _ (.tail _ (.head _)))), fun q hq => (hoff2 q hq).2.2.2.2⟩
          have N8 : News g L' h8 ((DV, listO vv kv) :: (I, oI) :: (DR, listO rv kr) :: (L' + 1 + 1, o4) :: (L' + 1, o1) :: (Ds, listO vs k0) :: (D8, LCg.lst ys2) :: e2) := news_sub N (by
            (repeat (refine List.forall_mem_cons.mpr ⟨by (repeat (first | exact List.Mem.head _ | refine List.Mem.tail _ ?_)), ?_⟩))
            exact fun _ h => (.tail _ (.tail _ (.tail _ (.tail _ (.tail _ (.tail _ (.tail _ (.tail _ h)))))))))
          have hvl8 := hvv.len
          rw [List.length_take] at hvl8
          refine unhold (q_push F N8 (.head hR8) (ar5 hvl8 hi hn4) ?_)
          intro h10 F10 N10
          clear F N
          k_steps
          refine ForStepT.go [(Str.ofString "owners", .ref Ds), (Str.ofString "votes", .ref DV)] ((DV, listO (vv ++ [.ref D8]) (kv + 1)) :: (DR, listO rv kr) :: (L' + 1 + 1, o4) :: (L' + 1, o1) :: (Ds, listO vs k0) :: (D8, LCg.lst ys2) :: e2) F10 (.cons rfl (.cons rfl .nil)) N10 ?_ ?_ (fun _ h => nomatch h) ⟨DV, _, _, (D8, LCg.lst ys2) :: e2, o4, _, hra2.mono fun _ h => .tail _ h, ?_, ?_, ⟨dv1, dv2, dv3, dv4⟩, by assumption⟩
          · refine List.forall_mem_cons.mpr ⟨.tail _ (.head _), List.forall_mem_cons.mpr ⟨.head _, fun _ h => .tail _ (.tail _ h)⟩⟩
          · simp only [List.forall_mem_cons]
            exact ⟨of1, of2, of3, of4, of5, Ne.symm (odn _ (.tail _ (.head _))), of6⟩
          · rw [List.take_add_one, votes_get (by rw [hsh.1]; exact hi)]
            exact (hvv.mono fun _ h => .tail _ h).snoc (.head _) hys2
          · simp only [List.forall_mem_cons]
            exact ⟨⟨Ne.symm (odn _ (.tail _ (.tail _ (.tail _ (.tail _ (.tail _ (.head _))))))), Ne.symm (odn _ (.tail _ (.tail _ (.tail _ (.tail _ (.head _)))))), Ne.symm (odn _ (.tail _ (.tail _ (.tail _ (.head _))))), Ne.symm (odn _ (.tail _ (.tail _ (.tail _ (.tail _ (.tail _ (.tail _ (.head _)))))))), Ne.symm (odn _ (.tail _ (.tail _ (.head _))))⟩, hoff2⟩
    · clear F' N'
      refine fun ps led u9 h9 k9 hJ => JRow.casesOn hJ fun DV vv kv e2 o3 c3 hra2 hvv hoff2 hDV2 q3 F N => ?_
      dsimp only [ov] at F
      have F1 : Fr g L' h9 _ := F
      have N1 : News g L' h9 _ := N
      clear F N
      have e2b : ∀ q ∈ e2, @Ne Nat q.1 (L' + 1) := fun q hq => (hoff2 q hq).1
      obtain ⟨dv1, dv2, dv3, dv4⟩ := hDV2
      obtain ⟨dr1, dr2, dr3⟩ := hDR
      have hsv := shape_votes hsh
      rw [List.take_of_length_le (by rw [hsv.1]; exact Nat.le_refl _)] at hvv
      obtain ⟨n', rfl⟩ : ∃ n', n = n' + 1 := ⟨n - 1, by omega⟩
      refine hzF _ _ ?_
      dsimp only
      k_steps
      rename Fr _ _ _ _ => F'; rename News _ _ _ _ => N'
      rename Obj => o5
      exact LoopStep.go n' [(Str.ofString "owners", .ref Ds)] ((DV, listO vv kv) :: (L' + 1 + 1, o3) :: (L' + 1, o5) :: (Ds, listO vs k0) :: e2) F' (.cons rfl .nil) N' (List.forall_mem_cons.mpr ⟨.head _, fun _ h => .tail _ (.tail _ h)⟩) (by omega) ⟨DV, vv, kv, votesOf rows, e2, o5, o3, c3, hvv, fun q hq => ⟨(hoff2 q hq).1, (hoff2 q hq).2.1, (hoff2 q hq).2.2.2.2, (hoff2 q hq).2.2.2.1⟩, ⟨dv1, dv2, dv4⟩, hsv, hres, by assumption, q3, by omega⟩
  · rename ¬ (1 : Int) < _ => hgt
    have hn0 : n = 0 := by omega
    subst hn0
    refine RowAt.casesOn (hra.getR (i := 0) (by rw [hsh.1]; omega)) fun aA xA kA eA mA iA => ?_
    refine IntAt.casesOn (ints_atR (i := 0) iA (by rw [hsh.2 0 (by omega)]; omega)) fun n1 t1 ja jA => ?_
    have hv9 : lastR 0 rows = n1 := by
      show (rows.getD 0 []).getD 0 0 = n1
      rw [List.getD_eq_getElem?_getD (l := rows.getD 0 []), jA]; rfl
    refine hzO _ _ ?_
    k_steps
    refine unhold (q_item N (.head _) (by omega) (by omega) (x := .ref aA) eA ?_)
    k_steps
    refine unhold (q_item N (.tail _ (.tail _ (.tail _ (.tail _ mA)))) (by omega) (by omega) (x := .int n1 t1) ja ?_)
    k_steps
    exact hq _ _ (leaveS [(Ds, listO vs k0)] _ F N (fun p hp => by rw [List.mem_singleton.mp hp]; exact .tail _ (.tail _ (.tail _ (.head _)))) (by rw [← hres, hv9]; exact .mk _) hL)
end
section
open PySem.Sre
/-- the words of the pattern, as the heap holds them -/
noncomputable def reC (P : Params) : Array Nat := match List.lookup 35 (hd.heap_39 P) with
  | some o => (match o.data with | .seq xs _ => (xs.map Builtin.Re.reRawOf).map (·.toNat) | _ => #[])
  | none => #[]
section
variable {m : M}
theorem step_exec (ho : m.outcome = none) (ha : m.answer = none) (hpc : m.pc < m.code.size) : m.step = m.exec := by
  unfold M.step
  rw [ho, ha]
  show (if m.pc < m.code.size then m.exec else _) = _
  rw [if_pos hpc]
theorem run_zero : M.runFor 0 m = m := rfl
theorem run_succ {n : Nat} (ho : m.outcome = none) : M.runFor (n + 1) m = M.runFor n m.step := by
  show (if m.outcome.isSome then m else M.runFor n m.step) = _
  rw [ho]; rfl
theorem run_done (n : Nat) (ho : m.outcome.isSome = true) : M.runFor n m = m := by
  cases n with
  | zero => rfl
  | succ n => show (if m.outcome.isSome then m else M.runFor n m.step) = m; rw [if_pos ho]
theorem run_add (a b : Nat) (m : M) : M.runFor (a + b) m = M.runFor b (M.runFor a m) := by
  induction a generalizing m with
  | zero => rw [Nat.zero_add]; rfl
  | succ a ih =>
    by_cases h : m.outcome.isSome = true
    · rw [run_done _ h, run_done _ h, run_done _ h]
    · have ho : m.outcome = none := by cases e : m.outcome with | none => rfl | some _ => rw [e] at h; exact absurd rfl h
      rw [show a + 1 + b = (a + b) + 1 by omega, run_succ ho, run_succ ho, ih]
end
/-- within so many steps the machine comes from one state to the other -/
noncomputable def To (k : Nat) (m m' : M) : Prop := ∃ j, j ≤ k ∧ M.runFor j m = m'
theorem To.refl (m : M) : To 0 m m := ⟨0, Nat.le_refl _, rfl⟩
theorem To.trans {a b : Nat} {m m' m'' : M} (h : To a m m') (h' : To b m' m'') : To (a + b) m m'' := by
  obtain ⟨i, hi, e⟩ := h
  obtain ⟨j, hj, e'⟩ := h'
  exact ⟨i + j, by omega, by rw [run_add, e, e']⟩
theorem To.one {m m' : M} (ho : m.outcome = none) (e : m.step = m') : To 1 m m' := ⟨1, Nat.le_refl _, by rw [run_succ ho, e]; rfl⟩
theorem To.mono {a b : Nat} {m m' : M} (h : To a m m') (hl : a ≤ b) : To b m m' := by
  obtain ⟨i, hi, e⟩ := h
  exact ⟨i, by omega, e⟩

theorem acc_lit {code : Array Nat} {i c : Nat} {sn : Sre.Seen} (h : code.getD i 0 = 16) : accepts code i c sn = .ok (c == code.getD (i + 1) 0, sn) := by
  unfold accepts
  rw [h]; rfl
theorem acc_any {code : Array Nat} {i c : Nat} {sn : Sre.Seen} (h : code.getD i 0 = 2) : accepts code i c sn = .ok (c != 10, sn) := by
  unfold accepts
  rw [h]; rfl
theorem acc_not {code : Array Nat} {i c : Nat} {sn : Sre.Seen} (h : code.getD i 0 = 20) : accepts code i c sn = .ok (c != code.getD (i + 1) 0, sn) := by
  unfold accepts
  rw [h]; rfl
theorem width_lit {code : Array Nat} {i : Nat} (h : code.getD i 0 = 16) : itemWidth code i = 2 := by
  unfold itemWidth
  rw [h]; rfl
/-- a state of this match: what may vary is named -/
noncomputable def stA (P : Params) (T : Array Nat) (pc pos handed : Nat) (marks : Array (Option Nat)) (lm li : Int) (fr : List Sre.Frame) (wt : Nat) (an : Option Bool) (seen : Sre.Seen) : M :=
  { code := reC P, text := T, lim := T.size, start := 0, pc, pos, handed, marks, lastmark := lm, lastindex := li, frames := fr, weight := wt, answer := an, seen }
noncomputable def K0 : Sre.Kept := { lastmark := -1, lastindex := -1, whole := false, marks := #[] }
noncomputable def K1 : Sre.Kept := { lastmark := 0, lastindex := -1, whole := false, marks := #[] }
noncomputable def frA (p : Nat) (c : Int) : Sre.Frame := { wait := .giveBack, pc := 5, pos := p, outermost := true, count := c, kept := K0 }
noncomputable def frB (p : Nat) (c : Int) : Sre.Frame := { wait := .giveBack, pc := 27, pos := p, outermost := true, count := c, kept := K1 }
section
variable {P : Params} {T : Array Nat}
theorem c_size : (reC P).size = 39 := by kernel_rfl
/-- a letter that stands there -/
theorem lit_yes {pc pos h : Nat} {mk : Array (Option Nat)} {lm li : Int} {fr : List Sre.Frame} {wt : Nat} {sn : Sre.Seen} {c : Nat} (hc : (reC P).getD pc 0 = 16) (hc1 : (reC P).getD (pc + 1) 0 = c) (hpc : pc < 39) (hp : pos < T.size) (ht : T.getD pos 0 = c) :
    ∃ sn', To 1 (stA P T pc pos h mk lm li fr wt none sn) (stA P T (pc + 2) (pos + 1) h mk lm li fr wt none sn') := by
  refine ⟨sn.add 16, To.one rfl ?_⟩
  rw [step_exec rfl rfl (by show pc < (reC P).size; rw [c_size]; exact hpc)]
  unfold M.exec
  have hw : (stA P T pc pos h mk lm li fr wt none sn).word 0 = 16 := hc
  rw [hw]
  have ho : ops[16]? = some .LITERAL := rfl
  rw [ho]
  dsimp only
  rw [if_neg (by show ¬ pos ≥ T.size; omega)]
  have ha : accepts (stA P T pc pos h mk lm li fr wt none sn).code (stA P T pc pos h mk lm li fr wt none sn).pc ((stA P T pc pos h mk lm li fr wt none sn).text.getD (stA P T pc pos h mk lm li fr wt none sn).pos 0) ((stA P T pc pos h mk lm li fr wt none sn).seen.add 16) = .ok (true, sn.add 16) := by
    refine (acc_lit (code := reC P) hc).trans ?_
    show Except.ok (T.getD pos 0 == (reC P).getD (pc + 1) 0, sn.add 16) = _
    rw [ht, hc1, beq_self_eq_true]
  rw [ha]
  dsimp only
  have hi : itemWidth (stA P T pc pos h mk lm li fr wt none sn).code (stA P T pc pos h mk lm li fr wt none sn).pc = 2 := by
    exact width_lit hc
  rw [hi]
  rfl
theorem lit_end {pc pos h : Nat} {mk : Array (Option Nat)} {lm li : Int} {fr : List Sre.Frame} {wt : Nat} {sn : Sre.Seen} (hc : (reC P).getD pc 0 = 16) (hpc : pc < 39) (hp : T.size ≤ pos) :
    To 1 (stA P T pc pos h mk lm li fr wt none sn) (stA P T pc pos h mk lm li fr wt (some false) (sn.add 16)) := by
  refine To.one rfl ?_
  rw [step_exec rfl rfl (by show pc < (reC P).size; rw [c_size]; exact hpc)]
  unfold M.exec
  have hw : (stA P T pc pos h mk lm li fr wt none sn).word 0 = 16 := hc
  rw [hw]
  have ho : ops[16]? = some .LITERAL := rfl
  rw [ho]
  dsimp only
  rw [if_pos (by show pos ≥ T.size; omega)]
  rfl
theorem lit_no {pc pos h : Nat} {mk : Array (Option Nat)} {lm li : Int} {fr : List Sre.Frame} {wt : Nat} {sn : Sre.Seen} (hc : (reC P).getD pc 0 = 16) (hpc : pc < 39) (hp : pos < T.size) (ht : T.getD pos 0 ≠ (reC P).getD (pc + 1) 0) :
    To 1 (stA P T pc pos h mk lm li fr wt none sn) (stA P T pc pos h mk lm li fr wt (some false) (sn.add 16)) := by
  refine To.one rfl ?_
  rw [step_exec rfl rfl (by show pc < (reC P).size; rw [c_size]; exact hpc)]
  unfold M.exec
  have hw : (stA P T pc pos h mk lm li fr wt none sn).word 0 = 16 := hc
  rw [hw]
  have ho : ops[16]? = some .LITERAL := rfl
  rw [ho]
  dsimp only
  rw [if_neg (by show ¬ pos ≥ T.size; omega)]
  have ha : accepts (stA P T pc pos h mk lm li fr wt none sn).code (stA P T pc pos h mk lm li fr wt none sn).pc ((stA P T pc pos h mk lm li fr wt none sn).text.getD (stA P T pc pos h mk lm li fr wt none sn).pos 0) ((stA P T pc pos h mk lm li fr wt none sn).seen.add 16) = .ok (false, sn.add 16) := by
    refine (acc_lit (code := reC P) hc).trans ?_
    show Except.ok (T.getD pos 0 == (reC P).getD (pc + 1) 0, sn.add 16) = _
    rw [beq_false_of_ne ht]
  rw [ha]
  rfl
theorem run_all {code : Array Nat} {i : Nat} {sn : Sre.Seen} : ∀ (n p f : Nat), (∀ k, k < n → accepts code i (T.getD (p + k) 0) sn = .ok (true, sn)) → Sre.run code T i n p f sn = .ok (f + n, sn)
  | 0, p, f, _ => rfl
  | n + 1, p, f, h => by
    rw [Sre.run, show accepts code i (T.getD p 0) sn = .ok (true, sn) from h 0 (by omega)]
    show Sre.run code T i n (p + 1) (f + 1) sn = _
    rw [run_all n (p + 1) (f + 1) (fun k hk => by rw [show p + 1 + k = p + (k + 1) by omega]; exact h (k + 1) (by omega)), show f + 1 + n = f + (n + 1) by omega]
theorem run_till {code : Array Nat} {i : Nat} {sn : Sre.Seen} : ∀ (j n p f : Nat), j < n → (∀ k, k < j → accepts code i (T.getD (p + k) 0) sn = .ok (true, sn)) → accepts code i (T.getD (p + j) 0) sn = .ok (false, sn) → Sre.run code T i n p f sn = .ok (f + j, sn)
  | 0, n + 1, p, f, _, _, h => by
    rw [Sre.run, show accepts code i (T.getD p 0) sn = .ok (false, sn) from h]
    rfl
  | j + 1, n + 1, p, f, hn, h, h' => by
    rw [Sre.run, show accepts code i (T.getD p 0) sn = .ok (true, sn) from h 0 (by omega)]
    show Sre.run code T i n (p + 1) (f + 1) sn = _
    rw [run_till j n (p + 1) (f + 1) (by omega) (fun k hk => by rw [show p + 1 + k = p + (k + 1) by omega]; exact h (k + 1) (by omega)) (by rw [show p + 1 + j = p + (j + 1) by omega]; exact h'), show f + 1 + j = f + (j + 1) by omega]
  | _, 0, _, _, hn, _, _ => absurd hn (by omega)
/-- the run of any signs at the head -/
theorem step_any {sn : Sre.Seen} {mk : Array (Option Nat)} (hz : T.size ≤ 100000) (hn : ∀ k, k < T.size → T.getD k 0 ≠ 10) :
    ∃ sn', To 1 (stA P T 5 0 0 mk (-1) (-1) [] 0 none sn) (stA P T 11 T.size T.size mk (-1) (-1) [frA T.size T.size] 1 none sn') := by
  refine ⟨(sn.add 24).add 2, To.one rfl ?_⟩
  rw [step_exec rfl rfl (by show 5 < (reC P).size; rw [c_size]; decide)]
  unfold M.exec
  have hw : (stA P T 5 0 0 mk (-1) (-1) [] 0 none sn).word 0 = 24 := by kernel_rfl
  rw [hw]
  have ho : ops[24]? = some .REPEAT_ONE := rfl
  rw [ho]
  dsimp only
  have h2 : ({ stA P T 5 0 0 mk (-1) (-1) [] 0 none sn with seen := (stA P T 5 0 0 mk (-1) (-1) [] 0 none sn).seen.add 24 } : M).word 2 = 0 := by kernel_rfl
  have h3 : ({ stA P T 5 0 0 mk (-1) (-1) [] 0 none sn with seen := (stA P T 5 0 0 mk (-1) (-1) [] 0 none sn).seen.add 24 } : M).word 3 = 4294967295 := by kernel_rfl
  have h4 : ({ stA P T 5 0 0 mk (-1) (-1) [] 0 none sn with seen := (stA P T 5 0 0 mk (-1) (-1) [] 0 none sn).seen.add 24 } : M).word 4 = 2 := by kernel_rfl
  rw [h2, h3, h4]
  rw [if_neg (by show ¬ ((0 : Nat) : Int) > (T.size : Int) - (0 : Nat); omega)]
  have hr : Sre.run (reC P) T 9 (min 4294967295 ((T.size : Int) - (0 : Nat)).toNat) 0 0 ((sn.add 24).add 2) = .ok (0 + T.size, (sn.add 24).add 2) := by
    rw [show min 4294967295 ((T.size : Int) - (0 : Nat)).toNat = T.size by omega]
    refine run_all T.size 0 0 fun k hk => ?_
    rw [Nat.zero_add]
    rw [acc_any (by kernel_rfl), bne_iff_ne.mpr (hn k hk)]
  show (match Sre.run (reC P) T 9 (min 4294967295 ((T.size : Int) - (0 : Nat)).toNat) 0 0 ((sn.add 24).add 2) with | .error why => _ | .ok (n, seen) => _) = _
  rw [hr]
  dsimp only
  rw [if_neg (by omega), Nat.zero_add]
  rw [show (stA P T 5 0 0 mk (-1) (-1) [] 0 none sn).pos = 0 from rfl, Nat.zero_add]
  unfold M.afterRun M.attempt
  rw [if_neg (by show ¬ 0 + 1 + 0 > 16777216; decide)]
  have hp : (5 : Nat) + 1 + (reC P).getD (5 + 1) 0 = 11 := by kernel_rfl
  show ({ (stA P T (5 + 1 + (reC P).getD (5 + 1) 0) T.size T.size mk (-1) (-1) [frA T.size T.size] 1 none ((sn.add 24).add 2)) with outermost := true } : M) = _
  rw [hp]
  rfl
theorem step_back {pc pos h p : Nat} {c : Int} {sn : Sre.Seen} {mk : Array (Option Nat)} {lm li : Int} (hc : 1 ≤ c) :
    To 1 (stA P T pc pos h mk lm li [frA p c] 1 (some false) sn) (stA P T 11 (p - 1) (p - 1) mk (-1) (-1) [frA (p - 1) (c - 1)] 1 none sn) := by
  refine To.one rfl ?_
  unfold M.step
  show M.resume _ (frA p c) false = _
  unfold M.resume
  dsimp only [frA]
  rw [if_neg (by decide)]
  have h2 : ({ stA P T pc pos h mk lm li [frA p c] 1 (some false) sn with answer := none, frames := [], weight := 1 - (1 + 0), pc := 5, pos := p, outermost := true } : M).word 2 = 0 := by kernel_rfl
  show (if c - 1 < ((({ stA P T pc pos h mk lm li [frA p c] 1 (some false) sn with answer := none, frames := [], weight := 1 - (1 + 0), pc := 5, pos := p, outermost := true } : M).word 2 : Nat) : Int) then _ else _) = _
  rw [h2, if_neg (by omega)]
  unfold M.afterRun M.attempt
  rw [if_neg (by show ¬ 0 + 1 + 0 > 16777216; decide)]
  have hp : (5 : Nat) + 1 + (reC P).getD (5 + 1) 0 = 11 := by kernel_rfl
  show ({ (stA P T (5 + 1 + (reC P).getD (5 + 1) 0) (p - 1) (p - 1) mk (-1) (-1) [frA (p - 1) (c - 1)] 1 none sn) with outermost := true } : M) = _
  rw [hp]
  rfl
/-- back from the end to the place where the letter stands -/
theorem downs {mk : Array (Option Nat)} : ∀ (k p : Nat) (sn : Sre.Seen), p = 11 + k → p ≤ T.size → (∀ q, 11 < q → q < T.size → T.getD q 0 ≠ 70) →
    ∃ sn', To (2 * k) (stA P T 11 p p mk (-1) (-1) [frA p p] 1 none sn) (stA P T 11 11 11 mk (-1) (-1) [frA 11 (11 : Nat)] 1 none sn')
  | 0, p, sn, hp, _, _ => by subst hp; exact ⟨sn, To.refl _⟩
  | k + 1, p, sn, hp, hle, h => by
    have hc : (reC P).getD 11 0 = 16 := by kernel_rfl
    have hc1 : (reC P).getD (11 + 1) 0 = 70 := by kernel_rfl
    have h1 : To 1 (stA P T 11 p p mk (-1) (-1) [frA p p] 1 none sn) (stA P T 11 p p mk (-1) (-1) [frA p p] 1 (some false) (sn.add 16)) := by
      by_cases e : p < T.size
      · exact lit_no hc (by decide) e (by rw [hc1]; exact h p (by omega) e)
      · exact lit_end hc (by decide) (by omega)
    have h2 := step_back (P := P) (T := T) (pc := 11) (pos := p) (h := p) (p := p) (c := (p : Int)) (sn := sn.add 16) (mk := mk) (lm := -1) (li := -1) (by omega)
    obtain ⟨sn', h3⟩ := downs k (p - 1) (sn.add 16) (by omega) (by omega) h
    refine ⟨sn', To.mono (a := 1 + 1 + 2 * k) ((h1.trans h2).trans ?_) (by omega)⟩
    rw [show (p : Int) - 1 = ((p - 1 : Nat) : Int) by omega]
    exact h3
theorem step_mark0 {pos h : Nat} {fr : List Sre.Frame} {wt : Nat} {sn : Sre.Seen} : To 1 (stA P T 25 pos h #[none, none] (-1) (-1) fr wt none sn) (stA P T 27 pos h #[some pos, none] 0 (-1) fr wt none (sn.add 17)) := by
  refine To.one rfl ?_
  rw [step_exec rfl rfl (by show 25 < (reC P).size; rw [c_size]; decide)]
  unfold M.exec
  have hw : (stA P T 25 pos h #[none, none] (-1) (-1) fr wt none sn).word 0 = 17 := by kernel_rfl
  rw [hw]
  have ho : ops[17]? = some .MARK := rfl
  rw [ho]
  dsimp only
  have hw1 : ({ stA P T 25 pos h #[none, none] (-1) (-1) fr wt none sn with seen := (stA P T 25 pos h #[none, none] (-1) (-1) fr wt none sn).seen.add 17 } : M).word 1 = 0 := by kernel_rfl
  rw [hw1]
  rfl
theorem step_mark1 {pos h p0 : Nat} {fr : List Sre.Frame} {wt : Nat} {sn : Sre.Seen} : To 1 (stA P T 34 pos h #[some p0, none] 0 (-1) fr wt none sn) (stA P T 36 pos h #[some p0, some pos] 1 1 fr wt none (sn.add 17)) := by
  refine To.one rfl ?_
  rw [step_exec rfl rfl (by show 34 < (reC P).size; rw [c_size]; decide)]
  unfold M.exec
  have hw : (stA P T 34 pos h #[some p0, none] 0 (-1) fr wt none sn).word 0 = 17 := by kernel_rfl
  rw [hw]
  have ho : ops[17]? = some .MARK := rfl
  rw [ho]
  dsimp only
  have hw1 : ({ stA P T 34 pos h #[some p0, none] 0 (-1) fr wt none sn with seen := (stA P T 34 pos h #[some p0, none] 0 (-1) fr wt none sn).seen.add 17 } : M).word 1 = 1 := by kernel_rfl
  rw [hw1]
  rfl
theorem step_not {p j h : Nat} {sn : Sre.Seen} {mk : Array (Option Nat)} {f : Sre.Frame} (hz : T.size ≤ 100000) (hj : p + j < T.size) (hn : ∀ k, k < j → T.getD (p + k) 0 ≠ 41) (he : T.getD (p + j) 0 = 41) :
    To 1 (stA P T 27 p h mk 0 (-1) [f] 1 none sn) (stA P T 34 (p + j) (p + j) mk 0 (-1) [frB (p + j) j, f] 2 none ((sn.add 24).add 20)) := by
  refine To.one rfl ?_
  rw [step_exec rfl rfl (by show 27 < (reC P).size; rw [c_size]; decide)]
  unfold M.exec
  have hw : (stA P T 27 p h mk 0 (-1) [f] 1 none sn).word 0 = 24 := by kernel_rfl
  rw [hw]
  have ho : ops[24]? = some .REPEAT_ONE := rfl
  rw [ho]
  dsimp only
  have h2 : ({ stA P T 27 p h mk 0 (-1) [f] 1 none sn with seen := (stA P T 27 p h mk 0 (-1) [f] 1 none sn).seen.add 24 } : M).word 2 = 0 := by kernel_rfl
  have h3 : ({ stA P T 27 p h mk 0 (-1) [f] 1 none sn with seen := (stA P T 27 p h mk 0 (-1) [f] 1 none sn).seen.add 24 } : M).word 3 = 4294967295 := by kernel_rfl
  have h4 : ({ stA P T 27 p h mk 0 (-1) [f] 1 none sn with seen := (stA P T 27 p h mk 0 (-1) [f] 1 none sn).seen.add 24 } : M).word 4 = 20 := by kernel_rfl
  rw [h2, h3, h4]
  rw [if_neg (by show ¬ ((0 : Nat) : Int) > (T.size : Int) - (p : Nat); omega)]
  have hc : (reC P).getD 31 0 = 20 := by kernel_rfl
  have hc1 : (reC P).getD (31 + 1) 0 = 41 := by kernel_rfl
  have hr : Sre.run (reC P) T 31 (min 4294967295 ((T.size : Int) - (p : Nat)).toNat) p 0 ((sn.add 24).add 20) = .ok (0 + j, (sn.add 24).add 20) := by
    refine run_till j _ p 0 (by omega) (fun k hk => ?_) ?_
    · rw [acc_not hc, hc1, bne_iff_ne.mpr (hn k hk)]
    · rw [acc_not hc, hc1, he]; rfl
  show (match Sre.run (reC P) T 31 (min 4294967295 ((T.size : Int) - (p : Nat)).toNat) p 0 ((sn.add 24).add 20) with | .error why => _ | .ok (n, seen) => _) = _
  rw [hr]
  dsimp only
  rw [if_neg (by omega), Nat.zero_add]
  rw [show (stA P T 27 p h mk 0 (-1) [f] 1 none sn).pos = p from rfl]
  unfold M.afterRun M.attempt
  rw [if_neg (by show ¬ 1 + 1 + 0 > 16777216; decide)]
  have hp : (27 : Nat) + 1 + (reC P).getD (27 + 1) 0 = 34 := by kernel_rfl
  show ({ (stA P T (27 + 1 + (reC P).getD (27 + 1) 0) (p + j) (p + j) mk 0 (-1) [frB (p + j) j, f] 2 none ((sn.add 24).add 20)) with outermost := true } : M) = _
  rw [hp]
  rfl
theorem step_success {pos h : Nat} {mk : Array (Option Nat)} {lm li : Int} {fr : List Sre.Frame} {wt : Nat} {sn : Sre.Seen} : To 1 (stA P T 38 pos h mk lm li fr wt none sn) (stA P T 38 pos pos mk lm li fr wt (some true) (sn.add 1)) := by
  refine To.one rfl ?_
  rw [step_exec rfl rfl (by show 38 < (reC P).size; rw [c_size]; decide)]
  unfold M.exec
  have hw : (stA P T 38 pos h mk lm li fr wt none sn).word 0 = 1 := by kernel_rfl
  rw [hw]
  have ho : ops[1]? = some .SUCCESS := rfl
  rw [ho]
  rfl
theorem step_yesB {pc pos h p : Nat} {c : Int} {mk : Array (Option Nat)} {lm li : Int} {fr : List Sre.Frame} {sn : Sre.Seen} : To 1 (stA P T pc pos h mk lm li (frB p c :: fr) 2 (some true) sn) (stA P T 27 p h mk lm li fr 1 (some true) sn) :=
  To.one rfl rfl
theorem step_yesA {pc pos h p : Nat} {c : Int} {mk : Array (Option Nat)} {lm li : Int} {fr : List Sre.Frame} {sn : Sre.Seen} : To 1 (stA P T pc pos h mk lm li (frA p c :: fr) 1 (some true) sn) (stA P T 5 p h mk lm li fr 0 (some true) sn) :=
  To.one rfl rfl
theorem step_end {pc pos h : Nat} {mk : Array (Option Nat)} {lm li : Int} {sn : Sre.Seen} : To 1 (stA P T pc pos h mk lm li [] 0 (some true) sn) { stA P T pc pos h mk lm li [] 0 (some true) sn with outcome := some .matched } :=
  To.one rfl rfl
/-- the whole match -/
theorem sre_match (e : Nat) (hz : T.size ≤ 100000) (he : T.size = e + 2) (hn : ∀ k, k < T.size → T.getD k 0 ≠ 10) (h70 : ∀ q, 11 < q → q < T.size → T.getD q 0 ≠ 70)
    (hl : T.getD 11 0 = 70 ∧ T.getD 12 0 = 76 ∧ T.getD 13 0 = 65 ∧ T.getD 14 0 = 71 ∧ T.getD 15 0 = 83 ∧ T.getD 16 0 = 32 ∧ T.getD 17 0 = 40) (h18 : 18 ≤ e) (hne : ∀ k, 18 ≤ k → k < e → T.getD k 0 ≠ 41) (hee : T.getD e 0 = 41) :
    ∃ m, To 300000 (Sre.forMatch (reC P) T 1 0 T.size false false) m ∧ m.outcome = some .matched ∧ m.marks = #[some 18, some e] ∧ m.lastmark = 1 ∧ m.start = 0 := by
  have hm : ∃ sn0, Sre.forMatch (reC P) T 1 0 T.size false false = stA P T 5 0 0 #[none, none] (-1) (-1) [] 0 none sn0 := by
    refine ⟨({} : Sre.Seen).add 14, ?_⟩
    unfold Sre.forMatch
    have hh : header (reC P) = (8, 5) := by kernel_rfl
    rw [hh]
    dsimp only
    rw [if_neg (by simp; omega)]
    kernel_rfl
  obtain ⟨sn0, hm⟩ := hm
  rw [hm]
  obtain ⟨s1, t1⟩ := step_any (P := P) (T := T) (sn := sn0) (mk := #[none, none]) hz hn
  obtain ⟨s2, t2⟩ := downs (P := P) (T := T) (mk := #[none, none]) (T.size - 11) T.size s1 (by omega) (Nat.le_refl _) h70
  obtain ⟨s3, t3⟩ := lit_yes (P := P) (T := T) (pc := 11) (pos := 11) (h := 11) (mk := #[none, none]) (lm := -1) (li := -1) (fr := [frA 11 (11 : Nat)]) (wt := 1) (sn := s2) (c := 70) (by kernel_rfl) (by kernel_rfl) (by decide) (by omega) hl.1
  obtain ⟨s4, t4⟩ := lit_yes (P := P) (T := T) (pc := 13) (pos := 12) (h := 11) (mk := #[none, none]) (lm := -1) (li := -1) (fr := [frA 11 (11 : Nat)]) (wt := 1) (sn := s3) (c := 76) (by kernel_rfl) (by kernel_rfl) (by decide) (by omega) hl.2.1
  obtain ⟨s5, t5⟩ := lit_yes (P := P) (T := T) (pc := 15) (pos := 13) (h := 11) (mk := #[none, none]) (lm := -1) (li := -1) (fr := [frA 11 (11 : Nat)]) (wt := 1) (sn := s4) (c := 65) (by kernel_rfl) (by kernel_rfl) (by decide) (by omega) hl.2.2.1
  obtain ⟨s6, t6⟩ := lit_yes (P := P) (T := T) (pc := 17) (pos := 14) (h := 11) (mk := #[none, none]) (lm := -1) (li := -1) (fr := [frA 11 (11 : Nat)]) (wt := 1) (sn := s5) (c := 71) (by kernel_rfl) (by kernel_rfl) (by decide) (by omega) hl.2.2.2.1
  obtain ⟨s7, t7⟩ := lit_yes (P := P) (T := T) (pc := 19) (pos := 15) (h := 11) (mk := #[none, none]) (lm := -1) (li := -1) (fr := [frA 11 (11 : Nat)]) (wt := 1) (sn := s6) (c := 83) (by kernel_rfl) (by kernel_rfl) (by decide) (by omega) hl.2.2.2.2.1
  obtain ⟨s8, t8⟩ := lit_yes (P := P) (T := T) (pc := 21) (pos := 16) (h := 11) (mk := #[none, none]) (lm := -1) (li := -1) (fr := [frA 11 (11 : Nat)]) (wt := 1) (sn := s7) (c := 32) (by kernel_rfl) (by kernel_rfl) (by decide) (by omega) hl.2.2.2.2.2.1
  obtain ⟨s9, t9⟩ := lit_yes (P := P) (T := T) (pc := 23) (pos := 17) (h := 11) (mk := #[none, none]) (lm := -1) (li := -1) (fr := [frA 11 (11 : Nat)]) (wt := 1) (sn := s8) (c := 40) (by kernel_rfl) (by kernel_rfl) (by decide) (by omega) hl.2.2.2.2.2.2
  have t10 := step_mark0 (P := P) (T := T) (pos := 18) (h := 11) (fr := [frA 11 (11 : Nat)]) (wt := 1) (sn := s9)
  have t11 := step_not (P := P) (T := T) (p := 18) (j := e - 18) (h := 11) (sn := s9.add 17) (mk := #[some 18, none]) (f := frA 11 (11 : Nat)) hz (by omega) (fun k hk => hne (18 + k) (by omega) (by omega)) (by rw [show 18 + (e - 18) = e by omega]; exact hee)
  rw [show 18 + (e - 18) = e by omega] at t11
  have t12 := step_mark1 (P := P) (T := T) (pos := e) (h := e) (p0 := 18) (fr := [frB e ((e - 18 : Nat) : Int), frA 11 (11 : Nat)]) (wt := 2) (sn := ((s9.add 17).add 24).add 20)
  obtain ⟨s13, t13⟩ := lit_yes (P := P) (T := T) (pc := 36) (pos := e) (h := e) (mk := #[some 18, some e]) (lm := 1) (li := 1) (fr := [frB e ((e - 18 : Nat) : Int), frA 11 (11 : Nat)]) (wt := 2) (sn := (((s9.add 17).add 24).add 20).add 17) (c := 41) (by kernel_rfl) (by kernel_rfl) (by decide) (by omega) hee
  have t14 := step_success (P := P) (T := T) (pos := e + 1) (h := e) (mk := #[some 18, some e]) (lm := 1) (li := 1) (fr := [frB e ((e - 18 : Nat) : Int), frA 11 (11 : Nat)]) (wt := 2) (sn := s13)
  have t15 := step_yesB (P := P) (T := T) (pc := 38) (pos := e + 1) (h := e + 1) (p := e) (c := ((e - 18 : Nat) : Int)) (mk := #[some 18, some e]) (lm := 1) (li := 1) (fr := [frA 11 (11 : Nat)]) (sn := s13.add 1)
  have t16 := step_yesA (P := P) (T := T) (pc := 27) (pos := e) (h := e + 1) (p := 11) (c := (11 : Nat)) (mk := #[some 18, some e]) (lm := 1) (li := 1) (fr := []) (sn := s13.add 1)
  have t17 := step_end (P := P) (T := T) (pc := 5) (pos := 11) (h := e + 1) (mk := #[some 18, some e]) (lm := 1) (li := 1) (sn := s13.add 1)
  exact ⟨_, (t1.trans (t2.trans (t3.trans (t4.trans (t5.trans (t6.trans (t7.trans (t8.trans (t9.trans (t10.trans (t11.trans (t12.trans (t13.trans (t14.trans (t15.trans (t16.trans t17)))))))))))))))).mono (by omega), rfl, rfl, rfl, rfl⟩
end
end
section
open Builtin Builtin.Re
theorem rp_look : typeLookup (.type "re.Pattern") "match" = pure (some (.builtin "re.Pattern.match")) := by rw [typeLookup_type, builtinLookup_eq_fast]; kernel_rfl
theorem rm_look : typeLookup (.type "re.Match") "group" = pure (some (.builtin "re.Match.group")) := by rw [typeLookup_type, builtinLookup_eq_fast]; kernel_rfl
theorem rp_slot : Slot "re.Pattern" "match" "re.Pattern.match" :=
  .of (owner := "re.Pattern") (n := "match") rp_look (by decide +kernel) (by decide +kernel) (by decide +kernel)
    (by first | exact .inl (by decide +kernel) | exact .inr (by decide +kernel)) (by rw [isSubtype_type]; kernel_rfl)
theorem rm_slot : Slot "re.Match" "group" "re.Match.group" :=
  .of (owner := "re.Match") (n := "group") rm_look (by decide +kernel) (by decide +kernel) (by decide +kernel)
    (by first | exact .inl (by decide +kernel) | exact .inr (by decide +kernel)) (by rw [isSubtype_type]; kernel_rfl)
theorem rp_plain : PlainAttrs "re.Pattern" :=
  ⟨⟨"object.__getattribute__", by rw [typeLookup_type, builtinLookup_eq_fast]; kernel_rfl, by decide +kernel⟩, by rw [typeLookup_type, builtinLookup_eq_fast]; kernel_rfl⟩
theorem rm_plain : PlainAttrs "re.Match" :=
  ⟨⟨"object.__getattribute__", by rw [typeLookup_type, builtinLookup_eq_fast]; kernel_rfl, by decide +kernel⟩, by rw [typeLookup_type, builtinLookup_eq_fast]; kernel_rfl⟩
theorem rp_type : typeOf (.builtin "re.Pattern.match") = pure (.type "method_descriptor") := by show builtinType _ = _; rw [builtinType_eq_fast]; kernel_rfl
theorem rm_type : typeOf (.builtin "re.Match.group") = pure (.type "method_descriptor") := by show builtinType _ = _; rw [builtinType_eq_fast]; kernel_rfl
theorem rp_entry : entryFor table "re.Pattern.match" = some Builtin.«re.Pattern.match» := entryFor_of_tree (by kernel_rfl)
theorem rm_entry : entryFor table "re.Match.group" = some Builtin.«re.Match.group» := entryFor_of_tree (by kernel_rfl)
theorem bs_slot : Slot "bytes" "split" "bytes.split" :=
  .of (owner := "bytes") (n := "split") (by rw [typeLookup_type, builtinLookup_eq_fast]; kernel_rfl) (by decide +kernel) (by decide +kernel) (by decide +kernel)
    (by first | exact .inl (by decide +kernel) | exact .inr (by decide +kernel)) (by rw [isSubtype_type]; kernel_rfl)
theorem bj_slot : Slot "bytes" "join" "bytes.join" :=
  .of (owner := "bytes") (n := "join") (by rw [typeLookup_type, builtinLookup_eq_fast]; kernel_rfl) (by decide +kernel) (by decide +kernel) (by decide +kernel)
    (by first | exact .inl (by decide +kernel) | exact .inr (by decide +kernel)) (by rw [isSubtype_type]; kernel_rfl)
theorem b_plain : PlainAttrs "bytes" :=
  ⟨⟨"bytes.__getattribute__", by rw [typeLookup_type, builtinLookup_eq_fast]; kernel_rfl, by decide +kernel⟩, by rw [typeLookup_type, builtinLookup_eq_fast]; kernel_rfl⟩
theorem bs_type : typeOf (.builtin "bytes.split") = pure (.type "method_descriptor") := by show builtinType _ = _; rw [builtinType_eq_fast]; kernel_rfl
theorem bj_type : typeOf (.builtin "bytes.join") = pure (.type "method_descriptor") := by show builtinType _ = _; rw [builtinType_eq_fast]; kernel_rfl
theorem bs_entry : entryFor table "bytes.split" = some Builtin.«bytes.split» := entryFor_of_tree (by kernel_rfl)
theorem bj_entry : entryFor table "bytes.join" = some Builtin.«bytes.join» := entryFor_of_tree (by kernel_rfl)
theorem rp_args (a b : Value) : argsOk "re.Pattern.match" ⟨[a, b], []⟩ := by unfold argsOk; kernel_rfl
theorem rm_args (a b : Value) : argsOk "re.Match.group" ⟨[a, b], []⟩ := by unfold argsOk; kernel_rfl
theorem bs_args (a : Value) : argsOk "bytes.split" ⟨[a], []⟩ := by unfold argsOk; kernel_rfl
theorem bj_args (a b : Value) : argsOk "bytes.join" ⟨[a, b], []⟩ := by unfold argsOk; kernel_rfl
theorem named_eq (v : Value) : reNamed "re.Pattern.match" "match" ["string", "pos", "endpos"] 1 [v] [] = pure [some v, none, none] := by kernel_rfl
theorem textOf_eq (b : Array UInt8) (t : Tok) : reTextOf (.bytes b t) = pure (b.map (·.toNat), 1) := by
  unfold reTextOf
  rw [show asStr? (.bytes b t) = pure none from rfl, KBy.quiet_eq]
  rfl
theorem noColl_eq (b : Array UInt8) (t : Tok) : reNoCollectionInside (.bytes b t) 1 = pure () := by
  unfold reNoCollectionInside
  rw [KBy.isInstance_eq]
  rfl
section
variable {M : Model} {A : Around} {E : Value → Shared → Prop} {s : Shared}
theorem drive_ok {Q : Sre.M → Shared → Prop} : ∀ (turns N : Nat) (m : Sre.M), (Sre.M.runFor N m).outcome.isSome = true → N < 4 * turns → Q (Sre.M.runFor N m) s → wpAny M A (reDrive turns m) Q E s := by
  intro turns
  induction turns with
  | zero => intro N m _ h; omega
  | succ n ih =>
    intro N m ho hN hq
    show wpAny M A (if (m.runFor reTurnSteps).outcome.isSome then pure (m.runFor reTurnSteps) else do rule "sre.turn"; reDrive n (m.runFor reTurnSteps)) Q E s
    by_cases h1 : (m.runFor reTurnSteps).outcome.isSome = true
    · rw [if_pos h1]
      have e : m.runFor reTurnSteps = m.runFor N := by
        by_cases hl : N ≤ 4
        · rw [show reTurnSteps = N + (4 - N) by show 4 = _; omega, run_add, run_done _ ho]
        · rw [show N = reTurnSteps + (N - 4) by show N = 4 + _; omega, run_add, run_done _ h1]
      rw [e]
      exact wpAny_pure hq
    · rw [if_neg h1]
      have hl : ¬ N ≤ 4 := fun hl => h1 (by rw [show reTurnSteps = N + (4 - N) by show 4 = _; omega, run_add, run_done _ ho]; exact ho)
      have e : m.runFor N = (m.runFor reTurnSteps).runFor (N - 4) := by rw [← run_add]; congr 1; show N = 4 + _; omega
      rw [e] at ho hq
      exact wpAny_bind (wpAny_rule (ih (N - 4) _ ho (by omega) hq))
theorem bnd {j : Nat} (h : j ≤ 300000) : j < 4 * 2 ^ 64 := Nat.lt_of_le_of_lt h (by decide)
theorem runToEnd_ok {Q : Option Sre.M → Shared → Prop} {m m' : Sre.M} (h : To 300000 m m') (ho : m'.outcome = some .matched) (hq : Q (some m') s) : wpAny M A (reRunToEnd m) Q E s := by
  obtain ⟨j, hj, e⟩ := h
  unfold reRunToEnd
  refine wpAny_bind (drive_ok (2 ^ 64) j m (by rw [e, ho]; rfl) (bnd hj) ?_)
  rw [e]
  refine wpAny_bind (wpAny_forIn_list _ (fun _ _ s' => s' = s) _ ?_ ?_ _ _ rfl)
  · rintro x rest b s' rfl
    split
    · exact wpAny_bind (wpAny_rule (wpAny_pure rfl))
    · exact wpAny_pure rfl
  · rintro b s' rfl
    rw [ho]
    exact wpAny_pure hq
noncomputable def p36 (P : Params) : Array Value := match List.lookup 36 (hd.heap_39 P) with
  | some o => (match o.data with | .fields a => a | _ => #[])
  | none => #[]
noncomputable def p35 (P : Params) : Array Value × Nat := match List.lookup 35 (hd.heap_39 P) with
  | some o => (match o.data with | .seq a n => (a, n) | _ => (#[], 0))
  | none => (#[], 0)
theorem look36 (P : Params) : List.lookup 36 (hd.heap_39 P) = some { cls := .type "re.Pattern", data := .fields #[(p36 P).getD 0 .none, (p36 P).getD 1 .none, .int 1 0, .ref 33, .ref 34, .ref 35, .int 1 0] } := by kernel_rfl
theorem look35 (P : Params) : List.lookup 35 (hd.heap_39 P) = some { cls := .type "tuple", data := .seq (p35 P).1 (p35 P).2 } := by kernel_rfl
theorem reC_eq (P : Params) : ((p35 P).1.map reRawOf).map (·.toNat) = reC P := by kernel_rfl
noncomputable abbrev reM (rep : Array UInt8) (t : Tok) (lim : Nat) (li : Int) (Dt : Addr) : Obj := { cls := .type "re.Match", data := .fields #[.bytes rep t, .ref 36, .int 0 0, .int lim 0, .int li 0, .ref Dt] }
noncomputable abbrev reT (h e : Nat) : Obj := { cls := .type "tuple", data := .seq #[.int 0 0, .int h 0, .int 18 0, .int e 0] }
theorem re_match {w : World} {Q : Fin → Shared → Prop} {rep : Array UInt8} {t : Tok} {e : Nat} (X : (hd.heap_39 w.params).In s.heap) (hz : rep.size ≤ 100000) (he : rep.size = e + 2) (hn : ∀ k, k < rep.size → (rep.map (·.toNat)).getD k 0 ≠ 10) (h70 : ∀ q, 11 < q → q < rep.size → (rep.map (·.toNat)).getD q 0 ≠ 70)
    (hl : (rep.map (·.toNat)).getD 11 0 = 70 ∧ (rep.map (·.toNat)).getD 12 0 = 76 ∧ (rep.map (·.toNat)).getD 13 0 = 65 ∧ (rep.map (·.toNat)).getD 14 0 = 71 ∧ (rep.map (·.toNat)).getD 15 0 = 83 ∧ (rep.map (·.toNat)).getD 16 0 = 32 ∧ (rep.map (·.toNat)).getD 17 0 = 40) (h18 : 18 ≤ e) (hne : ∀ k, 18 ≤ k → k < e → (rep.map (·.toNat)).getD k 0 ≠ 41) (hee : (rep.map (·.toNat)).getD e 0 = 41)
    (h : ∀ li hd', Q (.done (.ret (.ref (s.heap.push (reT hd' e)).objs.size))) { s with heap := (s.heap.push (reT hd' e)).push (reM rep t rep.size li s.heap.objs.size) }) :
    wpAny M A (Builtin.«re.Pattern.match» ⟨[.ref 36, .bytes rep t], []⟩) Q E s := by
  have hsz : (rep.map (·.toNat)).size = rep.size := Array.size_map
  obtain ⟨m, hm, ho, hmk, hlm, hst⟩ := sre_match (P := w.params) (T := rep.map (·.toNat)) e (by rw [hsz]; exact hz) (by rw [hsz]; exact he) (by rw [hsz]; exact hn) (by rw [hsz]; exact h70) hl h18 hne hee
  have hx := X 35 _ (look35 w.params)
  have hc := reC_eq w.params
  unfold Builtin.«re.Pattern.match»
  refine wpAny_bind ?_
  unfold reTarget
  dsimp only
  refine wpAny_bind (wpAny_of_eq (named_eq _) ?_)
  dsimp only
  refine wpAny_bind (wpAny_pure ?_)
  refine wpAny_bind (wpAny_pure ?_)
  unfold fieldsOf
  dsimp only
  refine wpAny_bind (wpAny_bind (wpAny_load (X 36 _ (look36 w.params)) ?_))
  refine wpAny_pure ?_
  refine wpAny_bind (wpAny_of_eq (textOf_eq _ _) ?_)
  dsimp only
  rw [if_neg (by show ¬ (false = true); decide)]
  rw [if_neg (by show ¬ (false = true); decide)]
  refine wpAny_bind (wpAny_of_eq (noColl_eq _ _) ?_)
  refine wpAny_bind ?_
  unfold reRawItems
  refine wpAny_bind (wpAny_seqItems hx rfl ?_)
  refine wpAny_pure ?_
  refine wpAny_pure ?_
  unfold reAnswer
  dsimp only
  have hlim : Min.min ((2 : Int) ^ 63 - 1).toNat (rep.map (·.toNat)).size = (rep.map (·.toNat)).size := by
    have : ((2 : Int) ^ 63 - 1).toNat = 9223372036854775807 := by decide
    rw [this, hsz]; omega
  have hpos : Min.min (Int.toNat 0) (rep.map (·.toNat)).size = 0 := Nat.zero_min _
  rw [hlim, hpos]
  rw [show ((some (p35 w.params).1).getD #[]).map reRawOf = (p35 w.params).1.map reRawOf from rfl, hc]
  refine wpAny_bind (runToEnd_ok (m' := m) hm ho ?_)
  dsimp only
  refine wpAny_bind ?_
  unfold reNewMatch
  simp only [hmk, hlm, hst]
  rw [if_neg (by
    show ¬ ((decide (((2 * 0 + 1 : Nat) : Int) ≤ 1) && decide (e < 18)) || false) = true
    rw [decide_eq_false (show ¬ e < 18 by omega)]
    decide)]
  refine wpAny_bind (wpAny_newTuple ?_ (by show 4 ≤ sizeLine; decide))
  unfold newFields
  refine wpAny_newObj_type ?_ (by size_fits)
  refine wpAny_pure ?_
  have := h m.lastindex m.handed
  rw [← hsz] at this
  exact this
end
end
section
open Builtin Builtin.Re
theorem str_noindex : typeLookup (.type "str") "__index__" = pure none := by rw [typeLookup_type, builtinLookup_eq_fast]; kernel_rfl
section
variable {prog : Program} {w : World} {A : Around} {E : Value → Shared → Prop} {s : Shared}
theorem toU8 (rep : Array UInt8) (b e : Nat) : (((rep.map (·.toNat)).extract b e).map (·.toUInt8)) = rep.extract b e := by
  rw [← Array.map_extract, Array.map_map]
  have : ((fun x => x.toUInt8) ∘ fun (x : UInt8) => x.toNat) = _root_.id := by funext x; exact UInt8.ofNat_toNat
  rw [this, Array.map_id]
theorem flag_map (X : (hd.heap_39 w.params).In s.heap) : ∃ f, s.heap.MapOf (strKind prog w) 33 f ∧ ∃ t, f (Str.ofString "flags") = some (.int 1 t) := by
  refine ⟨_, ⟨_, _, _, X 33 _ rfl, ⟨rfl, rfl, rfl⟩, rfl, ?_, fun k => rfl⟩, 328, ?_⟩
  · intro e he
    have he' : e ∈ [_] := Array.mem_toList_iff.mpr he
    rw [List.mem_singleton.mp he']
    exact ⟨Str.ofString "flags", rfl, rfl⟩
  · kernel_rfl
theorem re_group {Q : Fin → Shared → Prop} {rep : Array UInt8} {t u : Tok} {n e h' : Nat} {li : Int} {D Dt : Addr} (X : (hd.heap_39 w.params).In s.heap) (hz : rep.size ≤ 100000) (hD : s.heap.get? D = some (reM rep t n li Dt)) (hDt : s.heap.get? Dt = some (reT h' e))
    (h : ∀ s₁, s₁ = { s with toks := s.toks + 2 } → Q (.done (.ret (.bytes (rep.extract 18 e) (s.toks + 1)))) s₁) :
    wpAny (model prog w) A (Builtin.«re.Match.group» ⟨[.ref D, .str (Str.ofString "flags") u], []⟩) Q E s := by
  unfold Builtin.«re.Match.group»
  refine wpAny_bind (wpAny_pure ?_)
  dsimp only
  refine wpAny_bind ?_
  unfold reFound
  unfold fieldsOf
  dsimp only
  refine wpAny_bind (wpAny_bind (wpAny_load hD ?_))
  refine wpAny_pure ?_
  unfold reRawItems
  refine wpAny_bind ?_
  refine wpAny_bind (wpAny_seqItems hDt rfl ?_)
  refine wpAny_pure ?_
  refine wpAny_pure ?_
  refine wpAny_bind ?_
  unfold reGroupNumber
  refine wpAny_bind (wpAny_of_eq (a := none) rfl ?_)
  dsimp only
  rw [if_neg (by decide)]
  have hs : specialOf (Value.str (Str.ofString "flags") u) (Str.ofString "__index__") = pure none := by
    have e : specialOf (Value.str (Str.ofString "flags") u) (Str.ofString "__index__") = typeLookup (.type "str") "__index__" := rfl
    rw [e, str_noindex]
  refine wpAny_bind (wpAny_of_eq hs ?_)
  rw [if_neg (by decide)]
  unfold fieldsOf
  refine wpAny_bind ?_
  refine wpAny_bind (wpAny_load (X 36 _ (look36 w.params)) ?_)
  refine wpAny_pure ?_
  obtain ⟨f, hf, ft, hft⟩ := flag_map (prog := prog) X
  show wpAny (model prog w) A (dictGet 33 (Value.str (Str.ofString "flags") u) >>= _) _ E s
  refine wpAny_bind (wpAny_dictGet_of (knd := strKind prog w) (k := Str.ofString "flags") (by kernel_rfl) hf ?_)
  rw [hft]
  dsimp only
  refine wpAny_bind (wpAny_of_eq (a := some 1) rfl ?_)
  refine wpAny_bind (wpAny_pure ?_)
  have hm : Array.map reRawOf ((some #[Value.int 0 0, Value.int (h' : Nat) 0, Value.int 18 0, Value.int (e : Nat) 0]).getD #[]) = #[0, (h' : Int), 18, (e : Int)] := by
    show Array.map reRawOf #[Value.int 0 0, Value.int (h' : Nat) 0, Value.int 18 0, Value.int (e : Nat) 0] = _
    rw [List.map_toArray]
    rfl
  rw [hm]
  rw [if_neg (by
    show ¬ (decide ((1 : Int) < 0) || decide ((2 : Int) * 1 ≥ ((4 : Nat) : Int))) = true
    decide)]
  refine wpAny_pure ?_
  unfold reGroupText
  dsimp only
  refine wpAny_bind ?_
  rw [if_neg (by
    show ¬ (decide ((18 : Int) < 0) || decide ((e : Int) < 0)) = true
    rw [decide_eq_false (show ¬ (e : Int) < 0 by omega)]
    decide)]
  refine wpAny_bind (wpAny_of_eq (textOf_eq _ _) ?_)
  show wpAny (model prog w) A (mkBytes (((rep.map (·.toNat)).extract 18 ((e : Int)).toNat).map (·.toUInt8))) _ E _
  rw [toU8, Int.toNat_natCast]
  refine wpAny_mkBytes ?_ (by rw [Array.size_extract]; show _ ≤ 16777216; omega)
  refine wpAny_pure ?_
  exact h _ rfl
end
end
section
open Builtin Builtin.Bytes
/-- byte words, as values -/
inductive BytesAre : List Value → List (List UInt8) → Prop
  | nil : BytesAre [] []
  | cons (x : List UInt8) (t : Tok) {vs : List Value} {l : List (List UInt8)} : BytesAre vs l → BytesAre (.bytes x.toArray t :: vs) (x :: l)
theorem BytesAre.len {vs : List Value} {l : List (List UInt8)} (h : BytesAre vs l) : vs.length = l.length := by
  induction h with
  | nil => rfl
  | cons _ _ _ ih => rw [List.length_cons, List.length_cons, ih]
theorem BytesAre.snoc {vs : List Value} {l : List (List UInt8)} {x : List UInt8} {t : Tok} (h : BytesAre vs l) : BytesAre (vs ++ [.bytes x.toArray t]) (l ++ [x]) := by
  induction h with
  | nil => exact .cons _ _ .nil
  | cons _ _ _ ih => exact .cons _ _ ih
theorem BytesAre.get {vs : List Value} {l : List (List UInt8)} (h : BytesAre vs l) {i : Nat} {v : Value} (hv : vs[i]? = some v) : ∃ x t, v = .bytes x.toArray t ∧ l[i]? = some x := by
  induction h generalizing i with
  | nil => simp at hv
  | cons x t _ ih =>
    cases i with
    | zero => simp at hv; subst hv; exact ⟨x, t, rfl, rfl⟩
    | succ i => exact ih (by simpa using hv)
inductive BytAt (l : List (List UInt8)) (i : Nat) (v : Value) : Prop
  | mk (x : List UInt8) (t : Tok) (h1 : v = .bytes x.toArray t) (h2 : l[i]? = some x) : BytAt l i v
theorem BytesAre.getR {vs : List Value} {l : List (List UInt8)} (h : BytesAre vs l) {i : Nat} {v : Value} (hv : vs[i]? = some v) : BytAt l i v := by
  obtain ⟨x, t, h1, h2⟩ := h.get hv
  exact ⟨x, t, h1, h2⟩
noncomputable def joinL : List (List UInt8) → List UInt8
  | [] => []
  | [x] => x
  | x :: y :: r => x ++ 32 :: joinL (y :: r)
noncomputable def Plain (x : List UInt8) : Prop := x ≠ [] ∧ ∀ c ∈ x, isSpace c = false
theorem dropWhile_sp {sp r : List UInt8} (hs : ∀ c ∈ sp, isSpace c = true) (hr : ∀ c ∈ r.head?, isSpace c = false) : (sp ++ r).dropWhile isSpace = r := by
  induction sp with
  | nil =>
    cases r with
    | nil => rfl
    | cons c r => rw [List.nil_append, List.dropWhile_cons_of_neg (by rw [hr c rfl]; decide)]
  | cons c sp ih => rw [List.cons_append, List.dropWhile_cons_of_pos (hs c (.head _))]; exact ih fun c hc => hs c (.tail _ hc)
theorem take_word {x r : List UInt8} (hx : ∀ c ∈ x, isSpace c = false) (hr : ∀ c ∈ r.head?, isSpace c = true) : (x ++ r).takeWhile (!isSpace ·) = x ∧ (x ++ r).dropWhile (!isSpace ·) = r := by
  induction x with
  | nil =>
    cases r with
    | nil => exact ⟨rfl, rfl⟩
    | cons c r =>
      have h := hr c rfl
      rw [List.nil_append]
      exact ⟨List.takeWhile_cons_of_neg (by rw [h]; decide), List.dropWhile_cons_of_neg (by rw [h]; decide)⟩
  | cons c x ih =>
    have h := hx c (.head _)
    obtain ⟨i1, i2⟩ := ih fun c hc => hx c (.tail _ hc)
    rw [List.cons_append]
    exact ⟨by rw [List.takeWhile_cons_of_pos (by rw [h]; rfl), i1], by rw [List.dropWhile_cons_of_pos (by rw [h]; rfl)]; exact i2⟩
theorem joinL_head {x : List UInt8} {fl : List (List UInt8)} : ∃ r, joinL (x :: fl) = x ++ r ∧ (fl = [] → r = []) ∧ (∀ y q, fl = y :: q → r = 32 :: joinL fl) := by
  cases fl with
  | nil => exact ⟨[], (List.append_nil x).symm, fun _ => rfl, fun _ _ h => nomatch h⟩
  | cons y q => exact ⟨_, rfl, (fun h => nomatch h), fun _ _ _ => rfl⟩
theorem words_join : ∀ (fl : List (List UInt8)) (fuel left : Nat) (sp : List UInt8), (∀ x ∈ fl, Plain x) → fl.length < fuel → fl.length ≤ left → (∀ c ∈ sp, isSpace c = true) → words fuel left (sp ++ joinL fl) = fl
  | [], fuel + 1, left, sp, _, _, _, hs => by
    have : (sp ++ joinL []).dropWhile isSpace = [] := dropWhile_sp hs (fun _ h => nomatch h)
    rw [words, this]
  | x :: fl, fuel + 1, left, sp, hp, hf, hl, hs => by
    obtain ⟨r, hr, h0, h1⟩ := joinL_head (x := x) (fl := fl)
    have hx := hp x (.head _)
    obtain ⟨c, x', hcx⟩ := List.exists_cons_of_ne_nil hx.1
    have hd : (sp ++ joinL (x :: fl)).dropWhile isSpace = joinL (x :: fl) := dropWhile_sp hs (fun d hd => by
      rw [hr, hcx] at hd
      have : d = c := (Option.some.inj hd).symm
      subst this
      exact hx.2 d (by rw [hcx]; exact .head _))
    rw [words, hd]
    have hne : joinL (x :: fl) = c :: (x' ++ r) := by rw [hr, hcx]; rfl
    have ht := take_word (x := x) (r := r) hx.2 (by
      intro d hq
      clear hd hne
      cases fl with
      | nil => rw [h0 rfl] at hq; cases hq
      | cons y q => rw [h1 y q rfl] at hq; rw [← Option.some.inj hq]; rfl)
    rw [← hr] at ht
    have key : (if (left == 0) = true then [joinL (x :: fl)] else (joinL (x :: fl)).takeWhile (!isSpace ·) :: words fuel (left - 1) ((joinL (x :: fl)).dropWhile (!isSpace ·))) = x :: fl := by
      rw [if_neg (by rw [List.length_cons] at hl; simp; omega), ht.1, ht.2]
      congr 1
      cases fl with
      | nil =>
        rw [h0 rfl]
        cases fuel with
        | zero => rfl
        | succ n => exact words_join [] (n + 1) (left - 1) [] (fun _ h => nomatch h) (by simp) (by simp) (fun _ h => nomatch h)
      | cons y q =>
        rw [h1 y q rfl]
        exact words_join (y :: q) fuel (left - 1) [32] (fun z hz => hp z (.tail _ hz)) (by simp only [List.length_cons] at hf ⊢; omega) (by simp only [List.length_cons] at hl ⊢; omega) (fun d hd => by rw [List.mem_singleton.mp hd]; rfl)
    rw [hne] at key ⊢
    exact key
  | [], 0, _, _, _, h, _, _ => absurd h (by simp)
  | _ :: _, 0, _, _, _, h, _, _ => absurd h (by simp)
theorem joinL_len : ∀ fl : List (List UInt8), (∀ x ∈ fl, Plain x) → fl.length ≤ (joinL fl).length
  | [], _ => Nat.zero_le _
  | [x], h => by
    have := (h x (.head _)).1
    show 1 ≤ x.length
    exact Nat.one_le_iff_ne_zero.mpr fun e => this (List.eq_nil_of_length_eq_zero e)
  | x :: y :: r, h => by
    have := joinL_len (y :: r) fun z hz => h z (.tail _ hz)
    show _ ≤ (x ++ 32 :: joinL (y :: r)).length
    simp only [List.length_append, List.length_cons] at this ⊢
    omega
section
variable {M : Model} {A : Around} {E : Value → Shared → Prop}
theorem mapM_bytes : ∀ (ws : List (List UInt8)) (s : Shared) (Q : List Value → Shared → Prop), (∀ x ∈ ws, x.length ≤ 100000) → (∀ vs k, BytesAre vs ws → Q vs { s with toks := k }) → wpAny M A (ws.mapM fun w => Kind.new .bytes w.toArray) Q E s
  | [], s, Q, _, h => by rw [List.mapM_nil]; exact wpAny_pure (h [] s.toks .nil)
  | x :: r, s, Q, hx, h => by
    rw [List.mapM_cons]
    show wpAny M A (mkBytes x.toArray >>= _) Q E s
    refine wpAny_bind (wpAny_mkBytes (wpAny_bind (mapM_bytes r _ _ (fun y hy => hx y (.tail _ hy)) fun vs k hv => wpAny_pure ?_)) (by rw [List.size_toArray]; exact Nat.le_trans (hx x (.head _)) (by decide)))
    exact h _ k (.cons _ _ hv)
theorem b_split {s : Shared} {Q : Fin → Shared → Prop} {fl : List (List UInt8)} {b : Array UInt8} {t : Tok} (hb : b = (joinL fl).toArray) (hp : ∀ x ∈ fl, Plain x) (hz : (joinL fl).length ≤ 100000) (hzz : ∀ x ∈ fl, x.length ≤ 100000)
    (h : ∀ vs k, BytesAre vs fl → Q (.done (.ret (.ref s.heap.objs.size))) { s with heap := s.heap.push (listO vs 0), toks := k }) :
    wpAny M A (Builtin.«bytes.split» ⟨[.bytes b t], []⟩) Q E s := by
  have hlen := joinL_len fl hp
  show wpAny M A (Builtin.Bytes.splitM .bytes "split" false ⟨[.bytes b t], []⟩) Q E s
  unfold splitM
  dsimp only
  refine wpAny_bind (wpAny_of_eq (a := [none, none]) (by kernel_rfl) ?_)
  dsimp only
  refine wpAny_bind (wpAny_pure ?_)
  refine wpAny_bind (wpAny_of_eq (a := b) rfl ?_)
  refine wpAny_bind (wpAny_rule ?_)
  rw [if_pos (show (-1 : Int) < 0 by decide)]
  by_cases hc : (decide (b.size + 1 > 0) && !b.isEmpty && !b.any isSpace) = true
  · rw [if_pos hc]
    simp only [Bool.and_eq_true, Bool.not_eq_true', decide_eq_true_eq] at hc
    have hone : ∃ x, fl = [x] := by
      cases fl with
      | nil => rw [hb] at hc; exact absurd hc.1.2 (by decide)
      | cons x r =>
        cases r with
        | nil => exact ⟨x, rfl⟩
        | cons y q =>
          exfalso
          have h2 := hc.2
          rw [hb, Array.any_toList.symm] at h2
          have h3 : (x ++ 32 :: joinL (y :: q)).any isSpace = true := by rw [List.any_append, List.any_cons, show isSpace 32 = true from rfl, Bool.true_or, Bool.or_true]
          exact absurd (h3.symm.trans h2) (by decide)
    obtain ⟨x, rfl⟩ := hone
    have hb' : b = x.toArray := hb
    subst hb'
    refine wpAny_bind (wpAny_of_eq (a := .bytes x.toArray t) rfl ?_)
    refine wpAny_bind (wpAny_newList ?_ (by show 1 ≤ sizeLine; decide))
    exact wpAny_pure (h [.bytes x.toArray t] s.toks (.cons _ _ .nil))
  · rw [if_neg hc, if_neg (by decide)]
    have hw : words (b.size + 1) (b.size + 1) b.toList = fl := by
      have hbz : b.size = (joinL fl).length := by rw [hb, List.size_toArray]
      have hbl : b.toList = [] ++ joinL fl := by rw [hb]; rfl
      rw [hbl]
      exact words_join fl _ _ [] hp (by omega) (by omega) (fun _ h => nomatch h)
    rw [hw]
    refine wpAny_bind (mapM_bytes fl s _ hzz fun vs k hv => ?_)
    refine wpAny_bind (wpAny_newList ?_ (by rw [hv.len]; show _ ≤ 16777216; omega))
    exact wpAny_pure (h vs k hv)
end
end
section
open Builtin Builtin.Bytes
theorem sum_sizes : ∀ (fl : List (List UInt8)) (n : Nat), (fl.map List.toArray).foldl (fun x1 (x2 : Array UInt8) => x1 + x2.size) n = n + (fl.map List.length).sum
  | [], n => rfl
  | x :: r, n => by
    rw [List.map_cons, List.foldl_cons, sum_sizes r, List.map_cons, List.sum_cons, List.size_toArray]; omega
theorem joinL_size : ∀ (fl : List (List UInt8)), fl ≠ [] → (joinL fl).length = (fl.length - 1) + (fl.map List.length).sum
  | [], h => absurd rfl h
  | [x], _ => by show x.length = 0 + (x.length + 0); omega
  | x :: y :: r, _ => by
    have := joinL_size (y :: r) (fun h => nomatch h)
    rw [List.map_cons, List.sum_cons]
    show (x ++ 32 :: joinL (y :: r)).length = _
    simp only [List.length_append, List.length_cons] at this ⊢
    omega
theorem joined_go : ∀ (fl : List (List UInt8)) (k : Nat) (out : Array UInt8), 0 < k → ((fl.map List.toArray).zipIdx k).foldl (fun out (x : Array UInt8 × Nat) => (if x.2 > 0 then out ++ #[32] else out) ++ x.1) out = out ++ ((fl.map fun x => 32 :: x).flatten).toArray
  | [], k, out, _ => by simp
  | x :: r, k, out, h => by
    rw [List.map_cons, List.zipIdx_cons, List.foldl_cons, joined_go r (k + 1) _ (by omega), if_pos h, List.map_cons, List.flatten_cons]
    apply Array.toList_inj.mp
    simp
theorem joinL_tail : ∀ (fl : List (List UInt8)) (x : List UInt8), joinL (x :: fl) = x ++ (fl.map fun x => 32 :: x).flatten
  | [], x => (List.append_nil x).symm
  | y :: r, x => by
    show x ++ 32 :: joinL (y :: r) = _
    rw [joinL_tail r y]; rfl
theorem joined_eq (fl : List (List UInt8)) : joined #[32] (fl.map List.toArray) = (joinL fl).toArray := by
  unfold joined
  cases fl with
  | nil => rfl
  | cons x r =>
    rw [List.map_cons, List.zipIdx_cons, List.foldl_cons]
    have := joined_go r (0 + 1) ((if (0 : Nat) > 0 then (#[] : Array UInt8) ++ #[32] else #[]) ++ x.toArray) (by omega)
    refine this.trans ?_
    rw [if_neg (by omega), joinL_tail]
    apply Array.toList_inj.mp
    simp
section
variable {M : Model} {A : Around} {E : Value → Shared → Prop}
theorem take_eq {id : String} {b : Array UInt8} {t : Tok} : takeBuffer? id (.bytes b t) 0 = pure (some (b, none)) := by
  unfold takeBuffer?
  have hf : ((0 : Int) == fullReadOnly) = false := by kernel_rfl
  rw [KBy.special_eq KBy.look_buffer, KBy.own_buffer]
  simp only [hf, KBy.buffer_eq]
  kernel_rfl
theorem takeQ_eq {id : String} {b : Array UInt8} {t : Tok} : takeBufferQuiet? id (.bytes b t) 0 = pure (some (b, none)) := by
  unfold takeBufferQuiet?
  rw [take_eq]
  rfl
theorem joinLetGo_ok {s : Shared} {Q : Unit → Shared → Prop} : ∀ (tk : List (Value × Option Value)) (keep : List Value), (∀ p ∈ tk, p.2 = none) → Q () s → wpAny M A (joinLetGo tk keep) Q E s
  | [], _, _, h => wpAny_pure h
  | (x, w) :: r, keep, hn, h => by
    have : w = none := hn _ (.head _)
    subst this
    unfold joinLetGo
    exact wpAny_bind (wpAny_letGo (joinLetGo_ok r keep (fun p hp => hn p (.tail _ hp)) h))
/-- what the loop of `join` has taken -/
inductive JI (fl : List (List UInt8)) (vs : List Value) (s : Shared) : List Nat → Array (Array UInt8) × List (Value × Option Value) → Shared → Prop
  | mk (i : Nat) (h : i ≤ vs.length) : JI fl vs s (List.range' i (vs.length - i)) (((fl.take i).map List.toArray).toArray, (vs.take i).map fun v => (v, none)) s
inductive JT (fl : List (List UInt8)) (vs : List Value) (s : Shared) : Nat → List Nat → Array (Array UInt8) × List (Value × Option Value) → Shared → Prop
  | mk (i : Nat) (h : i < vs.length) : JT fl vs s i (List.range' (i + 1) (vs.length - (i + 1))) (((fl.take i).map List.toArray).toArray, (vs.take i).map fun v => (v, none)) s
inductive JE (fl : List (List UInt8)) (vs : List Value) (s : Shared) : Array (Array UInt8) × List (Value × Option Value) → Shared → Prop
  | mk : JE fl vs s ((fl.map List.toArray).toArray, vs.map fun v => (v, none)) s
theorem range_cut {i n : Nat} (h : i < n) : List.range' i (n - i) = i :: List.range' (i + 1) (n - (i + 1)) := by
  rw [show n - i = (n - (i + 1)) + 1 by omega, List.range'_succ]
theorem JI.turn {fl : List (List UInt8)} {vs : List Value} {s s' : Shared} {x : Nat} {rest : List Nat} {st : Array (Array UInt8) × List (Value × Option Value)} (h : JI fl vs s (x :: rest) st s') : JT fl vs s x rest st s' := by
  generalize hl : x :: rest = l at h
  cases h with
  | mk i hi =>
    rcases Nat.lt_or_ge i vs.length with h | h
    · rw [range_cut h] at hl
      cases hl
      exact .mk _ h
    · rw [Nat.sub_eq_zero_of_le h] at hl
      cases hl
theorem JI.fin {fl : List (List UInt8)} {vs : List Value} {s s' : Shared} {st : Array (Array UInt8) × List (Value × Option Value)} (hlen : vs.length = fl.length) (h : JI fl vs s [] st s') : JE fl vs s st s' := by
  generalize hl : ([] : List Nat) = l at h
  cases h with
  | mk i hi =>
    rcases Nat.lt_or_ge i vs.length with h | h
    · rw [range_cut h] at hl
      cases hl
    · have e1 := List.take_of_length_le h
      have e2 := List.take_of_length_le (hlen ▸ h)
      rw [e1, e2]
      exact .mk
/-- the part that is taken next -/
inductive NowAt (fl : List (List UInt8)) (vs : List Value) (i : Nat) : Value → Prop
  | mk (xb : List UInt8) (tx : Tok) (hf : fl[i]? = some xb) (hv : vs[i]? = some (.bytes xb.toArray tx)) : NowAt fl vs i (.bytes xb.toArray tx)
theorem BytesAre.now {fl : List (List UInt8)} {vs : List Value} (hv : BytesAre vs fl) {i : Nat} (h : i < vs.length) : NowAt fl vs i (vs.toArray.getD i Value.none) := by
  have e := List.getElem?_eq_getElem h
  obtain ⟨xb, tx, hvx, hfx⟩ := hv.get e
  rw [Array.getD_eq_getD_getElem?, List.getElem?_toArray, e, hvx]
  exact .mk xb tx hfx (hvx ▸ e)
theorem taken_any {fl : List (List UInt8)} {vs : List Value} (hv : BytesAre vs fl) (i : Nat) : (((vs.take i).map fun v => (v, (none : Option Value))).any fun x => x.fst.onHeap) = false := by
  rw [List.any_map, List.any_eq_false]
  intro y hy
  obtain ⟨j, hj⟩ := List.mem_iff_getElem?.mp (List.mem_of_mem_take hy)
  obtain ⟨z, tz, rfl, -⟩ := hv.get hj
  exact Bool.false_ne_true
theorem join_short {fl : List (List UInt8)} (hne : fl ≠ []) (hz : (joinL fl).length ≤ 100000) : ¬ (tooLong ((fl.map List.toArray).toArray.foldl (fun x1 (x2 : Array UInt8) => x1 + x2.size) ((#[32] : Array UInt8).size * ((fl.map List.toArray).toArray.size - 1))) = true) := by
  rw [List.foldl_toArray, sum_sizes, List.size_toArray, List.size_toArray, List.length_map]
  have h1 := joinL_size fl hne
  rw [KBy.tooLong_not (by show 1 * (fl.length - 1) + _ ≤ _; omega)]
  decide
theorem JI.next {fl : List (List UInt8)} {vs : List Value} {s : Shared} {i : Nat} (h : i < vs.length) {xb : List UInt8} {tx : Tok} (hf : fl[i]? = some xb) (hv : vs[i]? = some (.bytes xb.toArray tx)) :
    JI fl vs s (List.range' (i + 1) (vs.length - (i + 1))) (((fl.take i).map List.toArray).toArray.push xb.toArray, ((vs.take i).map fun v => (v, none)) ++ [(.bytes xb.toArray tx, none)]) s := by
  have e : (((fl.take i).map List.toArray).toArray.push xb.toArray, ((vs.take i).map fun v => (v, (none : Option Value))) ++ [(Value.bytes xb.toArray tx, none)]) = (((fl.take (i + 1)).map List.toArray).toArray, (vs.take (i + 1)).map fun v => (v, none)) := by
    rw [List.take_add_one, List.take_add_one, hf, hv, List.map_append, List.map_append]
    simp
  rw [e]
  exact .mk (i + 1) h
theorem b_join0 {s : Shared} {Q : Fin → Shared → Prop} {t : Tok} {D : Addr} {k : Nat} (hD : s.heap.get? D = some (listO [] k))
    (h : ∀ t' k', Q (.done (.ret (.bytes #[] t'))) { s with toks := k' }) :
    wpAny M A (Builtin.«bytes.join» ⟨[.bytes #[32] t, .ref D], []⟩) Q E s := by
  show wpAny M A (Builtin.Bytes.joinM .bytes ⟨[.bytes #[32] t, .ref D], []⟩) Q E s
  unfold joinM
  refine wpAny_bind (wpAny_of_eq (a := (.bytes #[32] t, .ref D)) rfl ?_)
  refine wpAny_bind ?_
  unfold joinItems
  refine wpAny_bind (wpAny_typeOf ⟨_, hD, rfl⟩ ?_)
  rw [if_pos (by decide)]
  refine wpAny_pure (wpAny_bind (wpAny_seqItems hD rfl ?_))
  dsimp only
  rw [if_pos (by rfl)]
  show wpAny M A (forIn _ _ _ >>= _) Q E s
  refine wpAny_bind ?_
  rw [Std.Legacy.Range.forIn_eq_forIn_range']
  show wpAny M A (forIn ([] : List Nat) _ _) _ E s
  rw [List.forIn_nil]
  refine wpAny_pure ?_
  dsimp only
  refine wpAny_bind (wpAny_of_eq (a := #[32]) rfl ?_)
  rw [if_neg (by decide)]
  refine wpAny_bind (wpAny_mkBytes ?_ (by decide))
  refine wpAny_bind (wpAny_holding (wpAny_point ?_))
  exact wpAny_bind (joinLetGo_ok _ _ (fun _ h => nomatch h) (wpAny_pure (h _ _)))
theorem b_join1 {s : Shared} {Q : Fin → Shared → Prop} {x : List UInt8} {t tx : Tok} {D : Addr} {k : Nat} (hD : s.heap.get? D = some (listO [.bytes x.toArray tx] k))
    (h : ∀ t' k', Q (.done (.ret (.bytes x.toArray t'))) { s with toks := k' }) :
    wpAny M A (Builtin.«bytes.join» ⟨[.bytes #[32] t, .ref D], []⟩) Q E s := by
  show wpAny M A (Builtin.Bytes.joinM .bytes ⟨[.bytes #[32] t, .ref D], []⟩) Q E s
  unfold joinM
  refine wpAny_bind (wpAny_of_eq (a := (.bytes #[32] t, .ref D)) rfl ?_)
  refine wpAny_bind ?_
  unfold joinItems
  refine wpAny_bind (wpAny_typeOf ⟨_, hD, rfl⟩ ?_)
  rw [if_pos (by decide)]
  refine wpAny_pure (wpAny_bind (wpAny_seqItems hD rfl ?_))
  dsimp only
  rw [if_pos (by rfl)]
  show wpAny M A (typeOf _ >>= _) Q E s
  refine wpAny_bind (wpAny_typeOf (typeIs_bytes _ _ _) ?_)
  rw [if_pos (by decide)]
  exact wpAny_bind (wpAny_rule (wpAny_pure (h tx s.toks)))
theorem b_join2 {s : Shared} {Q : Fin → Shared → Prop} {fl : List (List UInt8)} {t : Tok} {D : Addr} {v v2 : Value} {vr : List Value} {k : Nat} (hD : s.heap.get? D = some (listO (v :: v2 :: vr) k)) (hv : BytesAre (v :: v2 :: vr) fl) (hz : (joinL fl).length ≤ 100000)
    (h : ∀ t' k', Q (.done (.ret (.bytes (joinL fl).toArray t'))) { s with toks := k' }) :
    wpAny M A (Builtin.«bytes.join» ⟨[.bytes #[32] t, .ref D], []⟩) Q E s := by
  show wpAny M A (Builtin.Bytes.joinM .bytes ⟨[.bytes #[32] t, .ref D], []⟩) Q E s
  unfold joinM
  refine wpAny_bind (wpAny_of_eq (a := (.bytes #[32] t, .ref D)) rfl ?_)
  refine wpAny_bind ?_
  unfold joinItems
  refine wpAny_bind (wpAny_typeOf ⟨_, hD, rfl⟩ ?_)
  rw [if_pos (by decide)]
  refine wpAny_pure (wpAny_bind (wpAny_seqItems hD rfl ?_))
  have hlen := hv.len
  have hne : fl ≠ [] := fun e => by rw [e] at hlen; cases hlen
  dsimp only
  rw [if_pos (by rfl)]
  show wpAny M A (forIn _ _ _ >>= _) Q E s
  generalize v :: v2 :: vr = vs at *
  refine wpAny_bind ?_
  rw [Std.Legacy.Range.forIn_eq_forIn_range']
  refine wpAny_forIn_list _ (JI fl vs s) _ ?_ ?_ _ _ ?_
  · refine fun x rest st s' hJ => JT.casesOn hJ.turn fun hlt => ?_
    refine wpAny_bind (wpAny_seqItems hD rfl ?_)
    dsimp only
    rw [if_neg (by rw [taken_any hv x]; decide)]
    refine NowAt.casesOn (hv.now hlt) fun xb tx hf hx => ?_
    refine wpAny_bind (wpAny_holding (wpAny_of_eq takeQ_eq ?_))
    refine wpAny_bind (wpAny_seqItems hD rfl ?_)
    dsimp only
    rw [if_neg (by simp)]
    exact wpAny_pure (JI.next hlt hf hx)
  · refine fun st s' hJ => JE.casesOn (hJ.fin hlen) ?_
    refine wpAny_bind (wpAny_of_eq (a := #[32]) rfl ?_)
    rw [if_neg (join_short hne hz), joined_eq]
    refine wpAny_bind (wpAny_mkBytes ?_ (by rw [List.size_toArray]; show _ ≤ 16777216; omega))
    refine wpAny_bind (wpAny_holding (wpAny_point ?_))
    exact wpAny_bind (joinLetGo_ok _ _ (fun p hp => by obtain ⟨_, _, rfl⟩ := List.mem_map.mp hp; rfl) (wpAny_pure (h _ _)))
  · have e : (vs.toArray.size - 0 + 1 - 1) / 1 = vs.length - 0 := by simp
    show JI fl vs s (List.range' 0 ((vs.toArray.size - 0 + 1 - 1) / 1)) _ s
    rw [e]
    exact .mk 0 (Nat.zero_le _)
theorem b_join {s : Shared} {Q : Fin → Shared → Prop} {fl : List (List UInt8)} {t : Tok} {D : Addr} {vs : List Value} {k : Nat} (hD : s.heap.get? D = some (listO vs k)) (hv : BytesAre vs fl) (hz : (joinL fl).length ≤ 100000)
    (h : ∀ t' k', Q (.done (.ret (.bytes (joinL fl).toArray t'))) { s with toks := k' }) :
    wpAny M A (Builtin.«bytes.join» ⟨[.bytes #[32] t, .ref D], []⟩) Q E s := by
  rcases vs with _ | ⟨v, _ | ⟨v2, vr⟩⟩
  · cases hv
    exact b_join0 hD h
  · cases hv with
    | cons x tx hr =>
      cases hr
      exact b_join1 hD h
  · exact b_join2 hD hv hz h
end
end
section
open Builtin Builtin.Re
noncomputable def preL : List UInt8 := [42, 32, 55, 32, 70, 69, 84, 67, 72, 32, 40, 70, 76, 65, 71, 83, 32, 40]
noncomputable def repL (fl : List (List UInt8)) : List UInt8 := preL ++ (joinL fl ++ [41, 41])
noncomputable def Lets (x : List UInt8) : Prop := x ≠ [] ∧ x.length ≤ 3 ∧ ∀ c ∈ x, 65 ≤ c.toNat ∧ c.toNat ≤ 77 ∧ c.toNat ≠ 70
theorem Lets.plain {x : List UInt8} (h : Lets x) : Plain x := ⟨h.1, fun c hc => by
  have h2 := h.2.2 c hc
  unfold Bytes.isSpace
  have h3 : ¬ c = 32 := fun e => by rw [e] at h2; exact absurd h2.1 (by decide)
  have h4 : ¬ c ≤ 13 := fun e => by
    have := UInt8.le_iff_toNat_le.mp e
    have : (13 : UInt8).toNat = 13 := rfl
    omega
  rw [beq_false_of_ne h3, decide_eq_false h4]; simp⟩
theorem joinL_mem : ∀ (fl : List (List UInt8)), ∀ c ∈ joinL fl, c = 32 ∨ ∃ x ∈ fl, c ∈ x
  | [], _, h => nomatch h
  | [x], c, h => .inr ⟨x, .head _, h⟩
  | x :: y :: r, c, h => by
    rcases List.mem_append.mp h with h | h
    · exact .inr ⟨x, .head _, h⟩
    · rcases List.mem_cons.mp h with h | h
      · exact .inl h
      · rcases joinL_mem (y :: r) c h with h | ⟨z, hz, hc⟩
        · exact .inl h
        · exact .inr ⟨z, .tail _ hz, hc⟩
theorem joinL_le : ∀ (fl : List (List UInt8)), (∀ x ∈ fl, Lets x) → (joinL fl).length ≤ 4 * fl.length
  | [], _ => Nat.zero_le _
  | [x], h => by have := (h x (.head _)).2.1; show x.length ≤ 4; omega
  | x :: y :: r, h => by
    have := joinL_le (y :: r) fun z hz => h z (.tail _ hz)
    have := (h x (.head _)).2.1
    show (x ++ 32 :: joinL (y :: r)).length ≤ _
    simp only [List.length_append, List.length_cons] at *
    omega
theorem rep_at (fl : List (List UInt8)) (k : Nat) : (((repL fl).toArray).map (·.toNat)).getD k 0 = ((repL fl).map (·.toNat)).getD k 0 := by
  rw [List.map_toArray, Array.getD_eq_getD_getElem?, List.getElem?_toArray, List.getD_eq_getElem?_getD]
theorem rep_len (fl : List (List UInt8)) : (repL fl).length = 18 + (joinL fl).length + 2 := by
  unfold repL
  rw [List.length_append, List.length_append]
  show 18 + (_ + 2) = _
  omega
theorem rep_mid (fl : List (List UInt8)) (hf : ∀ x ∈ fl, Lets x) (k : Nat) (h1 : 18 ≤ k) (h2 : k < 18 + (joinL fl).length) : (((repL fl).map (·.toNat)).getD k 0 = 32) ∨ (65 ≤ ((repL fl).map (·.toNat)).getD k 0 ∧ ((repL fl).map (·.toNat)).getD k 0 ≤ 77 ∧ ((repL fl).map (·.toNat)).getD k 0 ≠ 70) := by
  have e : (repL fl)[k]? = (joinL fl)[k - 18]? := by
    unfold repL
    rw [List.getElem?_append_right (by show 18 ≤ k; exact h1), List.getElem?_append_left (by show k - 18 < _; omega)]
    rfl
  have hlt : k - 18 < (joinL fl).length := by omega
  rw [List.getD_eq_getElem?_getD, List.getElem?_map, e, List.getElem?_eq_getElem hlt]
  show ((joinL fl)[k - 18]).toNat = 32 ∨ _
  rcases joinL_mem fl _ (List.getElem_mem hlt) with h | ⟨x, hx, hc⟩
  · left; rw [h]; rfl
  · right; exact (hf x hx).2.2 _ hc
theorem rep_end (fl : List (List UInt8)) : ((repL fl).map (·.toNat)).getD (18 + (joinL fl).length) 0 = 41 ∧ ((repL fl).map (·.toNat)).getD (18 + (joinL fl).length + 1) 0 = 41 := by
  have e : ∀ j, (repL fl)[18 + (joinL fl).length + j]? = ([41, 41] : List UInt8)[j]? := fun j => by
    unfold repL
    rw [List.getElem?_append_right (by show 18 ≤ _; omega), List.getElem?_append_right (by show _ ≤ _ - 18; omega)]
    congr 1
    show 18 + _ + j - 18 - _ = j
    omega
  constructor
  · rw [List.getD_eq_getElem?_getD, List.getElem?_map, show 18 + (joinL fl).length = 18 + (joinL fl).length + 0 from rfl, e 0]; rfl
  · rw [List.getD_eq_getElem?_getD, List.getElem?_map, e 1]; rfl
theorem rep_pre (fl : List (List UInt8)) (k : Nat) (h : k < 18) : ((repL fl).map (·.toNat)).getD k 0 = (preL.map (·.toNat)).getD k 0 := by
  unfold repL
  rw [List.getD_eq_getElem?_getD, List.getD_eq_getElem?_getD, List.getElem?_map, List.getElem?_map, List.getElem?_append_left (by show k < 18; exact h)]
theorem pre_10 : ∀ k, k < 18 → (preL.map (·.toNat)).getD k 0 ≠ 10 := by decide
theorem pre_70 : ∀ k, k < 18 → 11 < k → (preL.map (·.toNat)).getD k 0 ≠ 70 := by decide
section
variable {prog : Program} {w : World} {A : Around} {E : Value → Shared → Prop} {s : Shared} {g : Heap} {L : Addr} {m : Str → Option Value} {led : List (Addr × Obj)}
theorem gm_pat {pl : Sem Bool} {Q : Value × List Value → Shared → Prop} (F : Fr g L s.heap m) (X : (hd.heap_39 w.params).In g) (h : Q (.builtin "re.Pattern.match", [.ref 36]) s) : wpAny (model prog w) A (getMethod (.ref 36) (Str.ofString "match") pl) Q E s := by
  obtain ⟨o, ho, hc, hdt⟩ : ∃ o, s.heap.get? 36 = some o ∧ o.cls = .type "re.Pattern" ∧ o.dict = none := ⟨_, F.keep _ _ (X 36 _ (look36 w.params)), rfl, rfl⟩
  exact getMethod_builtin ⟨o, ho, hc⟩ rp_plain rp_slot rp_type (fun a e => by cases e; exact ⟨o, ho, hdt⟩) h
theorem gm_mat {pl : Sem Bool} {Q : Value × List Value → Shared → Prop} {D Dt : Addr} {rep : Array UInt8} {t : Tok} {n : Nat} {li : Int} (N : News g L s.heap led) (hm : (D, reM rep t n li Dt) ∈ led) (h : Q (.builtin "re.Match.group", [.ref D]) s) : wpAny (model prog w) A (getMethod (.ref D) (Str.ofString "group") pl) Q E s :=
  getMethod_builtin ⟨_, (N _ hm).1, rfl⟩ rm_plain rm_slot rm_type (fun a e => by cases e; exact ⟨_, (N _ hm).1, rfl⟩) h
theorem gm_split {pl : Sem Bool} {Q : Value × List Value → Shared → Prop} {b : Array UInt8} {t : Tok} (h : Q (.builtin "bytes.split", [.bytes b t]) s) : wpAny (model prog w) A (getMethod (.bytes b t) (Str.ofString "split") pl) Q E s :=
  getMethod_builtin (typeIs_bytes s b t) FB.plainAttrs_bytes bs_slot bs_type (fun _ e => nomatch e) h
theorem gm_join {pl : Sem Bool} {Q : Value × List Value → Shared → Prop} {b : Array UInt8} {t : Tok} (h : Q (.builtin "bytes.join", [.bytes b t]) s) : wpAny (model prog w) A (getMethod (.bytes b t) (Str.ofString "join") pl) Q E s :=
  getMethod_builtin (typeIs_bytes s b t) FB.plainAttrs_bytes bj_slot bj_type (fun _ e => nomatch e) h
theorem q_match {Q : Value → Shared → Prop} {fl : List (List UInt8)} {t : Tok} (F : Fr g L s.heap m) (N : News g L s.heap led) (X : (hd.heap_39 w.params).In g) (hf : ∀ x ∈ fl, Lets x) (hl : fl.length ≤ 15)
    (h : ∀ D Dt li hd' h', Fr g L h' m → News g L h' ((D, reM (repL fl).toArray t (repL fl).length li Dt) :: (Dt, reT hd' (18 + (joinL fl).length)) :: led) → Q (.ref D) { s with heap := h' }) :
    wpAny (model prog w) A (call (.builtin "re.Pattern.match") [.ref 36, .bytes (repL fl).toArray t]) Q E s := by
  obtain ⟨o, ho, hc, hdt⟩ : ∃ o, s.heap.get? 36 = some o ∧ o.cls = .type "re.Pattern" ∧ o.dict = none := ⟨_, F.keep _ _ (X 36 _ (look36 w.params)), rfl, rfl⟩
  have hle := joinL_le fl hf
  have hrl := rep_len fl
  refine wpAny_call_entry rp_slot ⟨o, ho, hc⟩ rp_entry ?_ (rp_args _ _)
  refine re_match (e := 18 + (joinL fl).length) (fun a o e => F.keep _ _ (X a o e)) (by rw [List.size_toArray]; omega) (by rw [List.size_toArray]; omega) ?_ ?_ ?_ (by omega) ?_ ?_ ?_
  · intro k hk
    rw [List.size_toArray] at hk
    rw [rep_at]
    by_cases h1 : k < 18
    · rw [rep_pre fl k h1]; exact pre_10 k h1
    · by_cases h2 : k < 18 + (joinL fl).length
      · rcases rep_mid fl hf k (by omega) h2 with e | e <;> omega
      · rcases (show k = 18 + (joinL fl).length ∨ k = 18 + (joinL fl).length + 1 by omega) with rfl | rfl
        · rw [(rep_end fl).1]; decide
        · rw [(rep_end fl).2]; decide
  · intro k h0 hk
    rw [List.size_toArray] at hk
    rw [rep_at]
    by_cases h1 : k < 18
    · rw [rep_pre fl k h1]; exact pre_70 k h1 h0
    · by_cases h2 : k < 18 + (joinL fl).length
      · rcases rep_mid fl hf k (by omega) h2 with e | e <;> omega
      · rcases (show k = 18 + (joinL fl).length ∨ k = 18 + (joinL fl).length + 1 by omega) with rfl | rfl
        · rw [(rep_end fl).1]; decide
        · rw [(rep_end fl).2]; decide
  · simp only [rep_at]
    refine ⟨?_, ?_, ?_, ?_, ?_, ?_, ?_⟩ <;> (rw [rep_pre fl _ (by decide)]; rfl)
  · intro k h1 h2
    rw [rep_at]
    rcases rep_mid fl hf k h1 h2 with e | e <;> omega
  · rw [rep_at]; exact (rep_end fl).1
  · intro li hd'
    refine ⟨_, rfl, ?_⟩
    have F1 := F.push (reT hd' (18 + (joinL fl).length))
    have N1 := N.push F (reT hd' (18 + (joinL fl).length))
    have N2 := N1.push F1 (reM (repL fl).toArray t (repL fl).toArray.size li s.heap.objs.size)
    exact h _ _ li hd' _ (F1.push _) N2
theorem rm_nobool : typeLookup (.type "re.Match") "__bool__" = pure none := by rw [typeLookup_type, builtinLookup_eq_fast]; kernel_rfl
theorem rm_nolen : typeLookup (.type "re.Match") "__len__" = pure none := by rw [typeLookup_type, builtinLookup_eq_fast]; kernel_rfl
theorem q_truthM {Q : Bool → Shared → Prop} {D Dt : Addr} {rep : Array UInt8} {t : Tok} {n : Nat} {li : Int} (N : News g L s.heap led) (hm : (D, reM rep t n li Dt) ∈ led) (h : Q true s) : wpAny (model prog w) A (truthy (.ref D)) Q E s := by
  have hT : s.TypeIs (.ref D) "re.Match" := ⟨_, (N _ hm).1, rfl⟩
  unfold truthy
  refine wpAny_bind (wpAny_callSpecial?_none (name := Str.ofString "__bool__") hT rm_nobool ?_)
  refine wpAny_bind (wpAny_specialOf (name := Str.ofString "__len__") hT rm_nolen ?_)
  exact wpAny_pure h
theorem q_group {Q : Value → Shared → Prop} {fl : List (List UInt8)} {t u : Tok} {n h' : Nat} {li : Int} {D Dt : Addr} (F : Fr g L s.heap m) (N : News g L s.heap led) (X : (hd.heap_39 w.params).In g) (hf : ∀ x ∈ fl, Lets x) (hl : fl.length ≤ 15) (hm : (D, reM (repL fl).toArray t n li Dt) ∈ led) (hm2 : (Dt, reT h' (18 + (joinL fl).length)) ∈ led)
    (h : ∀ t' k, Q (.bytes (joinL fl).toArray t') { s with toks := k }) :
    wpAny (model prog w) A (call (.builtin "re.Match.group") [.ref D, .str (Str.ofString "flags") u]) Q E s := by
  have hle := joinL_le fl hf
  have hrl := rep_len fl
  refine wpAny_call_entry rm_slot ⟨_, (N _ hm).1, rfl⟩ rm_entry ?_ (rm_args _ _)
  refine re_group (fun a o e => F.keep _ _ (X a o e)) (by rw [List.size_toArray]; omega) (N _ hm).1 (N _ hm2).1 ?_
  rintro s₁ rfl
  refine ⟨_, rfl, ?_⟩
  have e : (repL fl).toArray.extract 18 (18 + (joinL fl).length) = (joinL fl).toArray := by
    apply Array.toList_inj.mp
    rw [Array.toList_extract]
    show List.extract (repL fl) 18 (18 + (joinL fl).length) = _
    rw [List.extract_eq_take_drop, show 18 + (joinL fl).length - 18 = (joinL fl).length by omega]
    show List.take _ (joinL fl ++ [41, 41]) = joinL fl
    exact List.take_left
  rw [e]
  exact h _ _
theorem q_split {Q : Value → Shared → Prop} {fl : List (List UInt8)} {t : Tok} (F : Fr g L s.heap m) (N : News g L s.heap led) (hf : ∀ x ∈ fl, Lets x) (hl : fl.length ≤ 15)
    (h : ∀ D vs h' k, BytesAre vs fl → Fr g L h' m → News g L h' ((D, listO vs 0) :: led) → (∀ p ∈ led, p.1 < D) → Q (.ref D) { s with heap := h', toks := k }) :
    wpAny (model prog w) A (call (.builtin "bytes.split") [.bytes (joinL fl).toArray t]) Q E s := by
  have hle := joinL_le fl hf
  refine wpAny_call_entry bs_slot (typeIs_bytes _ _ _) bs_entry ?_ (bs_args _)
  refine b_split rfl (fun x hx => (hf x hx).plain) (by omega) (fun x hx => by have := (hf x hx).2.1; omega) fun vs k hv => ⟨_, rfl, ?_⟩
  exact h _ vs _ k hv (F.push _) (N.push F _) fun p hp => Heap.lt_size (N p hp).1
theorem q_bjoin {Q : Value → Shared → Prop} {fl : List (List UInt8)} {t : Tok} {D : Addr} {vs : List Value} {k : Nat} (N : News g L s.heap led) (hf : ∀ x ∈ fl, Lets x) (hl : fl.length ≤ 15) (hm : (D, listO vs k) ∈ led) (hv : BytesAre vs fl)
    (h : ∀ t' k', Q (.bytes (joinL fl).toArray t') { s with toks := k' }) :
    wpAny (model prog w) A (call (.builtin "bytes.join") [.bytes #[32] t, .ref D]) Q E s := by
  have hle := joinL_le fl hf
  refine wpAny_call_entry bj_slot (typeIs_bytes _ _ _) bj_entry ?_ (bj_args _ _)
  exact b_join (N _ hm).1 hv (by omega) fun t' k' => ⟨_, rfl, h t' k'⟩
end
end
section
open Builtin Builtin.Re
theorem q_tuple {prog : Program} {w : World} {A : Around} {E : Value → Shared → Prop} {s : Shared} {g : Heap} {L : Addr} {m : Str → Option Value} {led : List (Addr × Obj)} {Q : Value → Shared → Prop} {D : Addr} {vs : List Value} {k : Nat} (F : Fr g L s.heap m) (N : News g L s.heap led) (hm : (D, listO vs k) ∈ led) (hl : vs.length ≤ 100000)
    (h : ∀ D' h', Fr g L h' m → News g L h' ((D', { cls := .type "tuple", data := .seq vs.toArray }) :: led) → Q (.ref D') { s with heap := h' }) : wpAny (model prog w) A (call (.type "tuple") [.ref D]) Q E s :=
  call_tuple_list (News.isList N hm) (fun h' e => h _ _ ((F.keeps e).push _) ((N.grown e).push (F.keeps e) _)) (by rw [List.size_toArray]; show _ ≤ 16777216; omega)
local macro_rules | `(tactic| walk_at "getMethod ref") => `(tactic| refine hold ?_)
local macro_rules | `(tactic| walk_at "getMethod bytes") => `(tactic| refine hold ?_)
local macro_rules | `(tactic| walk_at "truthy ref") => `(tactic| refine hold ?_)
local macro_rules | `(tactic| walk_at "call type:tuple") => `(tactic| refine hold ?_)
inductive OTup (fl : List (List UInt8)) : Value → List (Addr × Obj) → Prop
  | mk (D : Addr) (vs : List Value) (k : Nat) (h : BytesAre vs fl) : OTup fl (.ref D) [(D, { cls := .type "tuple", data := .seq vs.toArray k })]
theorem c_flags (w : World) (base : Heap) (fl : List (List UInt8)) (t : Tok) (hf : ∀ x ∈ fl, Lets x) (hl : fl.length ≤ 15) : Con w 50 [.bytes (repL fl).toArray t] [] base 6 80 (fun _ => OTup fl) := by
  intro p loose mean mg mb dp un gd cn cs a ccd cl outer A₀ h₀ L m s Q B F X N T hk hdp hun hret
  revert X; k_fill; intro X
  k_dflt (refine' enterK B F X N T ?kA ?kF ?kK hret ?k6 ?k7 ?k8 ?k9 ?kB ?_ ?c5 ?c2 ?c3 ?c4; (case kA => exact rfl); (case kF => exact rfl); (case kK => assumption); (case k6 => k_is); (case k7 => k_is); (case k8 => ktr_room); (case k9 => exact BindsTo.of_eq rfl); (case c5 => decide); (case kB => exact locs rfl); (case c2 => exact rfl); (case c3 => exact rfl); (case c4 => exact rfl); k_whole)
  clear F X N T B hret
  intro g h₁ L' qk hL F N lt B X T st hq; (try dsimp only)
  k_steps
  refine unhold (gm_pat F X ?_)
  k_steps
  refine q_match F N X hf hl ?_
  intro D Dt li hd' h2 F2 N2
  clear F N
  k_steps
  rename Fr _ _ _ _ => F'; rename News _ _ _ _ => N'
  refine unhold (q_truthM N' (.head _) ?_)
  k_steps
  refine unhold (gm_mat N' (.head _) ?_)
  k_steps
  refine q_group F' N' X hf hl (.head _) (.tail _ (.head _)) ?_
  intro t3 k3
  k_steps
  refine unhold (gm_split ?_)
  k_steps
  refine q_split F' N' hf hl ?_
  intro D4 vs4 h4 k4 hv4 F4 N4 lt4
  clear F' N'
  k_steps
  have hlen4 := hv4.len
  refine unhold (q_tuple F4 N4 (.head _) (by omega) ?_)
  intro D5 h5 F5 N5
  exact hq _ _ (leaveS [_] _ F5 N5 (fun p hp => by rw [List.mem_singleton.mp hp]; exact .head _) (.mk _ _ _ hv4) hL)
end
section
open LCg
section
variable {w : World} {p : Program} {loose : List Str} {mean : ExcName → Option Value} {mg mb : Str → Option Value} {dp un : Nat} {gd : Option (List Code)} {cn : Str} {cs : Scope} {a : Addr} {ccd : Value} {cl : List (Str × Addr)} {outer : List Env} {A₀ : Around} {base g : Heap} {L : Addr} {m : Str → Option Value} {s : Shared} {E : Value → Shared → Prop}
theorem con_keep1 {f : Addr} {vs : List Value} {p0 : Addr × Obj} {d u : Nat} {R : Out} {Q : Value → Shared → Prop} (C : Con w f vs [p0] base d u R) (B : Below A₀ base outer g) (F : Fr g L s.heap m) (X : (hd.heap_39 w.params).In g) (T : Top p loose mean mg mb g) (led : List (Addr × Obj)) (N : News g L s.heap (p0 :: led))
    (hkeep : ∀ a v mach', R a v mach' → p0 ∈ mach')
    (hk : cs.kind = .function) (hdp : dp + d < recursionLimit) (hun : un + u < cLine)
    (ret : ∀ v mach' h' tk', R s.heap.objs.size v mach' → Fr g L h' m → News g L h' (mach' ++ (p0 :: led)) → (∀ q ∈ mach', q.1 ∉ [p0.1] → ∀ p ∈ p0 :: led, @Ne Nat q.1 p.1) → Q v { s with heap := h', toks := tk' }) :
    wpAny (model PySem.Challenge.rw_sn0010_01.row.prog w) (ktrTop dp un gd cn cs L a ccd cl outer) (call (.ref f) vs) Q E s :=
  con_keep C B F X T (p0 :: led) N (fun q hq => by rw [List.mem_singleton.mp hq]; exact .head _) (fun a v mach' r q hq => by rw [List.mem_singleton.mp hq]; exact hkeep a v mach' r) hk hdp hun ret
end
theorem drawsOf_len (sc : List Int) : (drawsOf sc).length = 15 := by unfold drawsOf; rw [List.length_map, List.length_range]
theorem drawsOf_range (sc : List Int) : ∀ d ∈ drawsOf sc, 0 ≤ d ∧ d < 6 := by
  intro d hd
  unfold drawsOf at hd
  obtain ⟨k, -, rfl⟩ := List.mem_map.mp hd
  exact ⟨Int.fmod_nonneg_of_pos _ (by decide), Int.fmod_lt_of_pos _ (by decide)⟩
noncomputable def codeB (l : Lt) : List UInt8 := (i2a 3 (256 * l.1 + 16 * l.2.1 + l.2.2)).toList
noncomputable def codesL : List (List UInt8) := cells.map codeB
theorem cells_at : ∀ i : Nat, i < 5 → ∀ j : Nat, j < i + 1 → cells[i * (i + 1) / 2 + j]? = some (12 - 3 * (i : Int), 3 * (i : Int) - 3 * (j : Int), 3 * (j : Int)) := by decide
theorem codes_next {i j : Nat} (hi : i < 5) (hj : j < i + 1) {ys : List Value} {t : Tok} (h : BytesAre ys (codesL.take (i * (i + 1) / 2 + j))) : BytesAre (ys ++ [.bytes (i2a 3 (256 * (12 - 3 * (i : Int)) + 16 * (3 * (i : Int) - 3 * (j : Int)) + 3 * (j : Int))) t]) (codesL.take (i * (i + 1) / 2 + (j + 1))) := by
  have e : codesL[i * (i + 1) / 2 + j]? = some (codeB (12 - 3 * (i : Int), 3 * (i : Int) - 3 * (j : Int), 3 * (j : Int))) := by
    unfold codesL
    rw [List.getElem?_map, cells_at i hi j hj]; rfl
  rw [show i * (i + 1) / 2 + (j + 1) = i * (i + 1) / 2 + j + 1 from rfl, List.take_add_one, e]
  exact h.snoc
theorem tri_next : ∀ i, i < 5 → i * (i + 1) / 2 + (i + 1) = (i + 1) * (i + 1 + 1) / 2 := by decide
theorem codes_len {ys : List Value} {k : Nat} (h : BytesAre ys (codesL.take k)) : ys.length ≤ 100000 := by
  rw [h.len, List.length_take]
  have : codesL.length = 15 := rfl
  omega
theorem codeB_lets : ∀ l ∈ cells, Lets (codeB l) := by
  have h1 : ∀ l ∈ cells, codeB l ≠ [] := by decide +kernel
  have h2 : ∀ l ∈ cells, (codeB l).length ≤ 3 := by decide +kernel
  have h3 : ∀ l ∈ cells, ∀ c ∈ codeB l, 65 ≤ c.toNat ∧ c.toNat ≤ 77 ∧ c.toNat ≠ 70 := by decide +kernel
  exact fun l hl => ⟨h1 l hl, h2 l hl, h3 l hl⟩
/-- who holds a cell -/
noncomputable def odd (ds : List Int) (k : Nat) : Bool := (ds.getD k 0).fmod 2 == 1
noncomputable def evn (ds : List Int) (k : Nat) : Bool := (ds.getD k 0).fmod 2 == 0
theorem range_filter (p : Nat → Bool) (i : Nat) : (List.range (i + 1)).filter p = (List.range i).filter p ++ (if p i = true then [i] else []) := by
  rw [List.range_succ, List.filter_append]
  cases h : p i <;> simp [h]
noncomputable def own (p : Nat → Bool) (n : Nat) : List Lt := ((List.range n).filter p).map fun k => cells.getD k (0, 0, 0)
theorem own_good (p : Nat → Bool) (n : Nat) (hn : n ≤ 15) : ∀ x ∈ own p n, x ∈ cells := by
  intro x hx
  obtain ⟨k, hk, rfl⟩ := List.mem_map.mp hx
  have hk := List.mem_range.mp (List.mem_filter.mp hk).1
  have : k < cells.length := by show k < 15; omega
  rw [List.getD_eq_getElem?_getD, List.getElem?_eq_getElem this]
  exact List.getElem_mem this
theorem own_len (p : Nat → Bool) (n : Nat) : (own p n).length ≤ n := by
  unfold own
  rw [List.length_map]
  exact Nat.le_trans (List.length_filter_le _ _) (by rw [List.length_range]; exact Nat.le_refl _)
theorem codes_get {ys : List Value} (h : BytesAre ys codesL) {k : Nat} (hk : k < 15) : ∃ t, ys[k]? = some (.bytes (codeB (cells.getD k (0, 0, 0))).toArray t) := by
  have hl : k < ys.length := by rw [h.len]; exact hk
  obtain ⟨x, t, e, hx⟩ := h.get (List.getElem?_eq_getElem hl)
  refine ⟨t, ?_⟩
  rw [List.getElem?_eq_getElem hl, e]
  have : codesL[k]? = some (codeB (cells.getD k (0, 0, 0))) := by
    unfold codesL
    rw [List.getElem?_map, List.getD_eq_getElem?_getD, List.getElem?_eq_getElem (show k < cells.length from hk)]; rfl
  rw [this] at hx
  rw [← Option.some.inj hx]
theorem flags_yes {p : Nat → Bool} {i : Nat} (h : p i = true) {ys : List Value} {t : Tok} (hys : BytesAre ys ((own p i).map codeB)) : BytesAre (ys ++ [.bytes (codeB (cells.getD i (0, 0, 0))).toArray t]) ((own p (i + 1)).map codeB) := by
  unfold own
  rw [range_filter, if_pos h, List.map_append, List.map_append]
  exact hys.snoc
theorem flags_no {p : Nat → Bool} {i : Nat} (h : ¬ p i = true) {ys : List Value} (hys : BytesAre ys ((own p i).map codeB)) : BytesAre ys ((own p (i + 1)).map codeB) := by
  unfold own
  rw [range_filter, if_neg h, List.append_nil]
  exact hys
noncomputable def idx (p : Nat → Bool) (n : Nat) : List Int := ((List.range n).filter p).map fun k : Nat => (k : Int)
theorem idx_yes {p : Nat → Bool} {i : Nat} (h : p i = true) {ys : List Value} {t : Tok} (hys : IntsAre ys (idx p i)) : IntsAre (ys ++ [.int (0 + (i : Int)) t]) (idx p (i + 1)) := by
  unfold idx
  rw [range_filter, if_pos h, List.map_append, Int.zero_add]
  exact ints_snoc hys
theorem idx_no {p : Nat → Bool} {i : Nat} (h : ¬ p i = true) {ys : List Value} (hys : IntsAre ys (idx p i)) : IntsAre ys (idx p (i + 1)) := by
  unfold idx
  rw [range_filter, if_neg h, List.append_nil]
  exact hys
noncomputable def evens (ds : List Int) : List Nat := (List.range 15).filter (evn ds)
noncomputable def spells (ds : List Int) : List (List Nat) := (evens ds).map fun k => spell (wordOf (cells.getD k (0, 0, 0))) ((ds.getD k 0).fdiv 2)
theorem idx_at {ds : List Int} {i : Nat} {n : Int} (h : (idx (evn ds) 15)[i]? = some n) : ∃ k : Nat, (evens ds)[i]? = some k ∧ n = (k : Int) ∧ k < 15 := by
  unfold idx at h
  rw [List.getElem?_map] at h
  unfold evens
  cases e : ((List.range 15).filter (evn ds))[i]? with
  | none => rw [e] at h; cases h
  | some k =>
    rw [e] at h
    exact ⟨k, rfl, (Option.some.inj h).symm, List.mem_range.mp (List.mem_filter.mp (List.mem_of_getElem? e)).1⟩
inductive IdxAt (ds : List Int) (i : Nat) (n : Int) : Prop
  | mk (k : Nat) (h1 : (evens ds)[i]? = some k) (h2 : n = (k : Int)) (h3 : k < 15) : IdxAt ds i n
theorem idx_atR {ds : List Int} {i : Nat} {n : Int} (h : (idx (evn ds) 15)[i]? = some n) : IdxAt ds i n := by
  obtain ⟨k, h1, h2, h3⟩ := idx_at h
  exact ⟨k, h1, h2, h3⟩
theorem evens_len (ds : List Int) : (evens ds).length ≤ 15 := Nat.le_trans (List.length_filter_le _ _) (by rw [List.length_range]; exact Nat.le_refl _)
theorem idx_len (ds : List Int) : (idx (evn ds) 15).length = (evens ds).length := by unfold idx evens; rw [List.length_map]
theorem spells_at {ds : List Int} {i k : Nat} (h : (evens ds)[i]? = some k) : (spells ds).take (i + 1) = (spells ds).take i ++ [spell (wordOf (cells.getD k (0, 0, 0))) ((ds.getD k 0).fdiv 2)] := by
  unfold spells
  rw [List.take_add_one, List.getElem?_map, h]; rfl
theorem own_words (ds : List Int) {i k : Nat} (h : (evens ds)[i]? = some k) : ((own (evn ds) 15).map wordOf).take (i + 1) = ((own (evn ds) 15).map wordOf).take i ++ [wordOf (cells.getD k (0, 0, 0))] := by
  unfold own
  rw [List.take_add_one, List.map_map, List.getElem?_map, show (List.filter (evn ds) (List.range 15))[i]? = some k from h]; rfl
theorem cell_good {k : Nat} (h : k < 15) : cells.getD k (0, 0, 0) ∈ cells := by
  have : k < cells.length := h
  rw [List.getD_eq_getElem?_getD, List.getElem?_eq_getElem this]
  exact List.getElem_mem this
theorem free_lt {M : Mac} (O : M.Ord) {a : Addr} (h : @LT.lt Nat _ a M.ct) : M.Free a := by
  have O' : M.Ord := O
  unfold Mac.Ord at O'
  refine ⟨?_, ?_, ?_, ?_, ?_, ?_, ?_, ?_, ?_, ?_⟩ <;> (refine neN ?_; omega)
theorem word_len : ∀ l ∈ cells, (wordOf l).length ≤ 10 := by decide +kernel
theorem flat_le {n : Nat} : ∀ (l : List (List Nat)), (∀ x ∈ l, x.length ≤ n) → l.flatten.length ≤ n * l.length
  | [], _ => Nat.zero_le _
  | x :: r, h => by
    have h1 := h x (.head _)
    have h2 := flat_le r fun y hy => h y (.tail _ hy)
    rw [List.flatten_cons, List.length_append, List.length_cons, Nat.mul_succ]
    omega
theorem text_len (ds : List Int) : (spells ds).flatten.length ≤ 1000 := by
  have h := flat_le (n := 23) (spells ds) fun x hx => by
    unfold spells at hx
    obtain ⟨k, hk, rfl⟩ := List.mem_map.mp hx
    have hk15 : k < 15 := List.mem_range.mp (List.mem_filter.mp hk).1
    have h1 := spell_len (wordOf (cells.getD k (0, 0, 0))) ((ds.getD k 0).fdiv 2)
    have h2 := word_len _ (cell_good hk15)
    omega
  have h2 : (spells ds).length ≤ 15 := by unfold spells; rw [List.length_map]; exact evens_len ds
  omega
end
section
theorem src_tup {prog : Program} {w : World} {A : Around} {s : Shared} {h₀ : Heap} {L : Addr} {ax : Addr} {its : Array Value} {k : Nat} {news : List (Addr × Obj)} (hh : A.handled = none) (N : News h₀ L s.heap news) (hm : (ax, ({ cls := .type "tuple", data := .seq its k } : Obj)) ∈ news) :
    Src prog w A (.ref ax) s its.size (fun i v => its[i]? = some v) [(ax, ({ cls := .type "tuple", data := .seq its k } : Obj))] := by
  have hl : s.heap.IsTuple ax its := ⟨_, (N _ hm).1, rfl, _, rfl⟩
  have hlt : ax < s.heap.objs.size := Heap.lt_size (N _ hm).1
  have W := Walks.tuple (prog := prog) (w := w) hh s.heap.objs.size ax (Nat.ne_of_lt hlt) its
  refine ⟨{ cls := .type "tuple_iterator", data := .fields #[.ref ax, .int 0 0] }, fun i h => (h.IsTupleIter s.heap.objs.size ax i ∧ h.IsTuple ax its) ∧ h.get? ax = some { cls := .type "tuple", data := .seq its k }, ?_, ⟨⟨⟨_, Heap.get?_push_size _ rfl, rfl, rfl⟩, hl.push _⟩, Heap.get?_push_of_some _ (N _ hm).1⟩, fun i h st => by obtain ⟨o, e, _⟩ := st.1.1; exact ⟨o, e⟩, fun i h st p hp => by rw [List.mem_singleton.mp hp]; exact st.2, fun p hp => by rw [List.mem_singleton.mp hp]; exact hlt, fun Q E h => wpAny_pyIter_tuple hl h⟩
  exact { sub := fun b hb => W.sub b hb
          frame := fun i h h' st hk => ⟨W.frame i h h' st.1 hk, hk ax (.tail _ (.head _)) _ st.2⟩
          item := fun i s' Q E hi st hQ => W.item i s' Q E hi st.1 fun v h' tk p st' fr => hQ v h' tk p ⟨st', fr _ _ (by simpa using Nat.ne_of_lt hlt) st.2⟩ fr
          done := fun s' Q E st hQ => W.done s' Q E st.1 hQ
          self := fun i s' Q E st hQ => W.self i s' Q E st.1 hQ }
theorem strs_take {ls : List (List Nat)} {i : Nat} {x : List Nat} {ys : List Value} {t : Tok} (h : ls[i]? = some x) (hys : StrsAre ys ((ls.take i).map str)) : StrsAre (ys ++ [.str (str x) t]) ((ls.take (i + 1)).map str) := by
  rw [List.take_add_one, h]
  exact strs_snoc hys
/-- a word that no sign of the lexer stands in -/
noncomputable def Clean (x : List Nat) : Prop := x ≠ [] ∧ ∀ c ∈ x, isW c = false ∧ c ≠ 34 ∧ c ≠ 92
theorem words_clean : ∀ l ∈ cells, Clean (wordOf l) := by
  have h1 : ∀ l ∈ cells, wordOf l ≠ [] := by decide +kernel
  have h2 : ∀ l ∈ cells, ∀ c ∈ wordOf l, isW c = false ∧ c ≠ 34 ∧ c ≠ 92 := by decide +kernel
  exact fun l hl => ⟨h1 l hl, h2 l hl⟩
theorem inB_word : ∀ (x t r : List Nat), (∀ c ∈ x, isW c = false ∧ c ≠ 34 ∧ c ≠ 92) → inB t (x ++ 32 :: r) = (t ++ x, r)
  | [], t, r, _ => by rw [List.nil_append, inB_w rfl, List.append_nil]
  | c :: x, t, r, h => by
    have hc := h c (.head _)
    rw [List.cons_append, inB_o hc.1 hc.2.2, inB_word x (t ++ [c]) r fun d hd => h d (.tail _ hd), List.append_assoc]; rfl
theorem inQ_word : ∀ (x t r : List Nat), (∀ c ∈ x, isW c = false ∧ c ≠ 34 ∧ c ≠ 92) → inQ t (x ++ 34 :: r) = (t ++ x, r)
  | [], t, r, _ => by rw [List.nil_append, inQ_q, List.append_nil]
  | c :: x, t, r, h => by
    have hc := h c (.head _)
    rw [List.cons_append, inQ_o hc.2.1 hc.2.2, inQ_word x (t ++ [c]) r fun d hd => h d (.tail _ hd), List.append_assoc]; rfl
theorem inB_esc : ∀ (x t r : List Nat), inB t ((x.map fun c => [92, c]).flatten ++ 9 :: r) = (t ++ x, r)
  | [], t, r => by rw [List.map_nil, List.flatten_nil, List.nil_append, inB_w rfl, List.append_nil]
  | c :: x, t, r => by
    rw [List.map_cons, List.flatten_cons]
    show inB t (92 :: c :: ((x.map fun c => [92, c]).flatten ++ 9 :: r)) = _
    rw [inB_b1, inB_esc x (t ++ [c]) r, List.append_assoc]; rfl
theorem lex_spell {x : List Nat} {d : Int} {r : List Nat} (h : Clean x) : ∃ r', lex (spell x d ++ r) = (x, r') ∧ (r' = r ∨ r' = 10 :: r) := by
  obtain ⟨c, y, rfl⟩ := List.exists_cons_of_ne_nil h.1
  have hc := h.2 c (.head _)
  have hy : ∀ d ∈ y, isW d = false ∧ d ≠ 34 ∧ d ≠ 92 := fun d hd => h.2 d (.tail _ hd)
  unfold spell
  split
  · refine ⟨r, ?_, .inl rfl⟩
    rw [List.append_assoc]
    show lex (c :: (y ++ 32 :: r)) = _
    rw [lex_o hc.1 hc.2.1 hc.2.2, inB_word y [c] r hy]; rfl
  · split
    · refine ⟨10 :: r, ?_, .inr rfl⟩
      show lex (34 :: (((c :: y) ++ [34, 10]) ++ r)) = _
      rw [lex_q, List.append_assoc]
      show inQ [] ((c :: y) ++ 34 :: (10 :: r)) = _
      rw [inQ_word (c :: y) [] (10 :: r) h.2]; rfl
    · refine ⟨10 :: r, ?_, .inr rfl⟩
      rw [List.append_assoc, List.map_cons, List.flatten_cons]
      show lex (92 :: c :: ((y.map fun c => [92, c]).flatten ++ 9 :: (10 :: r))) = _
      rw [lex_b1, inB_esc y [c] (10 :: r)]; rfl
theorem toks_nl {l r : List Nat} {ws : List (List Nat)} (h : Toks l ws r) : Toks (10 :: l) ws r := by
  cases h with
  | nil e => exact .nil (by rw [lex_w rfl]; exact e)
  | cons e hx ht => exact .cons (by rw [lex_w rfl]; exact e) hx ht
theorem toks_spells : ∀ (ps : List (List Nat × Int)), (∀ p ∈ ps, Clean p.1) → Toks (ps.map fun p => spell p.1 p.2).flatten (ps.map (·.1)) []
  | [], _ => .nil (by decide)
  | p :: r, h => by
    have ih := toks_spells r fun q hq => h q (.tail _ hq)
    have hp := h p (.head _)
    rw [List.map_cons, List.flatten_cons, List.map_cons]
    obtain ⟨r', e, hr⟩ := lex_spell (d := p.2) (r := (r.map fun p => spell p.1 p.2).flatten) hp
    refine .cons e hp.1 ?_
    rcases hr with rfl | rfl
    · exact ih
    · exact toks_nl ih
theorem toks_text (ds : List Int) : Toks (spells ds).flatten ((own (evn ds) 15).map wordOf) [] := by
  have h := toks_spells ((evens ds).map fun k => (wordOf (cells.getD k (0, 0, 0)), (ds.getD k 0).fdiv 2)) (fun p hp => by
    obtain ⟨k, hk, rfl⟩ := List.mem_map.mp hp
    exact words_clean _ (cell_good (List.mem_range.mp (List.mem_filter.mp hk).1)))
  rw [List.map_map, List.map_map] at h
  unfold own
  rw [List.map_map]
  exact h
theorem spell_small {x : List Nat} {d : Int} (h : ∀ c ∈ x, c < 128) : ∀ c ∈ spell x d, c < 128 := by
  intro c hc
  unfold spell at hc
  split at hc
  · rcases List.mem_append.mp hc with hc | hc
    · exact h c hc
    · rw [List.mem_singleton.mp hc]; decide
  · split at hc
    · rcases List.mem_append.mp hc with hc | hc
      · rcases List.mem_cons.mp hc with rfl | hc
        · decide
        · exact h c hc
      · rcases List.mem_cons.mp hc with rfl | hc
        · decide
        · rw [List.mem_singleton.mp hc]; decide
    · rcases List.mem_append.mp hc with hc | hc
      · obtain ⟨y, hy, hc⟩ := List.mem_flatten.mp hc
        obtain ⟨z, hz, rfl⟩ := List.mem_map.mp hy
        rcases List.mem_cons.mp hc with rfl | hc
        · decide
        · rw [List.mem_singleton.mp hc]; exact h z hz
      · rcases List.mem_cons.mp hc with rfl | hc
        · decide
        · rw [List.mem_singleton.mp hc]; decide
theorem words_small : ∀ l ∈ cells, ∀ c ∈ wordOf l, c < 128 := by decide +kernel
theorem text_small (ds : List Int) : ∀ c ∈ (spells ds).flatten, c < 128 := by
  intro c hc
  obtain ⟨x, hx, hc⟩ := List.mem_flatten.mp hc
  obtain ⟨k, hk, rfl⟩ := List.mem_map.mp hx
  exact spell_small (words_small _ (cell_good (List.mem_range.mp (List.mem_filter.mp hk).1))) c hc
theorem rep_eq (fl : List (List UInt8)) : (preL.toArray ++ (joinL fl).toArray) ++ [41, 41].toArray = (repL fl).toArray := by
  apply Array.toList_inj.mp
  simp [repL]
end
section
open PySem.SeqAt LCg Builtin Builtin.Str
section
variable {prog : Program} {w : World} {A : Around} {E : Value → Shared → Prop} {s : Shared} {g : Heap} {L : Addr} {m : PySem.Str → Option Value} {led : List (Addr × Obj)}
theorem q_eq_strs {D D2 : Addr} {vs vs2 : List Value} {ls : List PySem.Str} {k k2 : Nat} {Q : Value → Shared → Prop} (N : News g L s.heap led) (hm : (D, listO vs k) ∈ led) (hm2 : (D2, listO vs2 k2) ∈ led) (h1 : StrsAre vs ls) (h2 : StrsAre vs2 ls) (hu : A.units < cLine) (h : Q (.bool true) s) :
    wpAny (model prog w) A (compareOp .Eq (.ref D) (.ref D2)) Q E s := by
  refine RcAt.lists (e := fun _ => true) (News.isList N hm) (News.isList N hm2) (by rw [List.size_toArray, List.size_toArray, h1.len_eq, h2.len_eq]) hu (fun j j1 j2 => ?_) prog w E Q ?_
  · have hj : j < ls.length := by rw [List.size_toArray, h1.len_eq] at j1; exact j1
    obtain ⟨t, e1⟩ := h1.at (j := j) (y := ls[j]) (List.getElem?_eq_getElem hj)
    obtain ⟨u, e2⟩ := h2.at (j := j) (y := ls[j]) (List.getElem?_eq_getElem hj)
    have f1 : vs.toArray[j] = .str ls[j] t := by
      have : vs.toArray[j]? = some (.str ls[j] t) := by rw [List.getElem?_toArray]; exact e1
      exact Option.some.inj ((Array.getElem?_eq_getElem j1).symm.trans this)
    have f2 : vs2.toArray[j] = .str ls[j] u := by
      have : vs2.toArray[j]? = some (.str ls[j] u) := by rw [List.getElem?_toArray]; exact e2
      exact Option.some.inj ((Array.getElem?_eq_getElem j2).symm.trans this)
    rw [f1, f2]
    have := (SeqRoads2.EqGives.str ls[j] ls[j] t u).at A.in1 s
    rw [beq_self_eq_true] at this
    exact this
  · have : ((List.range vs.toArray.size).all fun _ => true) = true := List.all_eq_true.mpr fun _ _ => rfl
    rw [this]; exact h
theorem q_eq_same {D D2 : Addr} {vs : List Value} {k k2 : Nat} {Q : Value → Shared → Prop} (N : News g L s.heap led) (hm : (D, listO vs k) ∈ led) (hm2 : (D2, listO vs k2) ∈ led) (hu : A.units < cLine) (h : Q (.bool true) s) :
    wpAny (model prog w) A (compareOp .Eq (.ref D) (.ref D2)) Q E s := by
  refine RcAt.lists (e := fun _ => true) (News.isList N hm) (News.isList N hm2) rfl hu (fun j j1 j2 => EqAt.same _) prog w E Q ?_
  have : ((List.range vs.toArray.size).all fun _ => true) = true := List.all_eq_true.mpr fun _ _ => rfl
  rw [this]; exact h
end
theorem sub_one (l : List Nat) (c i : Nat) : subAt (str l) ⟨#[c]⟩ i = (l[i]? == some c) := by
  unfold subAt
  show ((l.toArray).extract i (i + 1) == #[c]) = _
  have e : (l.toArray).extract i (i + 1) = ((l.drop i).take 1).toArray := by
    apply Array.toList_inj.mp
    rw [Array.toList_extract, List.extract_eq_take_drop, show i + 1 - i = 1 by omega]
  rw [e]
  cases h : l.drop i with
  | nil =>
    have : l[i]? = none := by rw [List.getElem?_eq_none_iff]; exact List.drop_eq_nil_iff.mp h
    rw [this]; rfl
  | cons x r =>
    have : l[i]? = some x := by rw [← List.head?_drop, h]; rfl
    rw [this]
    show (#[x] == #[c]) = (some x == some c)
    simp
theorem occ_go (l : List Nat) (c : Nat) : ∀ (n lo : Nat) (st : Array Nat × Nat), lo + n = l.length + 1 → st.2 ≤ lo → st.1.size ≤ lo → (forIn (List.range' lo n) st (StrLaws.occBody (str l) ⟨#[c]⟩ l.length (l.length + 1))).run.fst.size = st.1.size + (l.drop lo).count c
  | 0, lo, st, h, _, _ => by
    rw [List.range'_zero]
    show st.1.size = _
    rw [List.drop_eq_nil_of_le (by omega), List.count_nil, Nat.add_zero]
  | n + 1, lo, st, h, h1, h2 => by
    rw [List.range'_succ, List.forIn_cons]
    by_cases hc : l[lo]? = some c
    · have hlt : lo < l.length := by
        rcases Nat.lt_or_ge lo l.length with h | h
        · exact h
        · rw [List.getElem?_eq_none h] at hc; cases hc
      have hb : StrLaws.occBody (str l) ⟨#[c]⟩ l.length (l.length + 1) lo st = pure (ForInStep.yield (st.fst.push lo, lo + 1)) := by
        unfold StrLaws.occBody
        exact if_pos ⟨⟨⟨by omega, h1⟩, hlt⟩, by rw [sub_one, hc, beq_self_eq_true]⟩
      rw [hb]
      show (forIn (List.range' (lo + 1) n) (st.fst.push lo, lo + 1) (StrLaws.occBody (str l) ⟨#[c]⟩ l.length (l.length + 1))).run.fst.size = _
      rw [occ_go l c n (lo + 1) _ (by omega) (Nat.le_refl _) (by show (st.fst.push lo).size ≤ _; rw [Array.size_push]; omega)]
      show (st.fst.push lo).size + _ = _
      have hd : l.drop lo = c :: l.drop (lo + 1) := by
        rw [List.drop_eq_getElem_cons hlt]
        congr 1
        rw [List.getElem?_eq_getElem hlt] at hc
        exact Option.some.inj hc
      rw [Array.size_push, hd, List.count_cons_self]; omega
    · have hb : StrLaws.occBody (str l) ⟨#[c]⟩ l.length (l.length + 1) lo st = pure (ForInStep.yield (st.fst, st.snd)) := by
        unfold StrLaws.occBody
        exact if_neg fun h => hc (by rw [sub_one] at h; exact eq_of_beq h.2)
      rw [hb]
      show (forIn (List.range' (lo + 1) n) (st.fst, st.snd) (StrLaws.occBody (str l) ⟨#[c]⟩ l.length (l.length + 1))).run.fst.size = _
      rw [occ_go l c n (lo + 1) _ (by omega) (by show st.2 ≤ _; omega) (by show st.1.size ≤ _; omega)]
      show st.fst.size + _ = _
      congr 1
      rcases Nat.lt_or_ge lo l.length with hlt | hge
      · rw [List.drop_eq_getElem_cons hlt, List.count_cons_of_ne (by
          rw [List.getElem?_eq_getElem hlt] at hc
          exact fun h => hc (congrArg some h))]
      · rw [List.drop_eq_nil_of_le hge, List.drop_eq_nil_of_le (by omega)]
theorem count_nl (l : List Nat) : (occurrences (str l) (PySem.Str.ofString "\n") 0 (str l).length ((str l).length + 1)).length = l.count 10 := by
  rw [StrLaws.occ_eq]
  have h := occ_go l 10 (l.length + 1 - 0) 0 (#[], 0) (by omega) (Nat.le_refl _) (Nat.le_refl _)
  rw [List.drop_zero] at h
  have e : (#[] : Array Nat).size = 0 := rfl
  rw [e, Nat.zero_add] at h
  exact h
end
section
/-- from a over lights that are left -/
inductive Way (left : List Lt) (a : Lt) : Lt → Prop
  | refl : Way left a a
  | step {b c : Lt} : Way left a b → c ∈ left → touchL b c = true → Way left a c
theorem Way.mono {l l' : List Lt} {a b : Lt} (h : Way l a b) (hs : ∀ x ∈ l, x ∈ l') : Way l' a b := by
  induction h with
  | refl => exact .refl
  | step _ hc ht ih => exact .step ih (hs _ hc) ht
theorem Way.trans {l : List Lt} {a b c : Lt} (h : Way l a b) (h' : Way l b c) : Way l a c := by
  induction h' with
  | refl => exact h
  | step _ hc ht ih => exact .step ih hc ht
/-- reached from the queue -/
noncomputable def Hit (left queue : List Lt) (x : Lt) : Prop := ∃ q ∈ queue, Way left q x
theorem far_mem {c x : Lt} {left : List Lt} : x ∈ farL c left ↔ x ∈ left ∧ touchL c x = false := by
  unfold farL
  rw [List.mem_filter]
  cases touchL c x <;> simp
theorem near_mem {c x : Lt} {left : List Lt} : x ∈ nearL c left ↔ x ∈ left ∧ touchL c x = true := by
  unfold nearL
  rw [List.mem_filter]
theorem hit_cons {left q : List Lt} {c x : Lt} : Hit left (c :: q) x ↔ x = c ∨ Hit (farL c left) (q ++ nearL c left) x := by
  constructor
  · rintro ⟨a, ha, h⟩
    induction h with
    | refl =>
      rcases List.mem_cons.mp ha with rfl | ha
      · exact .inl rfl
      · exact .inr ⟨a, List.mem_append_left _ ha, .refl⟩
    | @step b d _ hd ht ih =>
      rcases ih with rfl | ⟨q1, h1, h2⟩
      · exact .inr ⟨d, List.mem_append_right _ (near_mem.mpr ⟨hd, ht⟩), .refl⟩
      · cases e : touchL c d with
        | true => exact .inr ⟨d, List.mem_append_right _ (near_mem.mpr ⟨hd, e⟩), .refl⟩
        | false => exact .inr ⟨q1, h1, .step h2 (far_mem.mpr ⟨hd, e⟩) ht⟩
  · rintro (rfl | ⟨a, ha, h⟩)
    · exact ⟨x, .head _, .refl⟩
    · have hm := h.mono (l' := left) fun y hy => (far_mem.mp hy).1
      rcases List.mem_append.mp ha with ha | ha
      · exact ⟨a, .tail _ ha, hm⟩
      · obtain ⟨h1, h2⟩ := near_mem.mp ha
        exact ⟨c, .head _, (Way.step .refl h1 h2).trans hm⟩
theorem bfs_sides : ∀ (n : Nat) (left queue : List Lt) (sides : List Int), 2 * left.length + queue.length ≤ n → ∀ s, s ∈ (bfs left queue sides).2 ↔ s ∈ sides ∨ ∃ x, Hit left queue x ∧ s ∈ sidesL x := by
  intro n
  induction n with
  | zero =>
    intro left queue sides h s
    have : queue = [] := List.eq_nil_of_length_eq_zero (by omega)
    subst this
    rw [bfs_nil]
    exact ⟨.inl, fun h => h.elim id fun ⟨_, ⟨_, h, _⟩, _⟩ => nomatch h⟩
  | succ n ih =>
    intro left queue sides h s
    cases queue with
    | nil => rw [bfs_nil]; exact ⟨.inl, fun h => h.elim id fun ⟨_, ⟨_, h, _⟩, _⟩ => nomatch h⟩
    | cons c q =>
      have hl := near_far c left
      rw [bfs_cons, ih (farL c left) (q ++ nearL c left) (sides ++ sidesL c) (by rw [List.length_append]; rw [List.length_cons] at h; omega), List.mem_append]
      constructor
      · rintro ((h | h) | ⟨x, h, h'⟩)
        · exact .inl h
        · exact .inr ⟨c, hit_cons.mpr (.inl rfl), h⟩
        · exact .inr ⟨x, hit_cons.mpr (.inr h), h'⟩
      · rintro (h | ⟨x, h, h'⟩)
        · exact .inl (.inl h)
        · rcases hit_cons.mp h with rfl | h
          · exact .inl (.inr h')
          · exact .inr ⟨x, h, h'⟩
theorem bfs_left : ∀ (n : Nat) (left queue : List Lt) (sides : List Int), 2 * left.length + queue.length ≤ n → ∀ y, y ∈ (bfs left queue sides).1 ↔ y ∈ left ∧ ¬ ∃ b, Hit left queue b ∧ touchL b y = true := by
  intro n
  induction n with
  | zero =>
    intro left queue sides h y
    have : queue = [] := List.eq_nil_of_length_eq_zero (by omega)
    subst this
    rw [bfs_nil]
    exact ⟨fun h => ⟨h, fun ⟨_, ⟨_, h, _⟩, _⟩ => nomatch h⟩, fun h => h.1⟩
  | succ n ih =>
    intro left queue sides h y
    cases queue with
    | nil => rw [bfs_nil]; exact ⟨fun h => ⟨h, fun ⟨_, ⟨_, h, _⟩, _⟩ => nomatch h⟩, fun h => h.1⟩
    | cons c q =>
      have hl := near_far c left
      rw [bfs_cons, ih (farL c left) (q ++ nearL c left) (sides ++ sidesL c) (by rw [List.length_append]; rw [List.length_cons] at h; omega), far_mem]
      constructor
      · rintro ⟨⟨h1, h2⟩, h3⟩
        refine ⟨h1, ?_⟩
        rintro ⟨b, hb, ht⟩
        rcases hit_cons.mp hb with rfl | hb
        · rw [h2] at ht; cases ht
        · exact h3 ⟨b, hb, ht⟩
      · rintro ⟨h1, h3⟩
        refine ⟨⟨h1, ?_⟩, fun ⟨b, hb, ht⟩ => h3 ⟨b, hit_cons.mpr (.inr hb), ht⟩⟩
        cases e : touchL c y with
        | false => rfl
        | true => exact absurd ⟨c, hit_cons.mpr (.inl rfl), e⟩ h3
/-- all three sides from a -/
noncomputable def All3 (left : List Lt) (a : Lt) : Prop := ∀ s : Int, s = 0 ∨ s = 1 ∨ s = 2 → ∃ x, Way left a x ∧ s ∈ sidesL x
theorem Way.rev {l : List Lt} (sym : ∀ a ∈ l, ∀ b ∈ l, touchL a b = true → touchL b a = true) {a b : Lt} (ha : a ∈ l) (h : Way l a b) : Way l b a := by
  have key : b ∈ l ∧ Way l b a := by
    induction h with
    | refl => exact ⟨ha, .refl⟩
    | step _ hc ht ih => exact ⟨hc, (Way.step .refl ih.1 (sym _ ih.1 _ hc ht)).trans ih.2⟩
  exact key.2
theorem Way.drop {l : List Lt} {c x : Lt} (h : Way (c :: l) c x) : Way l c x := by
  induction h with
  | refl => exact .refl
  | step _ hc ht ih =>
    rcases List.mem_cons.mp hc with rfl | hc
    · exact .refl
    · exact .step ih hc ht
theorem any_mem (l : List Int) (k : Int) : l.any (fun x => x == k) = true ↔ k ∈ l := by
  rw [List.any_eq_true]
  exact ⟨fun ⟨x, hx, e⟩ => eq_of_beq e ▸ hx, fun h => ⟨k, h, beq_self_eq_true k⟩⟩
theorem hit_one {l : List Lt} {c x : Lt} : Hit l [c] x ↔ Way l c x := ⟨fun ⟨q, hq, h⟩ => List.mem_singleton.mp hq ▸ h, fun h => ⟨c, .head _, h⟩⟩
theorem joined_iff : ∀ (n : Nat) (left : List Lt) (acc : Bool), left.length ≤ n → (∀ a ∈ left, ∀ b ∈ left, touchL a b = true → touchL b a = true) → (joinedF n left acc = true ↔ acc = true ∨ ∃ a ∈ left, All3 left a) := by
  intro n
  induction n with
  | zero =>
    intro left acc h _
    have : left = [] := List.eq_nil_of_length_eq_zero (by omega)
    subst this
    exact ⟨.inl, fun h => h.elim id fun ⟨_, h, _⟩ => nomatch h⟩
  | succ n ih =>
    intro left acc h sym
    cases left with
    | nil => exact ⟨.inl, fun h => h.elim id fun ⟨_, h, _⟩ => nomatch h⟩
    | cons c rest =>
      have hsub := bfs_sub _ rest [c] [] (Nat.le_refl _)
      have hmem := bfs_left _ rest [c] [] (Nat.le_refl _)
      have hsd := bfs_sides _ rest [c] [] (Nat.le_refl _)
      have symr : ∀ a ∈ rest, ∀ b ∈ rest, touchL a b = true → touchL b a = true := fun a ha b hb => sym a (.tail _ ha) b (.tail _ hb)
      show joinedF n (bfs rest [c] []).1 (if ((bfs rest [c] []).2.any (fun x => x == 0) && ((bfs rest [c] []).2.any (fun x => x == 1) && (bfs rest [c] []).2.any (fun x => x == 2))) = true then true else acc) = true ↔ _
      rw [ih _ _ (by rw [List.length_cons] at h; omega) (fun a ha b hb => symr a (hsub.1 a ha) b (hsub.1 b hb))]
      have hall : ((bfs rest [c] []).2.any (fun x => x == 0) && ((bfs rest [c] []).2.any (fun x => x == 1) && (bfs rest [c] []).2.any (fun x => x == 2))) = true ↔ All3 rest c := by
        rw [Bool.and_eq_true, Bool.and_eq_true, any_mem, any_mem, any_mem, hsd, hsd, hsd]
        constructor
        · rintro ⟨h0, h1, h2⟩ s (rfl | rfl | rfl)
          · exact h0.elim (fun h => nomatch h) fun ⟨x, hx, hs⟩ => ⟨x, hit_one.mp hx, hs⟩
          · exact h1.elim (fun h => nomatch h) fun ⟨x, hx, hs⟩ => ⟨x, hit_one.mp hx, hs⟩
          · exact h2.elim (fun h => nomatch h) fun ⟨x, hx, hs⟩ => ⟨x, hit_one.mp hx, hs⟩
        · intro h
          have g : ∀ s : Int, s = 0 ∨ s = 1 ∨ s = 2 → s ∈ ([] : List Int) ∨ ∃ x, Hit rest [c] x ∧ s ∈ sidesL x := fun s hs => by
            obtain ⟨x, hx, h'⟩ := h s hs
            exact .inr ⟨x, hit_one.mpr hx, h'⟩
          exact ⟨g 0 (.inl rfl), g 1 (.inr (.inl rfl)), g 2 (.inr (.inr rfl))⟩
      have hif : (if ((bfs rest [c] []).2.any (fun x => x == 0) && ((bfs rest [c] []).2.any (fun x => x == 1) && (bfs rest [c] []).2.any (fun x => x == 2))) = true then true else acc) = true ↔ All3 rest c ∨ acc = true := by
        by_cases hc : ((bfs rest [c] []).2.any (fun x => x == 0) && ((bfs rest [c] []).2.any (fun x => x == 1) && (bfs rest [c] []).2.any (fun x => x == 2))) = true
        · rw [if_pos hc]; exact ⟨fun _ => .inl (hall.mp hc), fun _ => rfl⟩
        · rw [if_neg hc]; exact ⟨.inr, fun h => h.elim (fun h => absurd (hall.mpr h) hc) id⟩
      rw [hif]
      have mono : ∀ x ∈ rest, x ∈ c :: rest := fun x hx => .tail _ hx
      constructor
      · rintro ((h | h) | ⟨a, ha, h⟩)
        · exact .inr ⟨c, .head _, fun s hs => let ⟨x, hx, h'⟩ := h s hs; ⟨x, hx.mono mono, h'⟩⟩
        · exact .inl h
        · exact .inr ⟨a, .tail _ (hsub.1 a ha), fun s hs => let ⟨x, hx, h'⟩ := h s hs; ⟨x, hx.mono fun y hy => .tail _ (hsub.1 y hy), h'⟩⟩
      · rintro (h | ⟨a, ha, h⟩)
        · exact .inl (.inr h)
        · by_cases hr : Way (c :: rest) a c
          · have hca := hr.rev sym ha
            exact .inl (.inl fun s hs => let ⟨x, hx, h'⟩ := h s hs; ⟨x, (hca.trans hx).drop, h'⟩)
          · have key : ∀ x, Way (c :: rest) a x → x ∈ (bfs rest [c] []).1 ∧ Way (bfs rest [c] []).1 a x := by
              have inR : ∀ x, x ∈ c :: rest → Way (c :: rest) a x → x ∈ (bfs rest [c] []).1 := by
                intro x hx hw
                have hxr : x ∈ rest := by
                  rcases List.mem_cons.mp hx with rfl | hx
                  · exact absurd hw hr
                  · exact hx
                refine (hmem x).mpr ⟨hxr, ?_⟩
                rintro ⟨b, hb, ht⟩
                have hcb := (hit_one.mp hb).mono mono
                have hcx : Way (c :: rest) c x := .step hcb hx ht
                exact hr (hw.trans (hcx.rev sym (.head _)))
              intro x hw
              induction hw with
              | refl => exact ⟨inR a ha .refl, .refl⟩
              | step hp hc ht ih =>
                have := inR _ hc (.step hp hc ht)
                exact ⟨this, .step ih.2 this ht⟩
            exact .inr ⟨a, (key a .refl).1, fun s hs => let ⟨x, hx, h'⟩ := h s hs; ⟨x, (key x hx).2, h'⟩⟩
end
section
/-- beside each other on the triangle -/
noncomputable def Adj (a b : Nat × Nat) : Prop := (b.1 = a.1 ∧ (b.2 = a.2 + 1 ∨ a.2 = b.2 + 1)) ∨ (b.1 = a.1 + 1 ∧ (b.2 = a.2 ∨ b.2 = a.2 + 1)) ∨ (a.1 = b.1 + 1 ∧ (a.2 = b.2 ∨ a.2 = b.2 + 1))
noncomputable def On (n : Nat) (a : Nat × Nat) : Prop := a.2 ≤ a.1 ∧ a.1 < n
theorem Adj.symm {a b : Nat × Nat} (h : Adj a b) : Adj b a := by
  rcases h with ⟨h, h1 | h1⟩ | ⟨h, h1⟩ | ⟨h, h1⟩
  · exact .inl ⟨h.symm, .inr h1⟩
  · exact .inl ⟨h.symm, .inl h1⟩
  · exact .inr (.inr ⟨h, h1⟩)
  · exact .inr (.inl ⟨h, h1⟩)
/-- a way over cells of one colour -/
inductive Row (n : Nat) (f : Nat × Nat → Prop) (a : Nat × Nat) : Nat × Nat → Prop
  | refl : Row n f a a
  | step {b c : Nat × Nat} : Row n f a b → On n c → f c → Adj b c → Row n f a c
theorem Row.trans {n : Nat} {f : Nat × Nat → Prop} {a b c : Nat × Nat} (h : Row n f a b) (h' : Row n f b c) : Row n f a c := by
  induction h' with
  | refl => exact h
  | step _ h1 h2 h3 ih => exact .step ih h1 h2 h3
theorem Row.good {n : Nat} {f : Nat × Nat → Prop} {a b : Nat × Nat} (h : Row n f a b) (ha : On n a ∧ f a) : On n b ∧ f b := by
  cases h with
  | refl => exact ha
  | step _ h1 h2 _ => exact ⟨h1, h2⟩
/-- one row of cells comes to all three sides -/
noncomputable def YW (n : Nat) (f : Nat × Nat → Prop) : Prop :=
  ∃ a, On n a ∧ f a ∧ (∃ x, Row n f a x ∧ x.2 = 0) ∧ (∃ x, Row n f a x ∧ x.2 = x.1) ∧ ∃ x, Row n f a x ∧ x.1 + 1 = n
/-- a corner of the small triangle -/
noncomputable def Cor (t v : Nat × Nat) : Prop := v = t ∨ v = (t.1 + 1, t.2) ∨ v = (t.1 + 1, t.2 + 1)
/-- two of three -/
noncomputable def Maj (f : Nat × Nat → Prop) (t : Nat × Nat) : Prop := (f t ∧ f (t.1 + 1, t.2)) ∨ (f t ∧ f (t.1 + 1, t.2 + 1)) ∨ (f (t.1 + 1, t.2) ∧ f (t.1 + 1, t.2 + 1))
theorem cor_adj {t u v : Nat × Nat} (hu : Cor t u) (hv : Cor t v) : u = v ∨ Adj u v := by
  obtain ⟨t1, t2⟩ := t
  unfold Cor at hu hv
  unfold Adj
  rcases hu with rfl | rfl | rfl <;> rcases hv with rfl | rfl | rfl <;> simp
theorem cor_on {n : Nat} {t v : Nat × Nat} (ht : On n t) (hv : Cor t v) : On (n + 1) v := by
  unfold On at *
  rcases hv with rfl | rfl | rfl <;> (try dsimp only) <;> omega
theorem cor_maj {f : Nat × Nat → Prop} {t u v : Nat × Nat} (hu : Cor t u) (hv : Cor t v) (h : Adj u v) (fu : f u) (fv : f v) : Maj f t := by
  obtain ⟨t1, t2⟩ := t
  unfold Adj at h
  unfold Maj
  rcases hu with rfl | rfl | rfl <;> rcases hv with rfl | rfl | rfl <;> dsimp only at h ⊢ <;> first | (exfalso; omega) | exact .inl ⟨fu, fv⟩ | exact .inl ⟨fv, fu⟩ | exact .inr (.inl ⟨fu, fv⟩) | exact .inr (.inl ⟨fv, fu⟩) | exact .inr (.inr ⟨fu, fv⟩) | exact .inr (.inr ⟨fv, fu⟩)
theorem edge_tri {n : Nat} {u v : Nat × Nat} (hu : On (n + 1) u) (hv : On (n + 1) v) (h : Adj u v) : ∃ t, On n t ∧ Cor t u ∧ Cor t v := by
  obtain ⟨u1, u2⟩ := u
  obtain ⟨v1, v2⟩ := v
  unfold On at hu hv
  unfold Adj at h
  dsimp only at hu hv h
  have mk : ∀ t : Nat × Nat, t.2 ≤ t.1 ∧ t.1 < n → ((u1 = t.1 ∧ u2 = t.2) ∨ (u1 = t.1 + 1 ∧ u2 = t.2) ∨ (u1 = t.1 + 1 ∧ u2 = t.2 + 1)) → ((v1 = t.1 ∧ v2 = t.2) ∨ (v1 = t.1 + 1 ∧ v2 = t.2) ∨ (v1 = t.1 + 1 ∧ v2 = t.2 + 1)) → ∃ t, On n t ∧ Cor t (u1, u2) ∧ Cor t (v1, v2) := by
    intro t h0 h1 h2
    refine ⟨t, h0, ?_, ?_⟩
    · rcases h1 with ⟨a, b⟩ | ⟨a, b⟩ | ⟨a, b⟩
      · exact .inl (Prod.ext a b)
      · exact .inr (.inl (Prod.ext a b))
      · exact .inr (.inr (Prod.ext a b))
    · rcases h2 with ⟨a, b⟩ | ⟨a, b⟩ | ⟨a, b⟩
      · exact .inl (Prod.ext a b)
      · exact .inr (.inl (Prod.ext a b))
      · exact .inr (.inr (Prod.ext a b))
  rcases h with ⟨h1, h2 | h2⟩ | ⟨h1, h2 | h2⟩ | ⟨h1, h2 | h2⟩
  · obtain ⟨k, rfl⟩ : ∃ k, u1 = k + 1 := ⟨u1 - 1, by omega⟩
    exact mk (k, u2) (by dsimp only; omega) (.inr (.inl ⟨rfl, rfl⟩)) (.inr (.inr ⟨h1, h2⟩))
  · obtain ⟨k, rfl⟩ : ∃ k, u1 = k + 1 := ⟨u1 - 1, by omega⟩
    exact mk (k, v2) (by dsimp only; omega) (.inr (.inr ⟨rfl, h2⟩)) (.inr (.inl ⟨h1, rfl⟩))
  · exact mk (u1, u2) (by dsimp only; omega) (.inl ⟨rfl, rfl⟩) (.inr (.inl ⟨h1, h2⟩))
  · exact mk (u1, u2) (by dsimp only; omega) (.inl ⟨rfl, rfl⟩) (.inr (.inr ⟨h1, h2⟩))
  · exact mk (v1, v2) (by dsimp only; omega) (.inr (.inl ⟨h1, h2⟩)) (.inl ⟨rfl, rfl⟩)
  · exact mk (v1, v2) (by dsimp only; omega) (.inr (.inr ⟨h1, h2⟩)) (.inl ⟨rfl, rfl⟩)
theorem cor_share {t t' v : Nat × Nat} (h : Cor t v) (h' : Cor t' v) : t' = t ∨ Adj t t' := by
  rcases h with h | h | h <;> rcases h' with h' | h' | h' <;> have e := h.symm.trans h' <;> have e1 := congrArg Prod.fst e <;> have e2 := congrArg Prod.snd e
  · exact .inl e.symm
  · exact .inr (.inr (.inr ⟨e1, .inl e2⟩))
  · exact .inr (.inr (.inr ⟨e1, .inr e2⟩))
  · exact .inr (.inr (.inl ⟨e1.symm, .inl e2.symm⟩))
  · exact .inl (Prod.ext (Nat.succ.inj e1.symm) e2.symm)
  · exact .inr (.inl ⟨Nat.succ.inj e1.symm, .inr e2⟩)
  · exact .inr (.inr (.inl ⟨e1.symm, .inr e2.symm⟩))
  · exact .inr (.inl ⟨Nat.succ.inj e1.symm, .inl e2.symm⟩)
  · exact .inl (Prod.ext (Nat.succ.inj e1.symm) (Nat.succ.inj e2.symm))
/-- from the larger triangle to the smaller -/
theorem yw_down {n : Nat} {f : Nat × Nat → Prop} (hn : 1 ≤ n) (h : YW (n + 1) f) : YW n (Maj f) := by
  obtain ⟨a, ha, fa, ⟨x0, w0, e0⟩, ⟨x1, w1, e1⟩, ⟨x2, w2, e2⟩⟩ := h
  have first : ∀ x, Row (n + 1) f a x → x = a ∨ ∃ c, On (n + 1) c ∧ f c ∧ Adj a c := by
    intro x hx
    induction hx with
    | refl => exact .inl rfl
    | step _ hc fc hadj ih =>
      rcases ih with rfl | h
      · exact .inr ⟨_, hc, fc, hadj⟩
      · exact .inr h
  have hc : ∃ c, On (n + 1) c ∧ f c ∧ Adj a c := by
    rcases first x0 w0 with rfl | h
    · rcases first x1 w1 with rfl | h
      · rcases first x2 w2 with rfl | h
        · exfalso; unfold On at ha; omega
        · exact h
      · exact h
    · exact h
  obtain ⟨c, hcn, fc, hac⟩ := hc
  obtain ⟨t0, ht0, hta, htc⟩ := edge_tri ha hcn hac
  have m0 := cor_maj hta htc hac fa fc
  have key : ∀ x, Row (n + 1) f a x → ∃ t, On n t ∧ Maj f t ∧ Cor t x ∧ Row n (Maj f) t0 t := by
    intro x hx
    induction hx with
    | refl => exact ⟨t0, ht0, m0, hta, .refl⟩
    | @step b d hp hd fd hadj ih =>
      obtain ⟨t, ht, mt, ctb, hw⟩ := ih
      have hb := hp.good ⟨ha, fa⟩
      obtain ⟨t', ht', c1, c2⟩ := edge_tri hb.1 hd hadj
      have m' := cor_maj c1 c2 hadj hb.2 fd
      rcases cor_share ctb c1 with rfl | hA
      · exact ⟨t', ht', m', c2, hw⟩
      · exact ⟨t', ht', m', c2, .step hw ht' m' hA⟩
  refine ⟨t0, ht0, m0, ?_, ?_, ?_⟩
  · obtain ⟨t, ht, -, ct, hw⟩ := key x0 w0
    refine ⟨t, hw, ?_⟩
    rcases ct with rfl | rfl | rfl <;> (try dsimp only at e0) <;> omega
  · obtain ⟨t, ht, -, ct, hw⟩ := key x1 w1
    refine ⟨t, hw, ?_⟩
    unfold On at ht
    rcases ct with rfl | rfl | rfl <;> (try dsimp only at e1) <;> omega
  · obtain ⟨t, ht, -, ct, hw⟩ := key x2 w2
    refine ⟨t, hw, ?_⟩
    unfold On at ht
    rcases ct with rfl | rfl | rfl <;> (try dsimp only at e2) <;> omega
/-- two small triangles beside each other hold cells that touch -/
theorem bridge {f : Nat × Nat → Prop} {t t' : Nat × Nat} (h : Adj t t') (m : Maj f t) (m' : Maj f t') : ∃ u u', Cor t u ∧ Cor t' u' ∧ f u ∧ f u' ∧ (u = u' ∨ Adj u u') := by
  classical
  have half : ∀ t t' : Nat × Nat, ((t'.1 = t.1 ∧ t'.2 = t.2 + 1) ∨ (t'.1 = t.1 + 1 ∧ (t'.2 = t.2 ∨ t'.2 = t.2 + 1))) → Maj f t → Maj f t' → ∃ u u', Cor t u ∧ Cor t' u' ∧ f u ∧ f u' ∧ (u = u' ∨ Adj u u') := by
    rintro ⟨i, j⟩ ⟨i', j'⟩ h m m'
    unfold Maj at m m'
    dsimp only at h m m'
    rcases h with ⟨rfl, rfl⟩ | ⟨rfl, rfl | rfl⟩
    · by_cases hs : f (i' + 1, j + 1)
      · exact ⟨_, _, .inr (.inr rfl), .inr (.inl rfl), hs, hs, .inl rfl⟩
      · have h1 : f (i', j) := by rcases m with h | h | h <;> first | exact h.1 | exact h.2 | exact absurd h.1 hs | exact absurd h.2 hs
        have h2 : f (i', j + 1) := by rcases m' with h | h | h <;> first | exact h.1 | exact h.2 | exact absurd h.1 hs | exact absurd h.2 hs
        exact ⟨_, _, .inl rfl, .inl rfl, h1, h2, .inr (.inl ⟨rfl, .inl rfl⟩)⟩
    · by_cases hs : f (i + 1, j')
      · exact ⟨_, _, .inr (.inl rfl), .inl rfl, hs, hs, .inl rfl⟩
      · have h1 : f (i + 1, j' + 1) := by rcases m with h | h | h <;> first | exact h.1 | exact h.2 | exact absurd h.1 hs | exact absurd h.2 hs
        have h2 : f (i + 1 + 1, j' + 1) := by rcases m' with h | h | h <;> first | exact h.1 | exact h.2 | exact absurd h.1 hs | exact absurd h.2 hs
        exact ⟨_, _, .inr (.inr rfl), .inr (.inr rfl), h1, h2, .inr (.inr (.inl ⟨rfl, .inl rfl⟩))⟩
    · by_cases hs : f (i + 1, j + 1)
      · exact ⟨_, _, .inr (.inr rfl), .inl rfl, hs, hs, .inl rfl⟩
      · have h1 : f (i + 1, j) := by rcases m with h | h | h <;> first | exact h.1 | exact h.2 | exact absurd h.1 hs | exact absurd h.2 hs
        have h2 : f (i + 1 + 1, j + 1) := by rcases m' with h | h | h <;> first | exact h.1 | exact h.2 | exact absurd h.1 hs | exact absurd h.2 hs
        exact ⟨_, _, .inr (.inl rfl), .inr (.inl rfl), h1, h2, .inr (.inr (.inl ⟨rfl, .inr rfl⟩))⟩
  have back : ((t.1 = t'.1 ∧ t.2 = t'.2 + 1) ∨ (t.1 = t'.1 + 1 ∧ (t.2 = t'.2 ∨ t.2 = t'.2 + 1))) → ∃ u u', Cor t u ∧ Cor t' u' ∧ f u ∧ f u' ∧ (u = u' ∨ Adj u u') := fun hb => by
    obtain ⟨u, u', c, c', fu, fu', e⟩ := half t' t hb m' m
    exact ⟨u', u, c', c, fu', fu, e.elim (fun e => .inl e.symm) fun e => .inr e.symm⟩
  rcases h with ⟨h, h1 | h1⟩ | ⟨h, h1⟩ | ⟨h, h1⟩
  · exact half t t' (.inl ⟨h, h1⟩) m m'
  · exact back (.inl ⟨h.symm, h1⟩)
  · exact half t t' (.inr ⟨h, h1⟩) m m'
  · exact back (.inr ⟨h, h1⟩)
theorem yw_up {n : Nat} {f : Nat × Nat → Prop} (h : YW n (Maj f)) : YW (n + 1) f := by
  obtain ⟨t0, ht0, m0, ⟨x0, w0, e0⟩, ⟨x1, w1, e1⟩, ⟨x2, w2, e2⟩⟩ := h
  obtain ⟨a, ca, fa⟩ : ∃ a, Cor t0 a ∧ f a := by
    rcases m0 with h | h | h
    · exact ⟨_, .inl rfl, h.1⟩
    · exact ⟨_, .inl rfl, h.1⟩
    · exact ⟨_, .inr (.inl rfl), h.1⟩
  have hop : ∀ {t : Nat × Nat}, On n t → ∀ u v, Cor t u → Cor t v → f v → Row (n + 1) f a u → Row (n + 1) f a v := by
    intro t ht u v cu cv fv hw
    rcases cor_adj cu cv with rfl | hA
    · exact hw
    · exact .step hw (cor_on ht cv) fv hA
  have key : ∀ t, Row n (Maj f) t0 t → ∀ v, Cor t v → f v → Row (n + 1) f a v := by
    intro t hw
    induction hw with
    | refl => exact fun v cv fv => hop ht0 a v ca cv fv .refl
    | @step t t' hp ht' m' hadj ih =>
      intro v cv fv
      have hg := hp.good ⟨ht0, m0⟩
      obtain ⟨u, u', c, c', fu, fu', e⟩ := bridge hadj hg.2 m'
      have hu := ih u c fu
      have hu' : Row (n + 1) f a u' := by
        rcases e with rfl | e
        · exact hu
        · exact .step hu (cor_on ht' c') fu' e
      exact hop ht' u' v c' cv fv hu'
  refine ⟨a, cor_on ht0 ca, fa, ?_, ?_, ?_⟩
  · obtain ⟨ht, mt⟩ := w0.good ⟨ht0, m0⟩
    rcases mt with h | h | h
    · exact ⟨_, key x0 w0 _ (.inl rfl) h.1, e0⟩
    · exact ⟨_, key x0 w0 _ (.inl rfl) h.1, e0⟩
    · exact ⟨_, key x0 w0 _ (.inr (.inl rfl)) h.1, e0⟩
  · obtain ⟨ht, mt⟩ := w1.good ⟨ht0, m0⟩
    rcases mt with h | h | h
    · exact ⟨_, key x1 w1 _ (.inl rfl) h.1, e1⟩
    · exact ⟨_, key x1 w1 _ (.inl rfl) h.1, e1⟩
    · exact ⟨_, key x1 w1 _ (.inr (.inr rfl)) h.2, by dsimp only; omega⟩
  · obtain ⟨ht, mt⟩ := w2.good ⟨ht0, m0⟩
    rcases mt with h | h | h
    · exact ⟨_, key x2 w2 _ (.inr (.inl rfl)) h.2, by dsimp only; omega⟩
    · exact ⟨_, key x2 w2 _ (.inr (.inr rfl)) h.2, by dsimp only; omega⟩
    · exact ⟨_, key x2 w2 _ (.inr (.inl rfl)) h.1, by dsimp only; omega⟩
theorem yw_iff {n : Nat} {f : Nat × Nat → Prop} (hn : 1 ≤ n) : YW (n + 1) f ↔ YW n (Maj f) := ⟨yw_down hn, yw_up⟩
theorem yw_one {f : Nat × Nat → Prop} : YW 1 f ↔ f (0, 0) := by
  constructor
  · rintro ⟨⟨a1, a2⟩, ha, fa, -⟩
    unfold On at ha
    dsimp only at ha
    have h1 : a1 = 0 := by omega
    have h2 : a2 = 0 := by omega
    subst h1 h2
    exact fa
  · intro h
    exact ⟨(0, 0), ⟨Nat.le_refl _, by decide⟩, h, ⟨_, .refl, rfl⟩, ⟨_, .refl, rfl⟩, ⟨_, .refl, rfl⟩⟩
theorem yw_congr {n : Nat} {f g : Nat × Nat → Prop} (h : ∀ a, On n a → (f a ↔ g a)) (hy : YW n f) : YW n g := by
  obtain ⟨a, ha, fa, ⟨x0, w0, e0⟩, ⟨x1, w1, e1⟩, ⟨x2, w2, e2⟩⟩ := hy
  have key : ∀ x, Row n f a x → Row n g a x := by
    intro x hx
    induction hx with
    | refl => exact .refl
    | step _ hc fc hadj ih => exact .step ih hc ((h _ hc).mp fc) hadj
  exact ⟨a, ha, (h a ha).mp fa, ⟨x0, key _ w0, e0⟩, ⟨x1, key _ w1, e1⟩, ⟨x2, key _ w2, e2⟩⟩
end
section
/-- the colour that a cell of the rows has -/
noncomputable def colr (v : Int) (rows : List (List Int)) (a : Nat × Nat) : Prop := (rows.getD a.1 []).getD a.2 0 = v
noncomputable def Bits (rows : List (List Int)) : Prop := ∀ i j, j ≤ i → i < rows.length → (rows.getD i []).getD j 0 = 0 ∨ (rows.getD i []).getD j 0 = 1
theorem vote_at {n : Nat} {rows : List (List Int)} (hs : Shape (n + 1) rows) {i j : Nat} (hj : j ≤ i) (hi : i < n) :
    ((votesOf rows).getD i []).getD j 0 = (if (rows.getD i []).getD j 0 + (rows.getD (i + 1) []).getD j 0 + (rows.getD (i + 1) []).getD (j + 1) 0 > 1 then 1 else 0) := by
  have hv := votes_get (rows := rows) (i := i) (by rw [hs.1]; exact hi)
  have e1 : (votesOf rows).getD i [] = voteRow (rows.getD i []) (rows.getD (i + 1) []) (i + 1) := by rw [List.getD_eq_getElem?_getD, hv]; rfl
  rw [e1]
  unfold voteRow sumsRow
  rw [List.getD_eq_getElem?_getD, List.getElem?_map, List.getElem?_map, List.getElem?_range (by omega)]
  rfl
theorem bits_votes {n : Nat} {rows : List (List Int)} (hs : Shape (n + 1) rows) : Bits (votesOf rows) := by
  intro i j hj hi
  rw [(shape_votes hs).1] at hi
  rw [vote_at hs hj hi]
  split
  · exact .inr rfl
  · exact .inl rfl
theorem maj_vote {n : Nat} {rows : List (List Int)} (hs : Shape (n + 1) rows) (hb : Bits rows) {v : Int} (hv : v = 0 ∨ v = 1) : ∀ a, On n a → (Maj (colr v rows) a ↔ colr v (votesOf rows) a) := by
  rintro ⟨i, j⟩ ⟨hj, hi⟩
  dsimp only at hj hi
  unfold Maj colr
  dsimp only
  rw [vote_at hs hj hi]
  have b1 := hb i j hj (by rw [hs.1]; omega)
  have b2 := hb (i + 1) j (by omega) (by rw [hs.1]; omega)
  have b3 := hb (i + 1) (j + 1) (by omega) (by rw [hs.1]; omega)
  generalize (rows.getD i []).getD j 0 = x at *
  generalize (rows.getD (i + 1) []).getD j 0 = y at *
  generalize (rows.getD (i + 1) []).getD (j + 1) 0 = z at *
  rcases hv with rfl | rfl <;> rcases b1 with rfl | rfl <;> rcases b2 with rfl | rfl <;> rcases b3 with rfl | rfl <;> decide
theorem yw_last : ∀ (n : Nat) (rows : List (List Int)), Shape (n + 1) rows → Bits rows → ∀ v : Int, v = 0 ∨ v = 1 → (YW (n + 1) (colr v rows) ↔ lastR n rows = v) := by
  intro n
  induction n with
  | zero =>
    intro rows hs hb v hv
    rw [yw_one]
    rfl
  | succ n ih =>
    intro rows hs hb v hv
    rw [yw_iff (by omega)]
    have hm := maj_vote hs hb hv
    have h2 := ih (votesOf rows) (shape_votes hs) (bits_votes hs) v hv
    show YW (n + 1) (Maj (colr v rows)) ↔ lastR n (votesOf rows) = v
    rw [← h2]
    exact ⟨yw_congr hm, yw_congr fun a ha => (hm a ha).symm⟩
/-- the cell of a place -/
noncomputable def cellAt (a : Nat × Nat) : Lt := cells.getD (a.1 * (a.1 + 1) / 2 + a.2) (0, 0, 0)
noncomputable def places : List (Nat × Nat) := [(0, 0), (1, 0), (1, 1), (2, 0), (2, 1), (2, 2), (3, 0), (3, 1), (3, 2), (3, 3), (4, 0), (4, 1), (4, 2), (4, 3), (4, 4)]
theorem places_on : ∀ a : Nat × Nat, On 5 a ↔ a ∈ places := by
  rintro ⟨i, j⟩
  constructor
  · rintro ⟨h1, h2⟩
    dsimp only at h1 h2
    have h : ∀ i : Nat, i < 5 → ∀ j : Nat, j < i + 1 → (i, j) ∈ places := by decide
    exact h i h2 j (by omega)
  · intro h
    have h' : ∀ a ∈ places, a.2 ≤ a.1 ∧ a.1 < 5 := by decide
    exact h' _ h
theorem touch_adj : ∀ a ∈ places, ∀ b ∈ places, (touchL (cellAt a) (cellAt b) = true ↔ Adj a b) := by
  unfold Adj
  decide +kernel
theorem side_0 : ∀ a ∈ places, ((0 : Int) ∈ sidesL (cellAt a) ↔ a.2 = 0) := by decide +kernel
theorem side_1 : ∀ a ∈ places, ((1 : Int) ∈ sidesL (cellAt a) ↔ a.1 + 1 = 5) := by decide +kernel
theorem side_2 : ∀ a ∈ places, ((2 : Int) ∈ sidesL (cellAt a) ↔ a.2 = a.1) := by decide +kernel
noncomputable def ix (a : Nat × Nat) : Nat := a.1 * (a.1 + 1) / 2 + a.2
theorem ix_lt : ∀ a ∈ places, ix a < 15 := by decide
theorem ix_all : ∀ k, k < 15 → ∃ a ∈ places, ix a = k := by decide
theorem cell_inj : ∀ a ∈ places, ∀ b ∈ places, cellAt a = cellAt b → a = b := by decide +kernel
theorem own_mem {p : Nat → Bool} {x : Lt} : x ∈ own p 15 ↔ ∃ a ∈ places, p (ix a) = true ∧ x = cellAt a := by
  unfold own
  constructor
  · intro h
    obtain ⟨k, hk, rfl⟩ := List.mem_map.mp h
    obtain ⟨h1, h2⟩ := List.mem_filter.mp hk
    obtain ⟨a, ha, rfl⟩ := ix_all k (List.mem_range.mp h1)
    exact ⟨a, ha, h2, rfl⟩
  · rintro ⟨a, ha, hp, rfl⟩
    exact List.mem_map.mpr ⟨ix a, List.mem_filter.mpr ⟨List.mem_range.mpr (ix_lt a ha), hp⟩, rfl⟩
theorem way_row {p : Nat → Bool} {a : Nat × Nat} (ha : a ∈ places) {x : Lt} (h : Way (own p 15) (cellAt a) x) : ∃ b ∈ places, x = cellAt b ∧ Row 5 (fun b => p (ix b) = true) a b := by
  induction h with
  | refl => exact ⟨a, ha, rfl, .refl⟩
  | step _ hc ht ih =>
    obtain ⟨b, hb, rfl, hr⟩ := ih
    obtain ⟨c, hc', hp, rfl⟩ := own_mem.mp hc
    exact ⟨c, hc', rfl, .step hr ((places_on c).mpr hc') hp ((touch_adj b hb c hc').mp ht)⟩
theorem row_way {p : Nat → Bool} {a b : Nat × Nat} (ha : a ∈ places) (h : Row 5 (fun b => p (ix b) = true) a b) : b ∈ places ∧ Way (own p 15) (cellAt a) (cellAt b) := by
  induction h with
  | refl => exact ⟨ha, .refl⟩
  | @step b c _ hc hp hadj ih =>
    have hc' := (places_on c).mp hc
    exact ⟨hc', .step ih.2 (own_mem.mpr ⟨c, hc', hp, rfl⟩) ((touch_adj b ih.1 c hc').mpr hadj)⟩
theorem own_sym {p : Nat → Bool} : ∀ a ∈ own p 15, ∀ b ∈ own p 15, touchL a b = true → touchL b a = true := by
  intro a ha b hb h
  obtain ⟨a, ha', -, rfl⟩ := own_mem.mp ha
  obtain ⟨b, hb', -, rfl⟩ := own_mem.mp hb
  exact (touch_adj b hb' a ha').mpr ((touch_adj a ha' b hb').mp h).symm
theorem all_yw {p : Nat → Bool} : (∃ a ∈ own p 15, All3 (own p 15) a) ↔ YW 5 (fun b => p (ix b) = true) := by
  constructor
  · rintro ⟨x, hx, h⟩
    obtain ⟨a, ha, hp, rfl⟩ := own_mem.mp hx
    refine ⟨a, (places_on a).mpr ha, hp, ?_, ?_, ?_⟩
    · obtain ⟨x, hw, hs⟩ := h 0 (.inl rfl)
      obtain ⟨b, hb, rfl, hr⟩ := way_row ha hw
      exact ⟨b, hr, (side_0 b hb).mp hs⟩
    · obtain ⟨x, hw, hs⟩ := h 2 (.inr (.inr rfl))
      obtain ⟨b, hb, rfl, hr⟩ := way_row ha hw
      exact ⟨b, hr, (side_2 b hb).mp hs⟩
    · obtain ⟨x, hw, hs⟩ := h 1 (.inr (.inl rfl))
      obtain ⟨b, hb, rfl, hr⟩ := way_row ha hw
      exact ⟨b, hr, (side_1 b hb).mp hs⟩
  · rintro ⟨a, ha, hp, ⟨x0, w0, e0⟩, ⟨x1, w1, e1⟩, ⟨x2, w2, e2⟩⟩
    have ha' := (places_on a).mp ha
    refine ⟨cellAt a, own_mem.mpr ⟨a, ha', hp, rfl⟩, ?_⟩
    rintro s (rfl | rfl | rfl)
    · obtain ⟨hb, hw⟩ := row_way ha' w0
      exact ⟨_, hw, (side_0 x0 hb).mpr e0⟩
    · obtain ⟨hb, hw⟩ := row_way ha' w2
      exact ⟨_, hw, (side_1 x2 hb).mpr e2⟩
    · obtain ⟨hb, hw⟩ := row_way ha' w1
      exact ⟨_, hw, (side_2 x1 hb).mpr e1⟩
theorem slice_at (sc : List Int) (m n j : Nat) (h : j < n) : ((sc.drop m).take n).getD j 0 = sc.getD (m + j) 0 := by
  rw [List.getD_eq_getElem?_getD, List.getD_eq_getElem?_getD, List.getElem?_take, if_pos h, List.getElem?_drop]
theorem rows_at (sc : List Int) : ∀ a ∈ places, ((rowsOf sc).getD a.1 []).getD a.2 0 = sc.getD (ix a) 0 := by
  intro a ha
  have h0 : ((sc.drop 0).take 1).getD 0 0 = sc.getD 0 0 := slice_at sc 0 1 0 (by decide)
  simp only [places, List.mem_cons, List.not_mem_nil, or_false] at ha
  rcases ha with rfl | rfl | rfl | rfl | rfl | rfl | rfl | rfl | rfl | rfl | rfl | rfl | rfl | rfl | rfl
  · exact h0
  · exact slice_at sc 1 2 0 (by decide)
  · exact slice_at sc 1 2 1 (by decide)
  · exact slice_at sc 3 3 0 (by decide)
  · exact slice_at sc 3 3 1 (by decide)
  · exact slice_at sc 3 3 2 (by decide)
  · exact slice_at sc 6 4 0 (by decide)
  · exact slice_at sc 6 4 1 (by decide)
  · exact slice_at sc 6 4 2 (by decide)
  · exact slice_at sc 6 4 3 (by decide)
  · exact slice_at sc 10 5 0 (by decide)
  · exact slice_at sc 10 5 1 (by decide)
  · exact slice_at sc 10 5 2 (by decide)
  · exact slice_at sc 10 5 3 (by decide)
  · exact slice_at sc 10 5 4 (by decide)
theorem mod_at (ds : List Int) (k : Nat) : (ds.map fun d => d.fmod 2).getD k 0 = (ds.getD k 0).fmod 2 := by
  rw [List.getD_eq_getElem?_getD, List.getD_eq_getElem?_getD, List.getElem?_map]
  cases ds[k]? with
  | none => rfl
  | some d => rfl
theorem joined_last (ds : List Int) (h : ds.length = 15) (v : Int) (hv : v = 0 ∨ v = 1) (p : Nat → Bool) (hp : ∀ k, p k = ((ds.getD k 0).fmod 2 == v)) : joinedF (own p 15).length (own p 15) false = decide (lastR 4 (rowsOf (ds.map fun d => d.fmod 2)) = v) := by
  have hs := shape_rows (sc := ds.map fun d => d.fmod 2) (by rw [List.length_map]; exact h)
  have hcol : ∀ a, On 5 a → ((fun b => p (ix b) = true) a ↔ colr v (rowsOf (ds.map fun d => d.fmod 2)) a) := by
    intro a ha
    unfold colr
    rw [rows_at _ a ((places_on a).mp ha), mod_at]
    show p (ix a) = true ↔ _
    rw [hp, beq_iff_eq]
  have hb : Bits (rowsOf (ds.map fun d => d.fmod 2)) := by
    intro i j hj hi
    have hi : i < 5 := hi
    have e := rows_at (ds.map fun d => d.fmod 2) (i, j) ((places_on (i, j)).mp ⟨hj, hi⟩)
    dsimp only at e
    rw [e, mod_at]
    have h1 := Int.fmod_nonneg_of_pos (ds.getD (ix (i, j)) 0) (show (0 : Int) < 2 by decide)
    have h2 := Int.fmod_lt_of_pos (ds.getD (ix (i, j)) 0) (show (0 : Int) < 2 by decide)
    omega
  rw [Bool.eq_iff_iff, joined_iff _ _ _ (Nat.le_refl _) own_sym, all_yw, decide_eq_true_iff, ← yw_last 4 _ hs hb v hv]
  constructor
  · rintro (h | h)
    · cases h
    · exact yw_congr hcol h
  · intro h
    exact .inr (yw_congr (fun a ha => (hcol a ha).symm) h)
theorem plain_law (ds : List Int) (h : ds.length = 15) : joinedF (own (evn ds) 15).length (own (evn ds) 15) false = decide (lastR 4 (rowsOf (ds.map fun d => d.fmod 2)) = 0) ∧ joinedF (own (odd ds) 15).length (own (odd ds) 15) false = decide (lastR 4 (rowsOf (ds.map fun d => d.fmod 2)) = 1) :=
  ⟨joined_last ds h 0 (.inl rfl) (evn ds) fun _ => rfl, joined_last ds h 1 (.inr rfl) (odd ds) fun _ => rfl⟩
end
section
open LCg
local macro_rules | `(tactic| k_all) => `(tactic| with_unfolding_all assumption)
local macro_rules | `(tactic| walk_at "subscriptTail Name Name ref int") => `(tactic| refine hold ?_)
local macro_rules | `(tactic| walk_at "getMethod bytes") => `(tactic| refine hold ?_)
local macro_rules | `(tactic| walk_at "call builtin:bytes.join") => `(tactic| refine hold ?_)
local macro_rules | `(tactic| walk_at "binaryOp Add bytes bytes") => `(tactic| refine hold ?_)
local macro_rules | `(tactic| walk_at "call builtin:str.join") => `(tactic| refine hold ?_)
local macro_rules | `(tactic| walk_at "compareOp Eq ref ref") => `(tactic| refine hold ?_)
local macro_rules | `(tactic| walk_at "call builtin:str.count") => `(tactic| refine hold ?_)
local macro_rules | `(tactic| walk_at "call type:range") => `(tactic| ((rename Fr _ _ _ _ => F'); (rename News _ _ _ _ => N'); first | (with_unfolding_all refine range1_rows F' N' ?_; intro _ _ _ _ _ _ _ _ _) | (with_unfolding_all refine range2_rows F' N' ?_; intro _ _ _ _ _ _ _ _ _)))
noncomputable def Marked : Prop := True
theorem hideQ {α : Type} {M : Model} {A : Around} {t : Sem α} {Q : α → Shared → Prop} {E : Value → Shared → Prop} {s : Shared} (h : ∀ Q' : α → Shared → Prop, (∀ a s', Q a s' → Q' a s') → Marked → wpAny M A t Q' E s) : Hold (wpAny M A t Q E s) := h Q (fun _ _ x => x) trivial
local macro_rules | `(tactic| walk_at "execs cons") => `(tactic| (fail_if_success (rename Marked => mk9)); refine hold ?_)
local macro_rules | `(tactic| k_mem) => `(tactic| assumption)
local macro_rules | `(tactic| k_memK) => `(tactic| assumption)
theorem law_holds : PySem.Challenge.rw_sn0010_01.Holds := by
  refine hd ?_
  k_go0
  k_steps
  refine hideQ fun Qz hz hmk => ?_
  k_steps
  rename IntsAre _ _ => hI
  rename ¬ (_ : Int) < (List.length _ : Int) => hc63
  rename Fr _ _ _ _ => F'
  rename News _ _ _ _ => N'
  rename Below _ _ _ _ => K'
  rename Top _ _ _ _ _ _ => T'
  rename CodeHd _ _ _ => codeHd
  rename_i oA oB cA cB X0 X' lif
  rename Shared => s1
  rename World => wW
  generalize hLL : s1.heap.objs.size = L' at *
  refine unhold (con_keep (c_draws _ _ _ _ _ hI (by omega) (by assumption)) K' F' (by assumption) T' _ N' (fun _ h => nomatch h) (fun _ _ _ _ _ h => nomatch h) rfl (by ktr_room) (by ktr_units) ?_)
  refine fun v mach' h6 k6 hr => OInts.casesOn hr fun D1 ys kd hys F6 N6 hne => ?_
  clear F' N'
  generalize hdse : drawsOf _ = ds at hys
  have hdl : ds.length = 15 := hdse ▸ drawsOf_len _
  have hdr : ∀ d ∈ ds, 0 ≤ d ∧ d < 6 := hdse ▸ drawsOf_range _
  simp only [List.cons_append, List.nil_append] at N6
  have hd1 : @Ne Nat D1 (L' + 1 + 1) := hne _ (.head _) (fun h => nomatch h) _ (.head _)
  have hd2 : @Ne Nat D1 (L' + 1) := hne _ (.head _) (fun h => nomatch h) _ (.tail _ (.head _))
  have hd3 : @Ne Nat D1 106 := hne _ (.head _) (fun h => nomatch h) _ (.tail _ (.tail _ (.head _)))
  k_steps
  rename Fr _ _ _ _ => F'; rename News _ _ _ _ => N'
  refine unhold (asgn_plain (by with_unfolding_all rfl) ?_)
  k_steps
  rename Obj => oC
  refine unhold (comp2_E F' 5 (fun i ys2 led => led = [(D1, listO ys kd), (L' + 1 + 1, oA), (L' + 1, oC), (106, tabObj #[])] ∧ BytesAre ys2 (codesL.take (i * (i + 1) / 2))) (by with_unfolding_all rfl) (by decide) (by rfl) (by decide) (by rfl) (by rfl) (by decide) ?_)
  k_steps
  rename Fr _ _ _ _ => F'; rename News _ _ _ _ => N'
  rename IsRange _ _ _ _ _ _ _ _ => hR
  refine ⟨_, _, src_range rfl hR (by decide) (n := 5) (by decide), F', N', ⟨rfl, .nil⟩, fun hp => ?_, fun hp => ?_⟩
  · clear F' N'
    intro i v ys2 led I oI C oC2 D m₂ h tk hi ⟨u, hv⟩ ⟨hled, hys2⟩ hoC hx F N off ne
    subst hv hled
    k_steps
    rename Fr _ _ _ _ => F'; rename News _ _ _ _ => N'
    rename IsRange _ _ _ _ _ _ _ _ => hR2
    rw [show (0 : Int) + (i : Int) + 1 = ((i + 1 : Nat) : Int) by omega] at hR2
    refine In2.mk (i + 1) _ _ (fun j ys3 led => led = [(D1, listO ys kd), (L' + 1 + 1, oA), (L' + 1, oC), (106, tabObj #[])] ∧ BytesAre ys3 (codesL.take (i * (i + 1) / 2 + j))) _ _ (src_range rfl hR2 (small_ok (i + 1) (by omega)) (size_ok (i + 1) (by omega))) F' N' off ⟨rfl, hys2⟩ (fun _ _ _ h => codes_len h.2) ?_ (fun ys3 led h => ⟨h.1, by rw [← tri_next i hi]; exact h.2⟩)
    clear F' N'
    intro j v2 ys3 led I2 oI2 oC3 m₃ h tk hj hv2 hjj hoC3 hm1 hm2 F N off2 offI ne2
    obtain ⟨u2, rfl⟩ := hv2
    obtain ⟨rfl, hys3⟩ := hjj
    k_steps
    rename Fr _ _ _ _ => F'; rename News _ _ _ _ => N'
    refine unhold (con_keep1 (c_code _ _ _ _ _ _ _ _ _ _ (by omega) (by omega)) K' F' (by assumption) T' _ N' (fun _ _ _ h => by cases h; exact .head _) rfl (by ktr_room) (by ktr_units) ?_)
    refine fun v mach' h8 k8 hr => OByt.casesOn hr fun t8 F8 N8 _ => ?_
    rw [show 256 * (12 - 3 * (0 + (i : Int))) + 16 * (3 * (0 + (i : Int)) - 3 * (0 + (j : Int))) + 3 * (0 + (j : Int)) = 256 * (12 - 3 * (i : Int)) + 16 * (3 * (i : Int) - 3 * (j : Int)) + 3 * (j : Int) by omega]
    exact ⟨_, _, [(D1, listO ys kd), (L' + 1 + 1, oA), (L' + 1, oC), (106, tabObj #[])], rfl, F8, fun p hp => N8 p (.tail _ (.tail _ hp)), off2, offI, rfl, codes_next hi hj hys3⟩
  · clear F' N'
    rintro ys2 led ⟨rfl, hys2⟩ D2 h9 k9 F N od
    k_steps
    rename Fr _ _ _ _ => F'; rename News _ _ _ _ => N'
    rename Obj => oD
    rename oD.data = _ => qD
    simp only [List.cons_append, List.nil_append] at N'
    have hy2 : BytesAre ys2 codesL := hys2
    refine unhold (compT_A F' (by rfl) (by with_unfolding_all rfl) (by with_unfolding_all rfl) (by decide) (by rfl) (by decide) (by rfl) (by rfl) (by rfl) ?_)
    k_steps
    rename Fr _ _ _ _ => F'; rename News _ _ _ _ => N'
    rename IsRange _ _ _ _ _ _ _ _ => hR3
    refine (SrcGo.of [] (src_range rfl hR3 (by decide) (n := 15) (by decide)) (by decide) F' N' (fun _ h => nomatch h) (fun g5 => ?_))
    refine restT_indRL [(D2, lst ys2), (D1, listO ys kd), (L' + 1 + 1, oD), (L' + 1, oC), (106, tabObj #[])] (fun i ys3 => BytesAre ys3 ((own (odd ds) i).map codeB)) .nil ?_ ?_
    · clear F' N'
      intro LD hLD i u ys3 I oI C oC2 D m₂ h5 k5 E' hi hys3 hC hx F N off ne
      refine IntAt.casesOn (ints_atR (i := i) hys (by rw [hdl]; exact hi)) fun n1 t1 e1 e2 => ?_
      obtain ⟨t2, e3⟩ := codes_get hy2 hi
      have hp : odd ds i = (n1.fmod 2 == 1) := by unfold odd; rw [List.getD_eq_getElem?_getD, e2]; rfl
      k_steps
      refine unhold (q_item N (.tail _ (.tail _ (.tail _ (.tail _ (.head _))))) (by omega) (by omega) (x := .int n1 t1) (by rw [show (0 + (i : Int)).toNat = i by omega]; exact e1) ?_)
      k_steps
      · rename Int.fmod n1 2 = 1 => h1
        refine unhold (q_item N (.tail _ (.tail _ (.tail _ (.head _)))) (by omega) (by omega) (x := .bytes (codeB (cells.getD i (0, 0, 0))).toArray t2) (by rw [show (0 + (i : Int)).toNat = i by omega]; exact e3) ?_)
        k_steps
        exact CompEnd.intro F N [(D2, lst ys2), (D1, listO ys kd), (L' + 1 + 1, oD), (L' + 1, oC), (106, tabObj #[])] (fun _ h => h) off (fun _ h => nomatch h) (.of hLD (flags_yes (by rw [hp]; exact beq_iff_eq.mpr h1) hys3))
      · rename Int.fmod n1 2 ≠ 1 => h1
        exact CompEnd.intro F N [(D2, lst ys2), (D1, listO ys kd), (L' + 1 + 1, oD), (L' + 1, oC), (106, tabObj #[])] (fun _ h => h) off (fun _ h => nomatch h) (.of hLD (flags_no (by rw [hp]; exact fun h => h1 (beq_iff_eq.mp h)) hys3))
    · clear F' N'
      intro ys3 hys3 D3 h10 k10 F N od3
      have hfl : ∀ x ∈ (own (odd ds) 15).map codeB, Lets x := fun x hx => by
        obtain ⟨l, hl, rfl⟩ := List.mem_map.mp hx
        exact codeB_lets l (own_good _ _ (Nat.le_refl _) l hl)
      have hfn : ((own (odd ds) 15).map codeB).length ≤ 15 := by rw [List.length_map]; exact own_len _ _
      k_steps
      refine unhold (gm_join ?_)
      k_steps
      refine unhold (q_bjoin N hfl hfn (.head _) hys3 ?_)
      intro t7 k7
      generalize hflg : (own (odd ds) 15).map codeB = fl at *
      have hle := joinL_le fl hfl
      k_steps
      refine unhold (KBy.add_bytes (by show 18 + (joinL fl).length ≤ _; omega) ?_)
      intro t8 k8
      k_steps
      refine unhold (KBy.add_bytes (by rw [Array.size_append]; show 18 + (joinL fl).length + 2 ≤ _; omega) ?_)
      intro t9 k9
      have hre := rep_eq fl
      unfold preL at hre
      rw [hre]
      k_steps
      rename Fr _ _ _ _ => F'; rename News _ _ _ _ => N'
      refine unhold (compT_A F' (by rfl) (by with_unfolding_all rfl) (by with_unfolding_all rfl) (by decide) (by rfl) (by decide) (by rfl) (by rfl) (by rfl) ?_)
      k_steps
      rename Fr _ _ _ _ => F'; rename News _ _ _ _ => N'
      rename IsRange _ _ _ _ _ _ _ _ => hR4
      refine (SrcGo.of [] (src_range rfl hR4 (by decide) (n := 15) (by decide)) (by decide) F' N' (fun _ h => nomatch h) (fun g6 => ?_))
      refine restT_indRL [(D3, lst ys3), (D2, lst ys2), (D1, listO ys kd), (L' + 1 + 1, oD), (L' + 1, oC), (106, tabObj #[])] (fun i ys4 => IntsAre ys4 (idx (evn ds) i)) .nil ?_ ?_
      · clear F' N'
        intro LD hLD i u ys4 I oI C oC2 D m₂ h5 k5 E' hi hys4 hC hx F N off ne
        refine IntAt.casesOn (ints_atR (i := i) hys (by rw [hdl]; exact hi)) fun n1 t1 e1 e2 => ?_
        have hp : evn ds i = (n1.fmod 2 == 0) := by unfold evn; rw [List.getD_eq_getElem?_getD, e2]; rfl
        k_steps
        refine unhold (q_item N (.tail _ (.tail _ (.tail _ (.tail _ (.tail _ (.head _)))))) (by omega) (by omega) (x := .int n1 t1) (by rw [show (0 + (i : Int)).toNat = i by omega]; exact e1) ?_)
        k_steps
        · rename Int.fmod n1 2 = 0 => h1
          exact CompEnd.intro F N [(D3, lst ys3), (D2, lst ys2), (D1, listO ys kd), (L' + 1 + 1, oD), (L' + 1, oC), (106, tabObj #[])] (fun _ h => h) off (fun _ h => nomatch h) (.of hLD (idx_yes (by rw [hp]; exact beq_iff_eq.mpr h1) hys4))
        · rename Int.fmod n1 2 ≠ 0 => h1
          exact CompEnd.intro F N [(D3, lst ys3), (D2, lst ys2), (D1, listO ys kd), (L' + 1 + 1, oD), (L' + 1, oC), (106, tabObj #[])] (fun _ h => h) off (fun _ h => nomatch h) (.of hLD (idx_no (by rw [hp]; exact fun h => h1 (beq_iff_eq.mp h)) hys4))
      · clear F' N'
        intro ys4 hys4 D4 h11 k11 F N od4
        have hil := ints_len hys4
        rw [idx_len] at hil
        have hel := evens_len ds
        k_steps
        refine unhold (comp_E F (by with_unfolding_all rfl) (by decide) (by rfl) (by decide) (by rfl) ?_)
        k_steps
        refine (SrcGo.of [(D4, lst ys4)] (src_list rfl N (.head _)) (by show ys4.toArray.size ≤ 16777216; rw [List.size_toArray]; omega) F N (fun p hp => by rw [List.mem_singleton.mp hp]; exact .head _) (fun g7 => ?_))
        refine rest_indL [(D4, lst ys4), (D3, lst ys3), (D2, lst ys2), (D1, listO ys kd), (L' + 1 + 1, oD), (L' + 1, oC), (106, tabObj #[])] (fun i ys5 => StrsAre ys5 (((spells ds).take i).map str)) .nil ?_ ?_
        · clear F N
          intro LD hLD i v ys5 I oI C oC2 D m₂ h5 k5 E' hi hv5 hys5 hC hx F N off ne
          have hv3 : ys4[i]? = some v := by simpa using hv5
          have hi2 : i < (evens ds).length := by rw [List.size_toArray] at hi; omega
          refine IntAt.casesOn (ints_atR (i := i) hys4 (by rw [idx_len]; exact hi2)) fun n0 t0 e1 e2 => ?_
          refine IdxAt.casesOn (idx_atR e2) fun k hk hkn hk15 => ?_
          have hv4 : v = .int (k : Int) t0 := hkn ▸ Option.some.inj (hv3.symm.trans e1)
          rw [hv4] at hx
          refine IntAt.casesOn (ints_atR (i := k) hys (by rw [hdl]; exact hk15)) fun n1 t1 f1 f2 => ?_
          obtain ⟨t2, e3⟩ := codes_get hy2 hk15
          have hn1 : ds.getD k 0 = n1 := by rw [List.getD_eq_getElem?_getD, f2]; rfl
          have hlc := (codeB_lets _ (cell_good hk15)).2.1
          k_steps
          refine unhold (q_item N (.tail _ (.tail _ (.tail _ (.tail _ (.tail _ (.head _)))))) (by omega) (by omega) (x := .bytes (codeB (cells.getD k (0, 0, 0))).toArray t2) (by rw [Int.toNat_natCast]; exact e3) ?_)
          k_steps
          refine unhold (con_keep (c_plain _ _ _ _ (by rw [List.size_toArray]; omega)) K' F (by assumption) T' _ N (fun _ h => nomatch h) (fun _ _ _ _ _ h => nomatch h) rfl (by ktr_room) (by ktr_units) ?_)
          refine fun v mach' h8 k8 hr => OStr.casesOn hr fun t8 F8 N8 _ => ?_
          clear F N
          rw [List.nil_append] at N8
          rw [show (codeB (cells.getD k (0, 0, 0))).toArray.toList.map (·.toNat) = wordOf (cells.getD k (0, 0, 0)) from rfl]
          k_steps
          refine unhold (q_item N8 (.tail _ (.tail _ (.tail _ (.tail _ (.tail _ (.tail _ (.head _))))))) (by omega) (by omega) (x := .int n1 t1) (by rw [Int.toNat_natCast]; exact f1) ?_)
          k_steps
          refine unhold (con_keep (c_spell _ _ (wordOf (cells.getD k (0, 0, 0))) _ _ _ (by have := word_len _ (cell_good hk15); omega)) K' F8 (by assumption) T' _ N8 (fun _ h => nomatch h) (fun _ _ _ _ _ h => nomatch h) rfl (by ktr_room) (by ktr_units) ?_)
          refine fun v mach' h9 k9 hr => OStr.casesOn hr fun t9 F9 N9 _ => ?_
          refine CompEnd.intro F9 N9 [(D4, lst ys4), (D3, lst ys3), (D2, lst ys2), (D1, listO ys kd), (L' + 1 + 1, oD), (L' + 1, oC), (106, tabObj #[])] (fun _ h => h) off (fun p hp => by rw [List.mem_singleton.mp hp]; exact .head _) (.of hLD ?_)
          rw [spells_at hk, ← hn1]
          exact strs_snoc hys5
        · clear F N
          intro ys5 hys5 D5 h12 k12 F N od5
          have hsl : (spells ds).length = (evens ds).length := by unfold spells; rw [List.length_map]
          rw [List.take_of_length_le (by rw [hsl, List.size_toArray, hil]; exact Nat.le_refl _)] at hys5
          have htl := text_len ds
          k_steps
          refine unhold (q_join N (.head _) hys5 (by omega) ?_)
          intro t13 k13
          k_steps
          rename Fr _ _ _ _ => F'; rename News _ _ _ _ => N'
          refine unhold (con_use (c_machine _ _ codeHd (spells ds).flatten _ (by omega)) K' F' (by assumption) T' _ [(D5, lst ys5), (D4, lst ys4), (D3, lst ys3), (D2, lst ys2), (D1, listO ys kd), (L' + 1 + 1, oD), (L' + 1, oC)] N' (fun q hq => by rw [List.mem_singleton.mp hq]; exact (.tail _ (.tail _ (.tail _ (.tail _ (.tail _ (.tail _ (.tail _ (.head _))))))))) (fun q hq => by
            simp only [List.mem_cons, List.not_mem_nil, or_false] at hq ⊢
            rcases hq with rfl | rfl | rfl | rfl | rfl | rfl | rfl <;> simp) (fun q hq => ?_) rfl (by ktr_room) (by ktr_units) ?_)
          · have lif' : @LT.lt Nat _ 106 L' := lif
            have a1 : @Ne Nat 106 D5 := off1_mem od5 (106, tabObj #[]) ((.tail _ (.tail _ (.tail _ (.tail _ (.tail _ (.tail _ (.head _))))))))
            have a2 : @Ne Nat 106 D4 := off1_mem od4 (106, tabObj #[]) ((.tail _ (.tail _ (.tail _ (.tail _ (.tail _ (.head _)))))))
            have a3 : @Ne Nat 106 D3 := off1_mem od3 (106, tabObj #[]) ((.tail _ (.tail _ (.tail _ (.tail _ (.head _))))))
            have a4 : @Ne Nat 106 D2 := off1_mem od (106, tabObj #[]) ((.tail _ (.tail _ (.tail _ (.head _)))))
            intro h6
            have h6 : @Eq Nat q.1 106 := List.mem_singleton.mp h6
            simp only [List.mem_cons, List.not_mem_nil, or_false] at hq
            rcases hq with rfl | rfl | rfl | rfl | rfl | rfl | rfl
            · exact a1 h6.symm
            · exact a2 h6.symm
            · exact a3 h6.symm
            · exact a4 h6.symm
            · exact hd3 h6
            · have h6 : @Eq Nat (L' + 1 + 1) 106 := h6
              omega
            · have h6 : @Eq Nat (L' + 1) 106 := h6
              omega
          refine fun v mach' h14 k14 hr => OMach.casesOn hr fun M tp tl tps O hLM RS F14 N14 hold14 _ => ?_
          clear F' N'
          have hfree : ∀ q ∈ [(D5, lst ys5), (D4, lst ys4), (D3, lst ys3), (D2, lst ys2), (D1, listO ys kd), (L' + 1 + 1, oD), (L' + 1, oC), (106, tabObj tps)], M.Free q.1 := fun q hq => free_lt O (by
            simp only [List.mem_cons, List.not_mem_nil, or_false] at hq
            rcases hq with rfl | rfl | rfl | rfl | rfl | rfl | rfl | rfl
            · exact Nat.lt_trans (hold14 (D5, lst ys5) (by (repeat (first | exact List.Mem.head _ | refine List.Mem.tail _ ?_)))) hLM
            · exact Nat.lt_trans (hold14 (D4, lst ys4) (by (repeat (first | exact List.Mem.head _ | refine List.Mem.tail _ ?_)))) hLM
            · exact Nat.lt_trans (hold14 (D3, lst ys3) (by (repeat (first | exact List.Mem.head _ | refine List.Mem.tail _ ?_)))) hLM
            · exact Nat.lt_trans (hold14 (D2, lst ys2) (by (repeat (first | exact List.Mem.head _ | refine List.Mem.tail _ ?_)))) hLM
            · exact Nat.lt_trans (hold14 (D1, listO ys kd) (by (repeat (first | exact List.Mem.head _ | refine List.Mem.tail _ ?_)))) hLM
            · exact Nat.lt_trans (hold14 (L' + 1 + 1, oD) (by (repeat (first | exact List.Mem.head _ | refine List.Mem.tail _ ?_)))) hLM
            · exact Nat.lt_trans (hold14 (L' + 1, oC) (by (repeat (first | exact List.Mem.head _ | refine List.Mem.tail _ ?_)))) hLM
            · exact Nat.lt_trans (hold14 (106, tabObj #[]) (by (repeat (first | exact List.Mem.head _ | refine List.Mem.tail _ ?_)))) hLM)
          have N15 : News (ghostOf s1.heap [(110, 106)]) L' h14 (M.led _ ((0 : Nat) : Int) tp (lineAt (spells ds).flatten 0) tl [] 0 ++ [(D5, lst ys5), (D4, lst ys4), (D3, lst ys3), (D2, lst ys2), (D1, listO ys kd), (L' + 1 + 1, oD), (L' + 1, oC), (106, tabObj tps)]) := fun p hp => by
            rcases List.mem_append.mp hp with h | h
            · exact N14 p (List.mem_append_left _ (List.mem_append_left _ h))
            · refine N14 p ?_
              simp only [List.mem_cons, List.not_mem_nil, or_false] at h
              rcases h with rfl | rfl | rfl | rfl | rfl | rfl | rfl | rfl
              · exact List.mem_append_right _ (.head _)
              · exact List.mem_append_right _ (.tail _ (.head _))
              · exact List.mem_append_right _ (.tail _ (.tail _ (.head _)))
              · exact List.mem_append_right _ (.tail _ (.tail _ (.tail _ (.head _))))
              · exact List.mem_append_right _ (.tail _ (.tail _ (.tail _ (.tail _ (.head _)))))
              · exact List.mem_append_right _ (.tail _ (.tail _ (.tail _ (.tail _ (.tail _ (.head _))))))
              · exact List.mem_append_right _ (.tail _ (.tail _ (.tail _ (.tail _ (.tail _ (.tail _ (.head _)))))))
              · exact List.mem_append_left _ (List.mem_append_right _ (.head _))
          k_steps
          rename Fr _ _ _ _ => F'; rename News _ _ _ _ => N'
          refine unhold (con_use (c_words _ M _ (spells ds).flatten (by omega) (text_small ds) O RS 0 (Nat.zero_le _) _ _ 0 _ [] (toks_text ds) (by rw [List.length_map]; have := own_len (evn ds) 15; omega)) K' F' (by assumption) T' _ [(D5, lst ys5), (D4, lst ys4), (D3, lst ys3), (D2, lst ys2), (D1, listO ys kd), (L' + 1 + 1, oD), (L' + 1, oC), (106, tabObj tps)] N' (fun q hq => List.mem_append_left _ hq) (fun q hq => List.mem_append_right _ hq) (fun q hq => led_off (hfree q hq)) rfl (by ktr_room) (by ktr_units) ?_)
          refine fun v mach' h16 k16 hr => OWords.casesOn hr fun Dw vsw kw tp' tl' hMD hsw F16 N16 hold16 _ => ?_
          clear F' N'
          obtain ⟨TL, hTL⟩ : ∃ TL, TL = (M.led wW ((spells ds).flatten.length : Nat) tp' (lineAt (spells ds).flatten (spells ds).flatten.length) tl' [] 0 ++ [(D5, lst ys5), (D4, lst ys4), (D3, lst ys3), (D2, lst ys2), (D1, listO ys kd), (L' + 1 + 1, oD), (L' + 1, oC), (106, tabObj tps)]) := ⟨_, rfl⟩
          have mD4 : (D4, lst ys4) ∈ TL := by rw [hTL]; exact List.mem_append_right _ (.tail _ (.head _))
          have mD3 : (D3, lst ys3) ∈ TL := by rw [hTL]; exact List.mem_append_right _ (.tail _ (.tail _ (.head _)))
          have mD2 : (D2, lst ys2) ∈ TL := by rw [hTL]; exact List.mem_append_right _ (.tail _ (.tail _ (.tail _ (.head _))))
          have mD1 : (D1, listO ys kd) ∈ TL := by rw [hTL]; exact List.mem_append_right _ (.tail _ (.tail _ (.tail _ (.tail _ (.head _)))))
          have mcD : (L' + 1 + 1, oD) ∈ TL := by rw [hTL]; exact List.mem_append_right _ (.tail _ (.tail _ (.tail _ (.tail _ (.tail _ (.head _))))))
          have mcC : (L' + 1, oC) ∈ TL := by rw [hTL]; exact List.mem_append_right _ (.tail _ (.tail _ (.tail _ (.tail _ (.tail _ (.tail _ (.head _)))))))
          have m106 : (106, tabObj tps) ∈ TL := by rw [hTL]; exact List.mem_append_right _ (.tail _ (.tail _ (.tail _ (.tail _ (.tail _ (.tail _ (.tail _ (.head _))))))))
          have mled : ∀ q ∈ M.led wW ((spells ds).flatten.length : Nat) tp' (lineAt (spells ds).flatten (spells ds).flatten.length) tl' [] 0, q ∈ TL := fun q hq => by rw [hTL]; exact List.mem_append_left _ hq
          have N17 : News (ghostOf s1.heap [(110, 106)]) L' h16 ((Dw, listO vsw kw) :: TL) := by rw [hTL]; exact N16
          clear N16
          k_steps
          rename Fr _ _ _ _ => F'; rename News _ _ _ _ => N'
          refine unhold (comp_A F' (by rfl) (by with_unfolding_all rfl) (by with_unfolding_all rfl) (by decide) (by rfl) (by decide) (by rfl) (by rfl) (by rfl) ?_)
          k_steps
          refine unhold (con_keep (c_flags _ _ fl _ hfl hfn) K' F' (by assumption) T' _ N' (fun _ h => nomatch h) (fun _ _ _ _ _ h => nomatch h) rfl (by ktr_room) (by ktr_units) ?_)
          refine fun v mach' h18 k18 hr => OTup.casesOn hr fun D6 vs6 k6 hv6 F18 N18 hne6 => ?_
          clear F' N'
          have hl6 := hv6.len
          have N19 : News (ghostOf s1.heap [(110, 106)]) L' h18 ((D6, ({ cls := .type "tuple", data := .seq vs6.toArray k6 } : Obj)) :: (Dw, listO vsw kw) :: TL) := N18
          clear N18
          k_steps
          refine (SrcGo.of [(D6, ({ cls := .type "tuple", data := .seq vs6.toArray k6 } : Obj))] (src_tup rfl N19 (.head _)) (by show vs6.toArray.size ≤ 16777216; rw [List.size_toArray]; omega) F18 N19 (fun p hp => by rw [List.mem_singleton.mp hp]; exact .head _) (fun g8 => ?_))
          refine rest_indL ((D6, ({ cls := .type "tuple", data := .seq vs6.toArray k6 } : Obj)) :: (Dw, listO vsw kw) :: TL) (fun i ys6 => StrsAre ys6 (((fl.map fun x => x.map (·.toNat)).take i).map str)) .nil ?_ ?_
          · clear F18 N19
            intro LD hLD i v ys6 I oI C oC2 D m₂ h5 k5 E' hi hv5 hys6 hC hx F N off ne
            have hv3 : vs6[i]? = some v := by simpa using hv5
            refine BytAt.casesOn (hv6.getR hv3) fun x t hve hx6 => ?_
            rw [hve] at hx
            have hxl := hfl x (List.mem_of_getElem? hx6)
            k_steps
            refine unhold (con_keep (c_plain _ _ _ _ (by rw [List.size_toArray]; have := hxl.2.1; omega)) K' F (by assumption) T' _ N (fun _ h => nomatch h) (fun _ _ _ _ _ h => nomatch h) rfl (by ktr_room) (by ktr_units) ?_)
            refine fun v mach' h8 k8 hr => OStr.casesOn hr fun t8 F8 N8 _ => ?_
            exact CompEnd.intro F8 N8 ((D6, ({ cls := .type "tuple", data := .seq vs6.toArray k6 } : Obj)) :: (Dw, listO vsw kw) :: TL) (fun _ h => h) off (fun p hp => by rw [List.mem_singleton.mp hp]; exact .head _) (.of hLD (strs_take (by rw [List.getElem?_map, hx6]; rfl) hys6))
          · clear F18 N19
            intro ys6 hys6 D7 h20 k20 F N od7
            rw [List.take_of_length_le (by rw [List.length_map, List.size_toArray, hl6]; exact Nat.le_refl _)] at hys6
            have hyl : ys.length = 15 := (ints_len hys).trans hdl
            k_steps
            refine unhold (comp_E F (by with_unfolding_all rfl) (by decide) (by rfl) (by decide) (by rfl) ?_)
            k_steps
            refine (SrcGo.of [(D1, listO ys kd)] (src_list rfl N ((.tail _ (.tail _ (.tail _ mD1))))) (by show ys.toArray.size ≤ 16777216; rw [List.size_toArray]; omega) F N (fun p hp => by rw [List.mem_singleton.mp hp]; exact (.tail _ (.tail _ (.tail _ mD1)))) (fun g9 => ?_))
            refine rest_indL ((D7, lst ys6) :: (D6, ({ cls := .type "tuple", data := .seq vs6.toArray k6 } : Obj)) :: (Dw, listO vsw kw) :: TL) (fun i ys7 => IntsAre ys7 ((ds.map fun d => d.fmod 2).take i)) .nil ?_ ?_
            · clear F N
              intro LD hLD i v ys7 I oI C oC2 D m₂ h5 k5 E' hi hv5 hys7 hC hx F N off ne
              have hv3 : ys[i]? = some v := by simpa using hv5
              refine IntAt.casesOn (ints_atR (i := i) hys (by rw [hdl]; rw [List.size_toArray] at hi; omega)) fun n1 t1 e1 e2 => ?_
              have hv4 : v = .int n1 t1 := Option.some.inj (hv3.symm.trans e1)
              rw [hv4] at hx
              k_steps
              exact CompEnd.intro F N ((D7, lst ys6) :: (D6, ({ cls := .type "tuple", data := .seq vs6.toArray k6 } : Obj)) :: (Dw, listO vsw kw) :: TL) (fun _ h => h) off (fun p hp => by rw [List.mem_singleton.mp hp]; exact (.tail _ (.tail _ (.tail _ mD1)))) (.of hLD (ints_next (by rw [List.getElem?_map, e2]; rfl) hys7))
            · clear F N
              intro ys7 hys7 D8 h21 k21 F N od8
              rw [List.take_of_length_le (by rw [List.length_map, List.size_toArray, hdl, hyl]; exact Nat.le_refl _)] at hys7
              k_steps
              refine unhold (con_keep1 (c_last _ _ D8 ys7 _ _ hys7 (by rw [List.length_map]; exact hdl)) K' F (by assumption) T' _ N (fun _ _ _ h => by cases h; exact .head _) rfl (by ktr_room) (by ktr_units) ?_)
              refine fun v mach' h22 k22 hr => OInt.casesOn hr fun t22 F22 N22 _ => ?_
              have N23 : News (ghostOf s1.heap [(110, 106)]) L' h22 ((D7, lst ys6) :: (D6, ({ cls := .type "tuple", data := .seq vs6.toArray k6 } : Obj)) :: (Dw, listO vsw kw) :: TL) := fun p hp => N22 p (.tail _ (.tail _ hp))
              clear F N N22
              have hpl := plain_law ds hdl
              generalize lastR 4 (rowsOf (ds.map fun d => d.fmod 2)) = la at *
              k_steps
              rename Fr _ _ _ _ => F'; rename News _ _ _ _ => N'
              refine unhold (comp_E F' (by with_unfolding_all rfl) (by decide) (by rfl) (by decide) (by rfl) ?_)
              k_steps
              refine (SrcGo.of [(D4, lst ys4)] (src_list rfl N' ((.tail _ (.tail _ (.tail _ mD4))))) (by show ys4.toArray.size ≤ 16777216; rw [List.size_toArray]; omega) F' N' (fun p hp => by rw [List.mem_singleton.mp hp]; exact (.tail _ (.tail _ (.tail _ mD4)))) (fun g10 => ?_))
              refine rest_indL ((D7, lst ys6) :: (D6, ({ cls := .type "tuple", data := .seq vs6.toArray k6 } : Obj)) :: (Dw, listO vsw kw) :: TL) (fun i ys8 => StrsAre ys8 ((((own (evn ds) 15).map wordOf).take i).map str)) .nil ?_ ?_
              · clear F' N'
                intro LD hLD i v ys8 I oI C oC2 D m₂ h5 k5 E' hi hv5 hys8 hC hx F N off ne
                have hv3 : ys4[i]? = some v := by simpa using hv5
                have hi2 : i < (evens ds).length := by rw [List.size_toArray] at hi; omega
                refine IntAt.casesOn (ints_atR (i := i) hys4 (by rw [idx_len]; exact hi2)) fun n0 t0 e1 e2 => ?_
                refine IdxAt.casesOn (idx_atR e2) fun k hk hkn hk15 => ?_
                have hv4 : v = .int (k : Int) t0 := hkn ▸ Option.some.inj (hv3.symm.trans e1)
                rw [hv4] at hx
                obtain ⟨t2, e3⟩ := codes_get hy2 hk15
                have hlc := (codeB_lets _ (cell_good hk15)).2.1
                k_steps
                refine unhold (q_item N ((.tail _ (.tail _ (.tail _ (.tail _ (.tail _ (.tail _ mD2))))))) (by omega) (by omega) (x := .bytes (codeB (cells.getD k (0, 0, 0))).toArray t2) (by rw [Int.toNat_natCast]; exact e3) ?_)
                k_steps
                refine unhold (con_keep (c_plain _ _ _ _ (by rw [List.size_toArray]; omega)) K' F (by assumption) T' _ N (fun _ h => nomatch h) (fun _ _ _ _ _ h => nomatch h) rfl (by ktr_room) (by ktr_units) ?_)
                refine fun v mach' h8 k8 hr => OStr.casesOn hr fun t8 F8 N8 _ => ?_
                refine CompEnd.intro F8 N8 ((D7, lst ys6) :: (D6, ({ cls := .type "tuple", data := .seq vs6.toArray k6 } : Obj)) :: (Dw, listO vsw kw) :: TL) (fun _ h => h) off (fun p hp => by rw [List.mem_singleton.mp hp]; exact (.tail _ (.tail _ (.tail _ mD4)))) (.of hLD ?_)
                rw [own_words ds hk]
                exact strs_snoc hys8
              · clear F' N'
                intro ys8 hys8 D9 h23 k23 F N od9
                rw [List.take_of_length_le (by rw [List.length_map, List.size_toArray, hil]; unfold own evens; rw [List.length_map]; exact Nat.le_refl _)] at hys8
                k_steps
                refine unhold (q_eq_strs N ((.tail _ (.tail _ (.tail _ (.head _))))) (.head _) hsw hys8 (by ktr_units) ?_)
                k_steps
                refine unhold (comp_E F (by with_unfolding_all rfl) (by decide) (by rfl) (by decide) (by rfl) ?_)
                k_steps
                have hl3 := hys3.len
                refine (SrcGo.of [(D3, lst ys3)] (src_list rfl N ((.tail _ (.tail _ (.tail _ (.tail _ mD3)))))) (by show ys3.toArray.size ≤ 16777216; rw [List.size_toArray]; omega) F N (fun p hp => by rw [List.mem_singleton.mp hp]; exact (.tail _ (.tail _ (.tail _ (.tail _ mD3))))) (fun g11 => ?_))
                refine rest_indL ((D9, lst ys8) :: (D7, lst ys6) :: (D6, ({ cls := .type "tuple", data := .seq vs6.toArray k6 } : Obj)) :: (Dw, listO vsw kw) :: TL) (fun i ys9 => StrsAre ys9 (((fl.map fun x => x.map (·.toNat)).take i).map str)) .nil ?_ ?_
                · clear F N
                  intro LD hLD i v ys9 I oI C oC2 D m₂ h5 k5 E' hi hv5 hys9 hC hx F N off ne
                  have hv3 : ys3[i]? = some v := by simpa using hv5
                  refine BytAt.casesOn (hys3.getR hv3) fun x t hve hx6 => ?_
                  rw [hve] at hx
                  have hxl := hfl x (List.mem_of_getElem? hx6)
                  k_steps
                  refine unhold (con_keep (c_plain _ _ _ _ (by rw [List.size_toArray]; have := hxl.2.1; omega)) K' F (by assumption) T' _ N (fun _ h => nomatch h) (fun _ _ _ _ _ h => nomatch h) rfl (by ktr_room) (by ktr_units) ?_)
                  refine fun v mach' h8 k8 hr => OStr.casesOn hr fun t8 F8 N8 _ => ?_
                  exact CompEnd.intro F8 N8 ((D9, lst ys8) :: (D7, lst ys6) :: (D6, ({ cls := .type "tuple", data := .seq vs6.toArray k6 } : Obj)) :: (Dw, listO vsw kw) :: TL) (fun _ h => h) off (fun p hp => by rw [List.mem_singleton.mp hp]; exact (.tail _ (.tail _ (.tail _ (.tail _ mD3))))) (.of hLD (strs_take (by rw [List.getElem?_map, hx6]; rfl) hys9))
                · clear F N
                  intro ys9 hys9 D10 h24 k24 F N od10
                  rw [List.take_of_length_le (by rw [List.length_map, List.size_toArray, hl3]; exact Nat.le_refl _)] at hys9
                  k_steps
                  refine unhold (q_eq_strs N (.tail _ (.tail _ (.head _))) (.head _) hys6 hys9 (by ktr_units) ?_)
                  have N25 : News (ghostOf s1.heap [(110, 106)]) L' h24 ((106, tabObj tps) :: (D7, lst ys6) :: (Dw, listO vsw kw) :: M.led _ ((spells ds).flatten.length : Nat) tp' (lineAt (spells ds).flatten (spells ds).flatten.length) tl' [] 0) := fun p hp => N p (by
                    rcases List.mem_cons.mp hp with rfl | hp
                    · exact .tail _ (.tail _ (.tail _ (.tail _ (.tail _ m106))))
                    rcases List.mem_cons.mp hp with rfl | hp
                    · exact .tail _ (.tail _ (.head _))
                    · rcases List.mem_cons.mp hp with rfl | hp
                      · exact .tail _ (.tail _ (.tail _ (.tail _ (.head _))))
                      · exact .tail _ (.tail _ (.tail _ (.tail _ (.tail _ (mled _ hp))))))
                  clear N
                  dsimp only [Mac.led] at N25
                  have hla : lineAt (spells ds).flatten (spells ds).flatten.length = 1 + (((spells ds).flatten.count 10 : Nat) : Int) := by unfold lineAt; rw [List.take_length]
                  have hgd : ∀ p x, x ∈ own p 15 → Good x := fun p x hx => good_cells x (own_good p 15 (Nat.le_refl _) x hx)
                  have hs7 : StrsAre ys6 (((own (odd ds) 15).map wordOf).map str) := by
                    have e7 : fl.map (fun x => x.map (·.toNat)) = (own (odd ds) 15).map wordOf := by
                      rw [← hflg, List.map_map]; rfl
                    rw [← e7]; exact hys6
                  have hf7 : M.Free D7 := free_off fun z hz => Ne.symm (off1_mem od7 z (.tail _ (.tail _ (mled _ hz))))
                  have h106 : @LT.lt Nat _ 106 M.ct := Nat.lt_trans (hold14 (106, tabObj #[]) (by (repeat (first | exact List.Mem.head _ | refine List.Mem.tail _ ?_)))) hLM
                  have hf6 : M.Free 106 := free_lt O h106
                  have h6w : @Ne Nat 106 Dw := by
                    have O' : M.Ord := O
                    unfold Mac.Ord at O'
                    have hMD' : @LT.lt Nat _ M.pb Dw := hMD
                    omega
                  have h67 : @Ne Nat 106 D7 := off1_mem od7 (106, tabObj tps) (.tail _ (.tail _ m106))
                  have h7w : @Ne Nat Dw D7 := off1_mem od7 (Dw, listO vsw kw) (.tail _ (.head _))
                  k_steps
                  refine unhold (SC.count ?_)
                  rw [show Txt.count (str (spells ds).flatten) (Str.ofString "\n") = (((spells ds).flatten.count 10 : Nat) : Int) from congrArg (fun n : Nat => (n : Int)) (count_nl _)]
                  walk1
                  rw [hla]
                  walk1
                  rw [beq_self_eq_true]
                  k_steps
                  · have N27 : News (ghostOf s1.heap [(110, 106)]) L' h24 ((106, tabObj tps) :: (D7, lst ys6) :: (Dw, listO vsw kw) :: M.led _ ((spells ds).flatten.length : Nat) tp' (lineAt (spells ds).flatten (spells ds).flatten.length) tl' [] 0) := N25
                    refine unhold (con_use (c_joined _ M _ (spells ds).flatten (by omega) (text_small ds) O RS tp' tl' 0 Dw vsw kw (own (evn ds) 15) hsw (hgd _) (own_len _ _) (free_gt O hMD)) K' F (by assumption) T' _ [(106, tabObj tps), (D7, lst ys6)] N27 (fun q hq => .tail _ (.tail _ hq)) (fun q hq => by
                      rcases List.mem_cons.mp hq with rfl | hq
                      · exact .head _
                      · rw [List.mem_singleton.mp hq]; exact .tail _ (.head _)) (fun q hq h => by
                      rcases List.mem_cons.mp hq with rfl | hq
                      · rcases List.mem_cons.mp h with h | h
                        · exact h6w h
                        · exact led_off hf6 h
                      · rw [List.mem_singleton.mp hq] at h
                        rcases List.mem_cons.mp h with h | h
                        · exact h7w h.symm
                        · exact led_off hf7 h) rfl (by ktr_room) (by ktr_units) ?_)
                    refine fun v mach' h26 k26 hr => OJoin.casesOn hr fun tp2 tl2 n2 F26 N26 _ _ => ?_
                    clear F N27
                    rw [hpl.1]
                    k_steps
                    refine unhold (con_use (c_joined _ M _ (spells ds).flatten (by omega) (text_small ds) O RS tp2 tl2 n2 D7 ys6 _ (own (odd ds) 15) hs7 (hgd _) (own_len _ _) hf7) K' F26 (by assumption) T' _ [(106, tabObj tps)] N26 (fun q hq => by
                      rcases List.mem_cons.mp hq with rfl | hq
                      · exact List.mem_append_right _ (.tail _ (.head _))
                      · exact List.mem_append_left _ hq) (fun q hq => by rw [List.mem_singleton.mp hq]; exact List.mem_append_right _ (.head _)) (fun q hq h => by
                      rw [List.mem_singleton.mp hq] at h
                      rcases List.mem_cons.mp h with h | h
                      · exact h67 h
                      · exact led_off hf6 h) rfl (by ktr_room) (by ktr_units) ?_)
                    refine fun v mach' h28 k28 hr => OJoin.casesOn hr fun tp3 tl3 n3 F28 N28 _ _ => ?_
                    clear F26 N26
                    rw [hpl.2]
                    k_steps
                    rename Fr _ _ _ _ => F'; rename News _ _ _ _ => N'
                    refine unhold (q_eq_same (vs := [.bool (decide (la = 0)), .bool (decide (la = 1))]) N' (.tail _ (.head _)) (.head _) (by ktr_units) ?_)
                    k_steps
                    refine hz _ _ ?_
                    k_steps
end
end Mine
theorem PySem.Challenge.cw_sn0010_01_holds : PySem.Challenge.rw_sn0010_01.Holds :=
  Mine.law_holds
