import PyProof.Rows.All
import Wide.All
import OpenK.AllK
import Wide.FinOn
import PySem.Challenge.RW_ez0219_02
set_option Elab.async false
set_option rowWalk.seconds 0
section
open PySem PySem.W PyProof.Rows
namespace Mine
theorem runs_toks {M : Model} {Γ : Ctx} {p : Pos} {t : Sem Fin} {fs : List Frame} {s : Shared} {e : End} {s' : Shared} (h : Runs M Γ p t fs s e s') : s.toks ≤ s'.toks := by
  induction h with
  | done | raise | yield => exact Nat.le_refl _
  | fresh _ ih => exact Nat.le_trans (Nat.le_succ _) ih
  | again _ _ ih | rule _ ih | «at» _ ih | load _ _ ih | update _ _ ih | loadIfAlive _ ih | point _ ih | alloc _ ih | ask _ ih | choose _ _ ih | os _ ih | handled _ ih | genState _ _ ih | stack _ ih | thread _ ih | newGen _ ih => exact ih
  | callSusp _ ih => exact ih
  | call _ _ ih1 ih2 => exact Nat.le_trans ih1 ih2
  | resumeFresh _ _ _ _ ih1 ih2 => exact Nat.le_trans ih1 ih2
  | resumeSuspended _ _ _ _ ih1 ih2 => exact Nat.le_trans ih1 ih2
  | resumeJustStarted _ _ _ ih | resumeThrowFresh _ _ ih | resumeRunning _ _ ih | resumeFinished _ _ ih => exact ih
  | segRet _ _ ih1 ih2 => exact Nat.le_trans ih1 ih2
  | segGen _ _ ih1 ih2 => exact Nat.le_trans ih1 ih2
  | segSuspOut _ _ ih => exact ih
  | segSuspGen _ _ _ _ ih1 ih2 => exact Nat.le_trans ih1 ih2

theorem wakes_toks {M : Model} {Γ : Ctx} {p : Pos} {g : Nat} {r : Resume} {s : Shared} {res : GenResult} {s' : Shared} (h : Wakes M Γ p g r s res s') : s.toks ≤ s'.toks := by
  unfold Wakes at h
  repeat' split at h
  all_goals first
    | (obtain ⟨e₁, s₁, h₁, hq, hr, hs⟩ := h; have := runs_toks h₁; rw [hs]; exact this)
    | (obtain ⟨rfl, rfl⟩ := h; exact Nat.le_refl _)
    | exact h.elim

theorem wp_toks {α : Type} (M : Model) (Γ : Ctx) (t : Sem α) (Q : α → Pos → Shared → Prop) (E : Value → Pos → Shared → Prop) (p : Pos) (s : Shared) (n : Nat) (hn : n ≤ s.toks)
    (h : Sem.wp M Γ t (fun a p s' => n ≤ s'.toks → Q a p s') (fun e p s' => n ≤ s'.toks → E e p s') p s) : Sem.wp M Γ t Q E p s := by
  induction t generalizing p s with
  | pure x => exact h hn
  | raise v => exact h hn
  | unsupported | finish | yield | fork | await | register => exact h
  | rule _ k ih | «at» _ k ih | alloc _ k ih | loadIfAlive _ k ih | point _ k ih | ask k ih | os _ _ k ih | handled _ k ih | newGen _ k ih | stack k ih | thread k ih => exact ih _ _ _ hn h
  | fresh k ih => exact ih _ _ _ (Nat.le_succ_of_le hn) h
  | load a _ k ih | genState a k ih => exact let ⟨o, ho, h⟩ := h; ⟨o, ho, ih _ _ _ hn h⟩
  | update a _ f k ih | choose _ _ k ih => exact let ⟨ha, h⟩ := h; ⟨ha, ih _ _ _ hn h⟩
  | call c hd g l k ih => exact let ⟨r, s', hr, h⟩ := h; ⟨r, s', hr, ih _ _ _ (Nat.le_trans hn (runs_toks hr)) h⟩
  | resume g r l k ih => exact let ⟨res, s', hw, h⟩ := h; ⟨res, s', hw, ih _ _ _ (Nat.le_trans hn (wakes_toks hw)) h⟩

theorem wpAny_tok {α : Type} {M : Model} {A : Around} {t : Sem α} {Q : α → Shared → Prop} {E : Value → Shared → Prop} {s : Shared}
    (h : wpAny M A t (fun a s' => s.toks ≤ s'.toks → Q a s') (fun e s' => s.toks ≤ s'.toks → E e s') s) : wpAny M A t Q E s :=
  fun Γ p hΓ => wp_toks M Γ t _ _ p s s.toks (Nat.le_refl _) (h Γ p hΓ)

open Builtin Builtin.Str in
theorem replace_len_eq (x y z : Str) : (Txt.replace x y z).length = x.length ∨ ∃ n ≤ x.length + 1, x.length = (Txt.replace x y y).length ∧ (∃ b, (Txt.replace x y z).length = b + n * z.length ∧ x.length = b + n * y.length) := by
  unfold Txt.replace
  split
  · exact .inl rfl
  · refine .inr ⟨(occurrences x y 0 x.length (x.length + 1)).length, StrLaws.occ_length_le x y 0 x.length (x.length + 1), ?_, ?_⟩
    · have := Txt.replace_self x y
      unfold Txt.replace at this
      split
      · rfl
      · rw [StrLaws.glued_between_self]
    · have hy : (glued y (partsBetween x (occurrences x y 0 x.length (x.length + 1)) y.length)).length = x.length := by rw [StrLaws.glued_between_self]
      rw [size_glued, length_partsBetween, Nat.add_sub_cancel] at hy
      rw [size_glued, length_partsBetween, Nat.add_sub_cancel]
      exact ⟨_, rfl, hy.symm⟩
theorem replace_len (x y z : Str) : (Txt.replace x y z).length ≤ x.length + (x.length + 1) * z.length := by
  rcases replace_len_eq x y z with h | ⟨n, hn, _, b, h1, h2⟩
  · omega
  · have : n * z.length ≤ (x.length + 1) * z.length := Nat.mul_le_mul_right _ hn
    have h3 : b ≤ x.length := by rw [h2]; exact Nat.le_add_right _ _
    omega
theorem replace_len_le (x y z : Str) (h : z.length ≤ y.length) : (Txt.replace x y z).length ≤ x.length := by
  rcases replace_len_eq x y z with h | ⟨n, hn, _, b, h1, h2⟩
  · omega
  · have : n * z.length ≤ n * y.length := Nat.mul_le_mul_left _ h
    omega

theorem gen_execs {M : Model} {A : Around} {b : List Stmt} {env : Env} {Q : Flow → Shared → Prop} {E : Value → Shared → Prop} {hp : Heap} {g : Array GenState} {d : Drawn} {o : OsState} {n : Nat}
    (hn : 0 < n) (h : ∀ k, 0 < k → wpAny M A (execs b env) Q E ⟨hp, g, d, k, o⟩) : wpAny M A (execs b env) Q E ⟨hp, g, d, n, o⟩ := h n hn
theorem execs_cons_tok {M : Model} {A : Around} {env : Env} {E : Value → Shared → Prop} {s : Shared} {st : Stmt} {rest : List Stmt} {Q : Flow → Shared → Prop}
    (h : wpAny M A (exec st env) (fun f s' => s.toks ≤ s'.toks → match f with | .next => wpAny M A (execs rest env) Q E s' | f => Q f s') E s) :
    wpAny M A (execs (st :: rest) env) Q E s :=
  wpAny_execs_cons (wpAny_tok (wpAny_mono h (fun _ _ x => x) fun _ _ x _ => x))
theorem replace_rule {prog : Program} {w : World} {A : Around} {E : Value → Shared → Prop} {s : Shared} {x y z : Str} {t u v : Tok} {Q : Value → Shared → Prop} (n : Nat)
    (hu : @LT.lt Nat _ 0 u) (huv : @LT.lt Nat _ u v) (hx : x.length ≤ 1048576) (hyz : (y == z) = false) (hn : z.length = n) (hz : n ≤ 14)
    (hq : ∀ (t' k : Nat), s.toks ≤ k → (Txt.replace x y z).length ≤ x.length + (x.length + 1) * n → Q (.str (Txt.replace x y z) t') { s with toks := k }) : wpAny (model prog w) A (call (.builtin "str.replace") [.str x t, .str y u, .str z v]) Q E s := by
  subst hn
  exact wpAny_tok (SC.replaceW (Nat.ne_of_gt hu) (Nat.ne_of_gt (Nat.lt_trans hu huv)) (Nat.ne_of_lt huv) hyz hx hz fun t' k hk => hq t' k hk (replace_len x y z))

section
variable {prog : Program} {w : World} {A A₀ : Around} {s : Shared} {base h₀ : Heap} {outer : List Env} {L : Addr} {m mg mb : Str → Option Value} {env : Env} {news : List (Addr × Obj)} {K : Frag} {p : Program} {loose : List Str} {mean : ExcName → Option Value}
  {R : Result → Shared → Prop} {name qual : Str} {params : Arguments} {body : List Stmt} {scope : Scope} {dV kV doc pm cdv ct oc : Value} {an od : Option Addr} {osl : Array (Option Value)} {f : Addr} {args : Args} {binds : List (Str × Value)}
/-- a call of a def that has cells: the body begins with no fewer tokens than the call -/
theorem enter_cells (B : Below A₀ base outer h₀) (F : Fr h₀ L s.heap m) (X : K.In h₀) (N : News h₀ L s.heap news) (T : Top p loose mean mg mb h₀) (hA : A.frames = some (env :: outer)) (hf : env.frame = some L) (hke : env.scope.kind = .function)
    (ho : List.lookup f K = some ⟨oc, od, .func (fnOf name qual params body scope dV kV doc pm an cdv ct), osl⟩) (hcd : codeIn K cdv qual = true) (hroom : A.depth < recursionLimit)
    (hbind : BindsTo s (fnOf name qual params body scope dV kV doc pm an cdv ct) args binds) (hkind : (binds.all fun y => scope.names.lookup y.1 == some .local || scope.names.lookup y.1 == some .cell) = true)
    (hnd : ((cellsFrom 0 scope.names []).map (·.1)).Nodup)
    (h : ∀ g L' h₁ tk cells, g = hideAll s.heap (news.map (·.1)) → s.toks ≤ tk → Fr h₀ L g m → Fr g L' h₁ (bindL (envOfC qual scope L' f cdv).kindOf binds fun _ => none) → News g L' h₁ (cells ++ news) →
      CellsAre (bindC (envOfC qual scope L' f cdv).kindOf binds fun _ => none) (cellsFrom (L' + 1) scope.names []) cells → Below A base (env :: outer) g → K.In g → Top p loose mean mg mb g → (∀ q ∈ news, q.1 < L') →
      wpAny (model prog w) (A.deeper (envOfC qual scope L' f cdv)) (execs body (envOfC qual scope L' f cdv))
        (fun fl s' => LeaveK h₀ L m g R (match fl with | .ret v => v | _ => .none) s')
        (fun e s' => wpAny (model prog w) (A.deeper (envOfC qual scope L' f cdv)) (leaving (envOfC qual scope L' f cdv) e) (fun _ s'' => R (.error e) s'') (fun e' s'' => R (.error e') s'') s')
        { s with heap := h₁, toks := tk })
    (hco : scope.isCoroutine = false) (hgen : scope.isGenerator = false) (hk : scope.kind = .function) : codeAny (model prog w) A (.call (.ref f) args) R s := by
  obtain ⟨FG, BG, st, back⟩ := groundX (R := R) B F N hA hf hke
  refine codeAny_call_function hroom ((X.keeps F.keep) _ _ ho) rfl hco hgen rfl (codeRec_of (X.keeps F.keep) hcd) (hbind _ _ _ _ (wpAny_tok ?_))
  refine wpAny_newFunctionEnv_cells hk (kindsX hkind _) fun env' he s' made htok => ?_
  subst he
  refine ⟨(T.nolimit.keeps F.keep).keeps made.toInCall.keep, codeAny_func ?_⟩
  obtain ⟨h₁, tk, rfl, _⟩ := made.done
  have kept := made.toInCall.keep
  obtain ⟨cells, NC, Y⟩ := Cl.news (h₀ := s.heap) (Nat.le_refl _) fun n c hm => ⟨made.cell n c (lookup_of_mem_nodup (cellsFrom_names scope.names 0 (s.heap.objs.size + 1) [] [] rfl ▸ hnd) hm), made.above n c hm⟩
  have Fb : Fr (hideAll s.heap (news.map (·.1))) s.heap.objs.size h₁ _ := ⟨made.toInCall.ns, fun b o e => kept b o (of_hideAll _ e), Nat.le_of_eq (hideAll_size _ _)⟩
  have Nb : News (hideAll s.heap (news.map (·.1))) s.heap.objs.size h₁ (cells ++ news) := by
    intro q hq
    rcases List.mem_append.mp hq with hq | hq
    · refine ⟨(NC q hq).1, (NC q hq).2.1, ?_⟩
      cases e : (hideAll s.heap (news.map (·.1))).get? q.1 with
      | none => rfl
      | some o => have := of_hideAll _ e; rw [(NC q hq).2.2] at this; cases this
    · exact ⟨kept _ _ (N q hq).1, Nat.ne_of_lt (Heap.lt_size (N q hq).1), hideAll_none _ (List.mem_map_of_mem hq)⟩
  exact wpAny_mono (h _ _ h₁ tk cells rfl htok FG Fb Nb Y BG (X.keeps st) (T.keeps st) fun q hq => Heap.lt_size (N q hq).1) (fun fl s' hl => back _ _ hl) fun _ _ y => y

/-- the same, the caller's own objects left in the ground: they are kept by the body's frame -/
theorem enter0 (B : Below A₀ base outer h₀) (F : Fr h₀ L s.heap m) (X : K.In h₀) (T : Top p loose mean mg mb h₀) (hA : A.frames = some (env :: outer)) (hf : env.frame = some L) (hke : env.scope.kind = .function)
    (ho : List.lookup f K = some ⟨oc, od, .func (fnOf name qual params body scope dV kV doc pm an cdv ct), osl⟩) (hcd : codeIn K cdv qual = true) (hroom : A.depth < recursionLimit)
    (hbind : BindsTo s (fnOf name qual params body scope dV kV doc pm an cdv ct) args binds) (hkind : (binds.all fun y => scope.names.lookup y.1 == some .local || scope.names.lookup y.1 == some .cell) = true)
    (hnd : ((cellsFrom 0 scope.names []).map (·.1)).Nodup)
    (h : ∀ g L' h₁ tk cells, g = s.heap → s.toks ≤ tk → Fr g L' h₁ (bindL (envOfC qual scope L' f cdv).kindOf binds fun _ => none) → News g L' h₁ cells →
      CellsAre (bindC (envOfC qual scope L' f cdv).kindOf binds fun _ => none) (cellsFrom (L' + 1) scope.names []) cells → Below A base (env :: outer) g → K.In g → Top p loose mean mg mb g →
      wpAny (model prog w) (A.deeper (envOfC qual scope L' f cdv)) (execs body (envOfC qual scope L' f cdv))
        (fun fl s' => LeaveK h₀ L m g R (match fl with | .ret v => v | _ => .none) s')
        (fun e s' => wpAny (model prog w) (A.deeper (envOfC qual scope L' f cdv)) (leaving (envOfC qual scope L' f cdv) e) (fun _ s'' => R (.error e) s'') (fun e' s'' => R (.error e') s'') s')
        { s with heap := h₁, toks := tk })
    (hco : scope.isCoroutine = false) (hgen : scope.isGenerator = false) (hk : scope.kind = .function) : codeAny (model prog w) A (.call (.ref f) args) R s :=
  enter_cells (news := []) B F X News.nil T hA hf hke ho hcd hroom hbind hkind hnd (fun g L' h₁ tk cells e1 e2 _ F' N' Y B' X' T' _ => h g L' h₁ tk cells e1 e2 F' (by rw [List.append_nil] at N'; exact N') Y B' X' T') hco hgen hk
end

theorem replace_ruleS {prog : Program} {w : World} {A : Around} {E : Value → Shared → Prop} {s : Shared} {x y z : Str} {t u v : Tok} {Q : Value → Shared → Prop}
    (hu : @LT.lt Nat _ 0 u) (huv : @LT.lt Nat _ u v) (hx : x.length ≤ 1048576) (hyz : (y == z) = false) (hn : z.length ≤ y.length) (hz : z.length ≤ 14)
    (hq : ∀ (t' k : Nat), s.toks ≤ k → (Txt.replace x y z).length ≤ x.length → Q (.str (Txt.replace x y z) t') { s with toks := k }) : wpAny (model prog w) A (call (.builtin "str.replace") [.str x t, .str y u, .str z v]) Q E s :=
  wpAny_tok (SC.replaceW (Nat.ne_of_gt hu) (Nat.ne_of_gt (Nat.lt_trans hu huv)) (Nat.ne_of_lt huv) hyz hx hz fun t' k hk => hq t' k hk (replace_len_le x y z hn))
end Mine
end
section
open PySem PySem.W PyProof.Rows
namespace Mine
def Hold (P : Prop) : Prop := P
theorem Hold.intro {P : Prop} (h : Hold P) : P := h

/-- a text of small signs and of a bounded length -/
structure Small (x : Str) : Prop where
  len : x.length ≤ 100000
  asc : ∀ c ∈ x.cps.toList, c < 128

theorem repr_len {x : Str} (h : Small x) : (reprText x).length ≤ 1000002 := by
  have h1 := StrLaws.reprText_len x (fun c hc => Nat.lt_of_lt_of_le (h.asc c hc) (by decide))
  have := h.len
  omega

theorem repr_rule {prog : Program} {w : World} {A : Around} {E : Value → Shared → Prop} {s : Shared} {x : Str} {t : Tok} {Q : Value → Shared → Prop} (hx : Small x)
    (h : ∀ y : Str, y.length ≤ 1000002 → Q (.str y s.toks) { s with toks := s.toks + 1 }) : wpAny (model prog w) A (pyReprObj (.str x t)) Q E s :=
  pyReprObj_str (h _ (repr_len hx)) (by have := repr_len hx; rw [sizeLine_eq]; omega)

theorem words_len (x : Str) : (Txt.words x).length ≤ x.length + 1 := by
  have h := StrLaws.words_weight x
  omega
theorem split_rule {prog : Program} {w : World} {A : Around} {E : Value → Shared → Prop} {s : Shared} {h₀ : Heap} {L : Addr} {m : Str → Option Value} {news : List (Addr × Obj)} {x : Str} {t : Tok} {Q : Value → Shared → Prop}
    (F : Fr h₀ L s.heap m) (N : News h₀ L s.heap news) (hsz : x.length ≤ 1048576)
    (h : ∀ (D : Addr) (vs : List Value) (h' : Heap) (k : Nat), StrsAre vs (Txt.words x) → (Txt.words x).length ≤ x.length + 1 → s.toks ≤ k → Fr h₀ L h' m → News h₀ L h' ((D, listOf vs.toArray 0) :: news) → (∀ p ∈ news, p.1 < D) → Q (.ref D) { s with heap := h', toks := k }) :
    wpAny (model prog w) A (call (.builtin "str.split") [.str x t]) Q E s :=
  wpAny_tok (KSpl.split0 F N (fun D l h' k e a F' N' hl hk => h D _ h' k (e ▸ a) (words_len x) hk F' N' hl) (by rw [sizeLine_eq]; omega))
end Mine
end
section
open PySem PySem.W PyProof.Rows PySem.Calls
namespace Mine
section
variable {prog : Program} {w : World} {A : Around} {E : Value → Shared → Prop} {s : Shared} {name : Str} {scope : Scope} {L a : Addr} {cd : Value} {h₀ : Heap} {m mg mb : Str → Option Value} {K : Frag} {p : Program} {loose : List Str}
  {x : Str} {C : Addr} {B newId initId : String} {bm : List Value} {np cpos pos : Pos} {Q : Flow → Shared → Prop}
/-- raise X(..) of an own class, in a def that has cells -/
theorem raise_C {e₀ : Expr} {rest : List Expr} (F : Fr h₀ L s.heap m) (X : K.In h₀) (T : TopRead p loose mg mb h₀) (ey : nsIn K mainGlobals x = some (some (.ref C))) (q : excIn K C bm newId = true) (FB : ExcBaseFacts B newId initId bm) (hh : A.handled = none)
    (h : wpAny (model prog w) A (spliced (backTo cpos (starEach (e₀ :: rest) (envOfC name scope L a cd)))) (fun vs s₂ => vs.length ≤ sizeLine ∧ (∀ b o, h₀.get? b = some o → s₂.heap.get? b = some o) ∧
      ∀ h' e, Heap.MadeExcOf s₂.heap h' e (.ref C) vs → E (.ref e) { s₂ with heap := h' }) E s)
    (he : starEach (e₀ :: rest) (envOfC name scope L a cd) = (false, eval e₀ (envOfC name scope L a cd)) :: starEach rest (envOfC name scope L a cd) := by rfl)
    (hplain : (backTo cpos (starEach rest (envOfC name scope L a cd))).any (·.1) = false := by rfl)
    (hk : scope.kind = .function := by rfl) (hx : (envOfC name scope L a cd).kindOf x = some .globalImplicit := by rfl) (hd : (x == ("__debug__" : Str)) = false := by decide) :
    wpAny (model prog w) A (exec (.Raise (some (.Call (.Name x np) (e₀ :: rest) [] cpos)) none pos) (envOfC name scope L a cd)) Q E s := by
  obtain ⟨tl, N, nm, q', bs, hdct, sn, sub, ab, col, dd, k0, k1, k2, k3, k5, mN, hC, hN, hni, TL⟩ := (own_of_in X T ey q).obj
  refine wpAny_Raise_call_subT (C := C) (nm := nm) (q := q') (N := N) (bs := bs) (bm := tl) (hdct := hdct) (sn := sn) (sub := sub) (ab := ab) (col := col) (dd := dd) (k0 := k0) (k1 := k1) (k2 := k2) (k3 := k3) (k5 := k5)
    FB (mN := mN) (TL.hasType FB.hasBase) hh (by rw [he]; show (false || (backTo cpos (starEach rest (envOfC name scope L a cd))).any (·.1)) = false; rw [hplain]; rfl) hni
    (nameX_K (cl := cellsFrom (L + 1) scope.names []) F X T ey ⟨rfl, ?_⟩ hk hx hd)
  rw [he] at h ⊢
  exact Calls.evalArgs_plain (wpAny_mono h (fun vs s₂ h₂ => ⟨rfl, h₂.1, h₂.2.1 _ _ hC, hN.keeps h₂.2.1, TL.keeps h₂.2.1, h₂.2.2⟩) fun _ _ y => y)
end

section
variable {M : Model} {A A₀ : Around} {E : Value → Shared → Prop} {s' : Shared} {base g g₂ h h₀ : Heap} {outer : List Env} {L L₀ a e t : Addr} {m m₀ : Str → Option Value} {env : Env} {Q : Unit → Shared → Prop} {news nl : List (Addr × Obj)}
/-- a made exception leaves a def's frame; all that the ground holds, but the frames' slots, stands as it stood -/
theorem leave_raiseX {cls : Value} {vs : List Value} (K : Below A base outer g) (hx : Heap.MadeExcOf h s'.heap e cls vs) (F : Fr g L h m) (hf : env.frame = some L) (hk : env.scope.kind = .function)
    (hQ : ∀ h' t, RaisedS base g outer e cls t vs [] h' → g.UpToSlots h' → Q () { s' with heap := h' }) :
    wpAny M (A.deeper env) (leaving env (.ref e)) Q E s' := by
  have K' := pushX K F hf hk
  have hin : ∀ env' ∈ (env :: outer), ∀ b, env'.frame = some b → b ∈ (env :: outer).filterMap (·.frame) := fun env' he b hb => List.mem_filterMap.mpr ⟨env', he, hb⟩
  have st : base.StaysIn (hideAll h ((env :: outer).filterMap (·.frame))) := fun b o q => hideAll_get _ (K'.stays b o q) fun hm => by
    rw [(K'.frames.mem hm).1] at q; cases q
  have sg : ∀ b o, g.get? b = some o → b ∉ outer.filterMap (·.frame) → (hideAll h ((env :: outer).filterMap (·.frame))).get? b = some o := fun b o q nm => hideAll_get _ (F.keep b o q) fun hm => by
    obtain ⟨env', he, hf'⟩ := List.mem_filterMap.mp hm
    rcases List.mem_cons.mp he with rfl | he
    · have e : b = L := (Option.some.inj (hf.symm.trans hf')).symm
      rw [e, kts_self F] at q
      cases q
    · exact nm (List.mem_filterMap.mpr ⟨env', he, hf'⟩)
  exact wpAny_leaves_madeW K'.stack hf (fun b o q => of_hideAll _ q) (funFrames_hide K'.frames hin) hx fun h' t x1 x2 x3 x4 =>
    hQ h' t ⟨⟨_, st, sg, (fun q hq => nomatch hq), x1, x3⟩, x2⟩ (((Heap.UpToSlots.of_keeps F.keep).trans (Heap.UpToSlots.of_keeps hx.keeps)).trans x4)
end
end Mine
end
section
open PySem PySem.W PyProof.Rows PySem.Calls
namespace Mine
/-- where a turn of a loop ends -/
def Turned (h₀ : Heap) (L : Addr) (I : Addr) (o : Obj) (cst : List (Addr × Obj)) (J : (Str → Option Value) → List (Addr × Obj) → Prop) (s₁ : Shared) (Q : Flow → Shared → Prop) (f : Flow) (s₂ : Shared) : Prop :=
  match f with
  | .ret v => Q (.ret v) s₂
  | .brk => Q .next s₂
  | _ => ∃ h' tk m' nx, s₂ = { s₁ with heap := h', toks := tk } ∧ Fr h₀ L h' m' ∧ News h₀ L h' ((I, o) :: nx) ∧ (∀ q ∈ cst, q ∈ nx) ∧ (∀ q ∈ nx, q.1 ≠ I) ∧ J m' nx

section
variable {prog : Program} {w : World} {A : Around} {E : Value → Shared → Prop} {s : Shared} {env : Env} {h₀ : Heap} {x : Str} {body : List Stmt} {Q : Flow → Shared → Prop}

theorem for_walk {px : Pos} {I : Addr} {fp : List Addr} {n : Nat} {P : Nat → Value → Prop} {St : Nat → Heap → Prop} {m : Str → Option Value} {news cst : List (Addr × Obj)}
    (J : Nat → (Str → Option Value) → List (Addr × Obj) → Prop)
    (W : Walks prog w A I fp [I] n P St) (hob : ∀ i h, St i h → ∃ o, h.get? I = some o) (hx : env.kindOf x = some .local)
    (hp : (env.scope.kind == .class || (env.scope.kind == .module && env.locals != env.globals)) = false)
    (hLI : env.locals ≠ I) (hfp : ∀ b ∈ fp, b = I ∨ ∃ o, (b, o) ∈ cst) (hI : h₀.get? I = none) (hoff : ∀ q ∈ news, q.1 ≠ I) (hcst : ∀ q ∈ cst, q ∈ news)
    (hst : St 0 s.heap) (F : Fr h₀ env.locals s.heap m) (N : News h₀ env.locals s.heap news) (hpos : 0 < s.toks) (hj : J 0 m news)
    (turn : ∀ i v m₁ nx h (tk : Nat) o, i < n → P i v → 0 < tk → (∀ q ∈ cst, q ∈ nx) → (∀ q ∈ nx, q.1 ≠ I) → J i m₁ nx → Fr h₀ env.locals h (fun y => if y = x then some v else m₁ y) → News h₀ env.locals h ((I, o) :: nx) →
      wpAny (model prog w) A (execs body env) (Turned h₀ env.locals I o cst (J (i + 1)) { s with heap := h, toks := tk } Q) E { s with heap := h, toks := tk })
    (done : ∀ m₁ nx h (tk : Nat), 0 < tk → (∀ q ∈ cst, q ∈ nx) → J n m₁ nx → Fr h₀ env.locals h m₁ → News h₀ env.locals h nx → Q .next { s with heap := h, toks := tk })
    (hE : PassesOwn (model prog w) A env E) :
    codeAny (model prog w) A (.forLoop (.Name x px) (.ref I) body [] env) (fun r s' => match r with | .ok f => Q f s' | .error e => cameBackBy (model prog w) A env E e s') s := by
  refine codeAny_forLoop (R := fun r s' => match r with | .ok f => Q f s' | .error e => cameBackBy (model prog w) A env E e s')
    (fun k s' => ∃ h' tk m' nx i, s' = { s with heap := h', toks := tk } ∧ 0 < tk ∧ St i h' ∧ Fr h₀ env.locals h' m' ∧ News h₀ env.locals h' nx ∧ (∀ q ∈ cst, q ∈ nx) ∧ (∀ q ∈ nx, q.1 ≠ I) ∧ J i m' nx ∧ i ≤ n ∧ k = n + 1 - i) ?_ (n + 1)
    ⟨s.heap, s.toks, m, news, 0, rfl, hpos, hst, F, N, hcst, hoff, hj, Nat.zero_le _, rfl⟩
  rintro k s' ⟨h', tk, m', nx, i, rfl, htk, hst', F', N', hc', hoff', hJ, hi, rfl⟩
  have next : ∀ h₁ : Heap, (∀ b o, b ∉ [I] → h'.get? b = some o → h₁.get? b = some o) → Fr h₀ env.locals h₁ m' ∧ News h₀ env.locals h₁ nx := fun h₁ hk₁ =>
    ⟨⟨F'.ns.at' fun o e => hk₁ _ o (fun q => hLI (List.mem_singleton.mp q)) e, fun b o e => hk₁ b o (fun q => by rw [List.mem_singleton.mp q, hI] at e; cases e) (F'.keep b o e), F'.above⟩,
     fun q hq => ⟨hk₁ _ _ (fun z => hoff' q hq (List.mem_singleton.mp z)) (N' q hq).1, (N' q hq).2⟩⟩
  by_cases hlt : i < n
  · refine wpAny_tok (W.item i _ _ _ hlt hst' fun v h₁ tk₁ hP hst₁ hk₁ htk₁ => ?_)
    replace htk₁ : tk ≤ tk₁ := htk₁
    obtain ⟨F₁, N₁⟩ := next h₁ hk₁
    refine wpAny_assign_Name (wpAny_storeName_local hx F₁.ns (fun h₂ hn₂ hs₂ => ?_) hp)
    have F₂ := F₁.set hn₂ hs₂
    obtain ⟨o, ho⟩ := hob _ _ hst₁
    have ho₂ : h₂.get? I = some o := (hs₂.2 I (Ne.symm hLI)).trans ho
    have N₂ : News h₀ env.locals h₂ ((I, o) :: nx) := fun q hq => by
      rcases List.mem_cons.mp hq with rfl | hq
      · exact ⟨ho₂, Ne.symm hLI, hI⟩
      · exact ⟨(hs₂.2 _ (N₁ q hq).2.1).trans (N₁ q hq).1, (N₁ q hq).2⟩
    have hst₂ : St (i + 1) h₂ := W.frame _ _ _ hst₁ fun b hb o' e => by
      rcases hfp b hb with rfl | ⟨oc, hoc⟩
      · exact (hs₂.2 _ (Ne.symm hLI)).trans e
      · exact (hs₂.2 _ (N₁ _ (hc' _ hoc)).2.1).trans e
    refine wpAny_passesOwn hE (wpAny_tok (wpAny_mono (turn i v m' nx h₂ (tk₁ + 1) o hlt hP (Nat.succ_pos _) hc' hoff' hJ F₂ N₂) (fun f s₃ h₃ hle => ?_) fun _ _ e _ => e))
    replace hle : tk₁ + 1 ≤ s₃.toks := hle
    have fin : (∃ h' tk m' nx, s₃ = { s with heap := h', toks := tk } ∧ Fr h₀ env.locals h' m' ∧ News h₀ env.locals h' ((I, o) :: nx) ∧ (∀ q ∈ cst, q ∈ nx) ∧ (∀ q ∈ nx, q.1 ≠ I) ∧ J (i + 1) m' nx) →
        ∃ k, k < n + 1 - i ∧ ∃ h' tk m' nx i, s₃ = { s with heap := h', toks := tk } ∧ 0 < tk ∧ St i h' ∧ Fr h₀ env.locals h' m' ∧ News h₀ env.locals h' nx ∧ (∀ q ∈ cst, q ∈ nx) ∧ (∀ q ∈ nx, q.1 ≠ I) ∧ J i m' nx ∧ i ≤ n ∧ k = n + 1 - i := by
      rintro ⟨h₃', tk₃, m₂, nx₂, rfl, F₃, N₃, hc₃, ho₃, hJ₃⟩
      replace hle : tk₁ + 1 ≤ tk₃ := hle
      refine ⟨n + 1 - (i + 1), by omega, h₃', tk₃, m₂, nx₂, i + 1, rfl, by omega, ?_, F₃, fun q hq => N₃ q (.tail _ hq), hc₃, ho₃, hJ₃, hlt, rfl⟩
      refine W.frame _ _ _ hst₂ fun b hb o' e => ?_
      rcases hfp b hb with rfl | ⟨oc, hoc⟩
      · rw [ho₂] at e; cases e; exact (N₃ _ (.head _)).1
      · rw [(N₂ _ (.tail _ (hc' _ hoc))).1] at e; cases e; exact (N₃ _ (.tail _ (hc₃ _ hoc))).1
    cases f with
    | ret v => exact h₃
    | brk => exact h₃
    | cont => exact fin h₃
    | next => exact fin h₃
  · have hin : i = n := by omega
    subst hin
    refine wpAny_tok (W.done _ _ _ hst' fun h₁ tk₁ hk₁ htk₁ => wpAny_execs_nil ?_)
    replace htk₁ : tk ≤ tk₁ := htk₁
    obtain ⟨F₁, N₁⟩ := next h₁ hk₁
    exact done m' nx h₁ tk₁ (by omega) hc' hJ F₁ N₁

/-- a for over a list of the ledger -/
theorem for_list {px : Pos} {l : Addr} {vs : List Value} {nn : Nat} {m : Str → Option Value} {news : List (Addr × Obj)}
    (J : Nat → (Str → Option Value) → List (Addr × Obj) → Prop) (hh : A.handled = none) (hx : env.kindOf x = some .local)
    (hp : (env.scope.kind == .class || (env.scope.kind == .module && env.locals != env.globals)) = false)
    (F : Fr h₀ env.locals s.heap m) (N : News h₀ env.locals s.heap news) (hl : (l, listOf vs.toArray nn) ∈ news) (hpos : 0 < s.toks) (hj : J 0 m news)
    (turn : ∀ i v m₁ nx h (tk : Nat) I o, vs[i]? = some v → 0 < tk → (l, listOf vs.toArray nn) ∈ nx → (∀ q ∈ nx, q.1 ≠ I) → J i m₁ nx → Fr h₀ env.locals h (fun y => if y = x then some v else m₁ y) → News h₀ env.locals h ((I, o) :: nx) →
      wpAny (model prog w) A (execs body env) (Turned h₀ env.locals I o [(l, listOf vs.toArray nn)] (J (i + 1)) { s with heap := h, toks := tk } Q) E { s with heap := h, toks := tk })
    (done : ∀ m₁ nx h (tk : Nat), 0 < tk → (l, listOf vs.toArray nn) ∈ nx → J vs.length m₁ nx → Fr h₀ env.locals h m₁ → News h₀ env.locals h nx → Q .next { s with heap := h, toks := tk })
    (hE : PassesOwn (model prog w) A env E := by passes_own) :
    wpAny (model prog w) A (pyIter (.ref l)) (fun it s₂ => codeAny (model prog w) A (.forLoop (.Name x px) it body [] env) (fun r s' => match r with | .ok f => Q f s' | .error e => cameBackBy (model prog w) A env E e s') s₂) E s := by
  have hol : s.heap.get? l = some (listOf vs.toArray nn) := (N _ hl).1
  have hls : s.heap.IsList l vs.toArray := ⟨_, hol, rfl, nn, rfl⟩
  have hne : l ≠ s.heap.objs.size := Nat.ne_of_lt (Heap.lt_size hol)
  refine wpAny_pyIter_list hls ?_
  refine for_walk (n := vs.length) (fp := [s.heap.objs.size, l]) (P := fun i v => vs.toArray[i]? = some v) (St := fun i h => h.IsListIter s.heap.objs.size l i ∧ h.IsList l vs.toArray) (cst := [(l, listOf vs.toArray nn)]) J (by have W := Walks.list (prog := prog) (w := w) hh s.heap.objs.size l hne vs.toArray; rw [show vs.toArray.size = vs.length from by simp] at W; exact W)
    (fun i h st => let ⟨⟨o, ho, _⟩, _⟩ := st; ⟨o, ho⟩) hx hp (Nat.ne_of_lt F.ns.lt) (fun b hb => ?_) (next_is_new F) (fun q hq => Nat.ne_of_lt (Heap.lt_size (N q hq).1)) (fun q hq => by rw [List.mem_singleton.mp hq]; exact hl)
    ⟨⟨_, Heap.get?_push_size _ rfl, rfl, rfl⟩, hls.push _⟩ (F.push _) (fun q hq => ⟨Heap.get?_push_of_some _ (N q hq).1, (N q hq).2⟩) hpos hj ?_ ?_ hE
  · rcases List.mem_cons.mp hb with e | hb
    · exact .inl e
    · exact .inr ⟨_, by rw [List.mem_singleton.mp hb]; exact .head _⟩
  · intro i v m₁ nx h tk o hi hv htk hc ho hJ F' N'
    exact turn i v m₁ nx h tk _ o (by simpa using hv) htk (hc _ (.head _)) ho hJ F' N'
  · intro m₁ nx h tk htk hc hJ F' N'
    exact done m₁ nx h tk htk (hc _ (.head _)) hJ F' N'
end
end Mine
end
section
open PySem PySem.W PyProof.Rows PySem.Calls
namespace Mine
section
variable {prog : Program} {w : World} {A : Around} {E : Value → Shared → Prop} {s : Shared} {value slice : Expr} {x : Str} {t : Tok} {Q : Value → Shared → Prop} {h₀ : Heap} {L : Addr} {m : Str → Option Value} {news : List (Addr × Obj)}
theorem slice_keep_sn {i : Int} {ui : Tok} (h : ∀ h' t' k, (∀ b o, s.heap.get? b = some o → h'.get? b = some o) → (Txt.slice x (some i) none).length ≤ x.length → Q (.str (Txt.slice x (some i) none) t') { s with heap := h', toks := k })
    (hs : subscripted slice false (.str x t) (.ref s.heap.objs.size) = operate [.ref s.heap.objs.size, .str x t] (getItem (.str x t) (.ref s.heap.objs.size)) := by with_unfolding_all rfl)
    (ht : ∀ r, letTemporaryGo value (.str x t) r = pure () := by intro _; with_unfolding_all rfl) (hsz : x.length ≤ 1048576) :
    wpAny (model prog w) A (subscriptTail value slice (.str x t) (.ref s.heap.objs.size)) Q E { s with heap := s.heap.push { cls := .type "slice", data := .fields #[.int i ui, .none, .none] } } :=
  tail_of_ItemOn (SBH.sliceItem_sn (P := fun h => ∀ b o, s.heap.get? b = some o → h.get? b = some o) (fun _ _ hp b o e => Heap.get?_push_of_some _ (hp b o e)) (fun _ _ e => e)
    (fun h' t' k hp => h h' t' k hp (PyProof.Txt.length_slice_le x _ _)) (by rw [sizeLine_eq]; omega)) hs ht
theorem slice_keep_ns {j : Int} {uj : Tok} (h : ∀ h' t' k, (∀ b o, s.heap.get? b = some o → h'.get? b = some o) → (Txt.slice x none (some j)).length ≤ x.length → Q (.str (Txt.slice x none (some j)) t') { s with heap := h', toks := k })
    (hs : subscripted slice false (.str x t) (.ref s.heap.objs.size) = operate [.ref s.heap.objs.size, .str x t] (getItem (.str x t) (.ref s.heap.objs.size)) := by with_unfolding_all rfl)
    (ht : ∀ r, letTemporaryGo value (.str x t) r = pure () := by intro _; with_unfolding_all rfl) (hsz : x.length ≤ 1048576) :
    wpAny (model prog w) A (subscriptTail value slice (.str x t) (.ref s.heap.objs.size)) Q E { s with heap := s.heap.push { cls := .type "slice", data := .fields #[.none, .int j uj, .none] } } :=
  tail_of_ItemOn (SBH.sliceItem_ns (P := fun h => ∀ b o, s.heap.get? b = some o → h.get? b = some o) (fun _ _ hp b o e => Heap.get?_push_of_some _ (hp b o e)) (fun _ _ e => e)
    (fun h' t' k hp => h h' t' k hp (PyProof.Txt.length_slice_le x _ _)) (by rw [sizeLine_eq]; omega)) hs ht
/-- the same in a def's frame -/
theorem slice_fr_sn {i : Int} {ui : Tok} (F : Fr h₀ L s.heap m) (N : News h₀ L s.heap news)
    (h : ∀ h' t' k, s.toks ≤ k → Fr h₀ L h' m → News h₀ L h' news → (Txt.slice x (some i) none).length ≤ x.length → Q (.str (Txt.slice x (some i) none) t') { s with heap := h', toks := k })
    (hs : subscripted slice false (.str x t) (.ref s.heap.objs.size) = operate [.ref s.heap.objs.size, .str x t] (getItem (.str x t) (.ref s.heap.objs.size)) := by with_unfolding_all rfl)
    (ht : ∀ r, letTemporaryGo value (.str x t) r = pure () := by intro _; with_unfolding_all rfl) (hsz : x.length ≤ 1048576) :
    wpAny (model prog w) A (subscriptTail value slice (.str x t) (.ref s.heap.objs.size)) Q E { s with heap := s.heap.push { cls := .type "slice", data := .fields #[.int i ui, .none, .none] } } :=
  wpAny_tok (slice_keep_sn (fun h' t' k hp hl hk => h h' t' k hk (F.keeps hp) (N.keeps hp) hl) hs ht hsz)
theorem slice_fr_ns {j : Int} {uj : Tok} (F : Fr h₀ L s.heap m) (N : News h₀ L s.heap news)
    (h : ∀ h' t' k, s.toks ≤ k → Fr h₀ L h' m → News h₀ L h' news → (Txt.slice x none (some j)).length ≤ x.length → Q (.str (Txt.slice x none (some j)) t') { s with heap := h', toks := k })
    (hs : subscripted slice false (.str x t) (.ref s.heap.objs.size) = operate [.ref s.heap.objs.size, .str x t] (getItem (.str x t) (.ref s.heap.objs.size)) := by with_unfolding_all rfl)
    (ht : ∀ r, letTemporaryGo value (.str x t) r = pure () := by intro _; with_unfolding_all rfl) (hsz : x.length ≤ 1048576) :
    wpAny (model prog w) A (subscriptTail value slice (.str x t) (.ref s.heap.objs.size)) Q E { s with heap := s.heap.push { cls := .type "slice", data := .fields #[.none, .int j uj, .none] } } :=
  wpAny_tok (slice_keep_ns (fun h' t' k hp hl hk => h h' t' k hk (F.keeps hp) (N.keeps hp) hl) hs ht hsz)
end
end Mine
end
section
open PySem PySem.W PyProof.Rows PySem.Calls PySem.Spec
namespace Mine
section
variable {prog : Program} {w : World} {A : Around} {E : Value → Shared → Prop} {s : Shared} {value slice : Expr} {x f r : Str} {t : Tok} {Q : Value → Shared → Prop} {h₀ h : Heap} {L d : Addr} {m : Str → Option Value} {news : List (Addr × Obj)}
  {kvs : List (Str × Value)} {DD : List (PyData × PyData)} {o : Obj}
theorem flat_str {v : Value} (h : PyProof.V.Flat v (.str r)) : ∃ t, v = .str r t := by
  have h1 := h {}
  cases h1 with
  | str _ t => exact ⟨t, rfl⟩
theorem flat_noref {a : Addr} {d : PyData} (h : PyProof.V.Flat (.ref a) d) : False := by
  have h1 := h {}
  have h0 : (({} : Heap).get? a) = none := rfl
  cases h1 <;> (rename_i h2 _; rw [h0] at h2; cases h2)

theorem valueAt_noref {kvs : List (Str × Value)} {DD : List (PyData × PyData)} (p : PyProof.V.FlatPairs PyData.str kvs DD) {k : Str} {a : Addr} (e : valueAt kvs k = some (.ref a)) : False := by
  obtain ⟨_, _, hf⟩ := p.there PyProof.V.same_str e
  exact flat_noref hf

/-- a dict that a comprehension has made goes onto the ledger -/
theorem dict_led {y : Str} {D D₁ : Addr} (F : Fr h₀ L h m) (hm : m y = some (.ref D₁)) (N : News h₀ L h news) (hD : h₀.get? D = none) (hd : h.DictOf (strKind prog w) D kvs) (hf : PyProof.V.FlatPairs PyData.str kvs DD) :
    ∃ o, o.IsDictOf (strKind prog w) kvs ∧ News h₀ L h ((D, o) :: news) := by
  obtain ⟨o, ho, hio⟩ := Heap.dictOf_iff.mp hd
  refine ⟨o, hio, fun q hq => ?_⟩
  rcases List.mem_cons.mp hq with rfl | hq
  · refine ⟨ho, fun e => ?_, hD⟩
    replace e : D = L := e
    subst e
    obtain ⟨o', es, ep, ho', hd', _, hns⟩ := F.ns
    rw [ho] at ho'
    obtain rfl := Option.some.inj ho'
    obtain ⟨o₂, es₂, ep₂, ho₂, _, hd₂, _, hv⟩ := hd.mapOf
    rw [ho] at ho₂
    obtain rfl := Option.some.inj ho₂
    rw [hd'] at hd₂
    cases hd₂
    have h1 := hns y
    rw [hm] at h1
    have h2 := hv y
    have h3 : nsFind es y = findBy (strKind prog w).is es y := by
      unfold nsFind findBy
      rw [show (fun e : DictEntry => e.key.isStr y) = fun e => (strKind prog w).is y e.key from funext fun e => isStr_of y e.key]
    rw [← h3, h1] at h2
    exact valueAt_noref hf h2.symm
  · exact N q hq

theorem item_dict (N : News h₀ L s.heap news) (hm : (d, o) ∈ news) (hd : o.IsDictOf (strKind prog w) kvs) (hf : PyProof.V.FlatPairs PyData.str kvs DD) (hl : lookup (.str f) DD = some (.str r))
    (h : ∀ t', Q (.str r t') { s with toks := s.toks + 1 })
    (hs : subscripted slice false (.ref d) (.str f t) = operate [.ref d, .str f t] (getItem (.ref d) (.str f t)) := by with_unfolding_all rfl) :
    wpAny (model prog w) A (subscriptTail value slice (.ref d) (.str f t)) Q E s := by
  have hD : s.heap.DictOf (strKind prog w) d kvs := Heap.dictOf_iff.mpr ⟨o, (N _ hm).1, hd⟩
  obtain ⟨v, hv, hfl⟩ := hf.of_lookup PyProof.V.same_str hl
  obtain ⟨t', rfl⟩ := flat_str hfl
  exact tail_any hD.typeIs slot_dict_getitem.lookup (wpAny_getItem_of (strKind_is prog w f t) hD.mapOf hv (h t')) hs
end
end Mine
end
section
open PySem PySem.W PyProof.Rows PySem.Calls PySem.Spec
namespace Mine
theorem strs_len {vs : List Value} {ys : List Str} (h : StrsAre vs ys) : vs.length = ys.length := by
  induction h with
  | nil => rfl
  | cons _ _ _ ih => simp [ih]
theorem strs_snoc {vs : List Value} {ys : List Str} (h : StrsAre vs ys) (y : Str) (t : Tok) : StrsAre (vs ++ [.str y t]) (ys ++ [y]) := by
  induction h with
  | nil => exact .cons y t .nil
  | cons y' t' _ ih => exact .cons y' t' ih
theorem strs_at {vs : List Value} {ys : List Str} (h : StrsAre vs ys) : ∀ {i : Nat} {v : Value}, vs[i]? = some v → ∃ y t, v = .str y t ∧ ys[i]? = some y ∧ ys.drop i = y :: ys.drop (i + 1) := by
  induction h with
  | nil => intro i v e; cases e
  | cons y t _ ih =>
    intro i v e
    cases i with
    | zero => cases e; exact ⟨y, t, rfl, rfl, rfl⟩
    | succ i =>
      obtain ⟨y', t', h1, h2, h3⟩ := ih (i := i) (by simpa using e)
      exact ⟨y', t', h1, by simpa using h2, by simpa using h3⟩
theorem strs_get {vs : List Value} {ys : List Str} (h : StrsAre vs ys) : ∀ {i : Nat} {y : Str}, ys[i]? = some y → ∃ t, vs[i]? = some (.str y t) := by
  induction h with
  | nil => intro i v e; cases e
  | cons y t _ ih =>
    intro i v e
    cases i with
    | zero => cases e; exact ⟨t, rfl⟩
    | succ i =>
      obtain ⟨t', h1⟩ := ih (i := i) (by simpa using e)
      exact ⟨t', by simpa using h1⟩
section
variable {prog : Program} {w : World} {A : Around} {E : Value → Shared → Prop} {s : Shared} {h₀ : Heap} {L l : Addr} {m : Str → Option Value} {news : List (Addr × Obj)} {vs : List Value} {ys : List Str} {n : Nat}
theorem truthy_strs {Q : Bool → Shared → Prop} (N : News h₀ L s.heap news) (hm : (l, listOf vs.toArray n) ∈ news) (hS : StrsAre vs ys) (hb : ys.length ≤ 1000000) (h : Q (decide (ys ≠ [])) { s with toks := s.toks + 1 + 1 }) :
    wpAny (model prog w) A (truthy (.ref l)) Q E s := by
  have hl : s.heap.IsList l vs.toArray := ⟨_, (N _ hm).1, rfl, n, rfl⟩
  have e := strs_len hS
  refine wpAny_truthy_list hl (by simp only [List.size_toArray]; omega) ?_
  have hd : (!vs.toArray.isEmpty) = decide (ys ≠ []) := by
    cases hS with
    | nil => rfl
    | cons y t h => simp
  rw [hd]; exact h
theorem last_strs {value slice : Expr} {u : Tok} {Q : Value → Shared → Prop} (N : News h₀ L s.heap news) (hm : (l, listOf vs.toArray n) ∈ news) (hS : StrsAre vs ys) (hb : ys.length ≤ 1000000) (hne : ys ≠ [])
    (h : ∀ t, Q (.str (ys.getLast?.getD Str.empty) t) s)
    (hs : subscripted slice false (.ref l) (.int (-1) u) = operate [.ref l, .int (-1) u] (getItem (.ref l) (.int (-1) u)) := by with_unfolding_all rfl) :
    wpAny (model prog w) A (subscriptTail value slice (.ref l) (.int (-1) u)) Q E s := by
  have hl : s.heap.IsList l vs.toArray := ⟨_, (N _ hm).1, rfl, n, rfl⟩
  have e := strs_len hS
  have hpos : 0 < ys.length := List.length_pos_iff.mpr hne
  obtain ⟨y, hy⟩ : ∃ y, ys.getLast? = some y := by
    cases h9 : ys.getLast? with
    | none => exact absurd (List.getLast?_eq_none_iff.mp h9) hne
    | some y => exact ⟨y, rfl⟩
  have hy2 : ys[ys.length - 1]? = some y := by rw [← List.getLast?_eq_getElem?]; exact hy
  obtain ⟨t, ht⟩ := strs_get hS hy2
  have h' := h t
  rw [hy] at h'
  refine tail_any hl.typeIs slot_list_getitem.lookup (wpAny_getItem_list_neg hl (by omega) (by simp only [List.size_toArray]; omega) (by decide) ?_ h') hs
  simp only [List.size_toArray, List.getElem?_toArray]
  rw [show ((-1 : Int) + (vs.length : Int)).toNat = ys.length - 1 from by omega]
  exact ht
end
section
variable {prog : Program} {w : World} {A : Around} {E : Value → Shared → Prop} {s : Shared} {h₀ : Heap} {L l : Addr} {m : Str → Option Value} {news : List (Addr × Obj)} {vs : List Value} {ys : List Str} {n : Nat} {x : Str} {t : Tok}
theorem join_len (x : Str) (ys : List Str) (B : Nat) (hB : ∀ y ∈ ys, y.length ≤ B) (hx : x.length ≤ 1) : (Txt.join x ys).length ≤ ys.length * (B + 1) := by
  have h1 : (Txt.join x ys).length ≤ (ys.map (·.length)).sum + ys.length * x.length := by
    show (PySem.Builtin.Str.glued x ys).length ≤ _
    rw [StrLaws.glued_eq_join]
    exact StrLaws.join_length_le x ys
  have h2 := StrLaws.sumLen_le ys hB
  have h3 : ys.length * x.length ≤ ys.length * 1 := Nat.mul_le_mul_left _ hx
  have h4 : ys.length * (B + 1) = ys.length * B + ys.length := Nat.mul_succ _ _
  omega
theorem join_rule {Q : Value → Shared → Prop} (B : Nat) (N : News h₀ L s.heap news) (hm : (l, listOf vs.toArray n) ∈ news) (hS : StrsAre vs ys) (hB : ∀ y ∈ ys, y.length ≤ B) (hx : x.length ≤ 1) (hB' : B ≤ 64) (hb : ys.length ≤ 100000)
    (h : ∀ (t' k : Nat), s.toks ≤ k → (Txt.join x ys).length ≤ ys.length * (B + 1) → Q (.str (Txt.join x ys) t') { s with toks := k }) :
    wpAny (model prog w) A (call (.builtin "str.join") [.str x t, .ref l]) Q E s := by
  have hl : s.heap.IsList l vs.toArray := ⟨_, (N _ hm).1, rfl, n, rfl⟩
  have h2 := StrLaws.sumLen_le ys hB
  have h3 : ys.length * B ≤ ys.length * 64 := Nat.mul_le_mul_left _ hB'
  refine wpAny_tok (join_listC hl (by simpa using hS) (by omega) (by omega) fun t' k hk => h t' k hk (join_len x ys B hB hx))
end
end Mine
namespace Mine
theorem cat_fit {a y : Str} (ha : a.length ≤ 100) (hy : y.length ≤ 1000002) : (a ++ y).length ≤ sizeLine := by
  rw [Str.length_append, sizeLine_eq]; omega
end Mine
end
section
open PySem PySem.W PyProof.Rows PySem.Calls PySem.Spec
namespace Mine
/-! what the def canonicalize_license_expression reckons, as plain functions over texts -/
def spaced (x : Str) : Str := Txt.replace (Txt.replace x (Str.ofString "(") (Str.ofString " ( ")) (Str.ofString ")") (Str.ofString " ) ")
def toksP (x : Str) : List Str := Txt.words (Txt.lower (spaced x))
def isRefP (a : Str) : Bool := Txt.startswith (Txt.lower a) (Txt.lower (Str.ofString "LicenseRef-"))
def refValP (a : Str) : PyData := .str (Str.ofString "LicenseRef-" ++ Txt.slice a (some ((11 : Nat) : Int)) none)
def refsP (x : Str) : List (PyData × PyData) := putAll PyData.str Txt.lower refValP ((Txt.words (spaced x)).filter isRefP)
abbrev kw3 (k : Str) : Bool := false || decide (k = Str.ofString "or") || decide (k = Str.ofString "and") || decide (k = Str.ofString "(")
abbrev kw (k : Str) : Bool := false || decide (k = Str.ofString "or") || decide (k = Str.ofString "and") || decide (k = Str.ofString "with") || decide (k = Str.ofString "(") || decide (k = Str.ofString ")")
/-- one turn of the first loop -/
def pyStep (acc : List Str) (t : Str) : Option (List Str) :=
  if kw t = false then some (acc ++ [Str.ofString "False"])
  else if t = Str.ofString "with" then some (acc ++ [Str.ofString "or"])
  else if (t = Str.ofString "(" ∧ acc ≠ [] ∧ kw3 (acc.getLast?.getD Str.empty) = false) ∨ (t = Str.ofString ")" ∧ acc ≠ [] ∧ acc.getLast?.getD Str.empty = Str.ofString "(") then none
  else some (acc ++ [t])
def pyToks : List Str → List Str → Option (List Str)
  | acc, [] => some acc
  | acc, t :: r => (pyStep acc t).bind fun acc' => pyToks acc' r
def red1 (e : Str) : Str := Txt.replace (Txt.replace (Txt.replace e (Str.ofString "False or False") (Str.ofString "False")) (Str.ofString "False and False") (Str.ofString "False")) (Str.ofString "( False )") (Str.ofString "False")
def redN : Nat → Str → Str
  | 0, e => e
  | n + 1, e => redN n (red1 e)
end Mine
namespace Mine
/-- the first loop's word -/
def J1 (P : Addr) (rest : List (Addr × Obj)) (all : List Str) (m₀ : Str → Option Value) (i : Nat) (m : Str → Option Value) (nx : List (Addr × Obj)) : Prop :=
  ∃ vs n acc, nx = (P, listOf vs.toArray n) :: rest ∧ StrsAre vs acc ∧ pyToks [] all = pyToks acc (all.drop i) ∧ acc.length ≤ i ∧ (∀ y ∈ acc, y.length ≤ 5) ∧ ∀ z, z ≠ Str.ofString "token" → m z = m₀ z
theorem fr_off {h₀ h : Heap} {L : Addr} {m m₀ : Str → Option Value} {x : Str} {v : Value} (F : Fr h₀ L h (fun y => if y = x then some v else m y)) (hm : ∀ z, z ≠ x → m z = m₀ z) : Fr h₀ L h (fun y => if y = x then some v else m₀ y) := by
  have e : (fun y => if y = x then some v else m y) = fun y => if y = x then some v else m₀ y := by
    funext y
    by_cases hy : y = x
    · simp [hy]
    · simp only [if_neg hy]; exact hm y hy
  rw [← e]; exact F
end Mine
namespace Mine
section
variable {acc : List Str} {t : Str}
theorem step_a (h : kw t = false) : pyStep acc t = some (acc ++ [Str.ofString "False"]) := by simp [pyStep, h]
theorem step_b (h : kw t = true) (h2 : (t == Str.ofString "with") = true) : pyStep acc t = some (acc ++ [Str.ofString "or"]) := by
  have h2 := eq_of_beq h2
  subst h2
  simp [pyStep, h]
theorem ne_of_beqF {a b : Str} (h : (a == b) = false) : a ≠ b := fun e => by rw [e, beq_self_eq_true] at h; cases h
theorem step_n1 (h : kw t = true) (h2 : (t == Str.ofString "with") = false) (h3 : (t == Str.ofString "(") = true) (h4 : acc ≠ []) (h5 : kw3 (acc.getLast?.getD Str.empty) = false) : pyStep acc t = none := by
  have h2 := ne_of_beqF h2
  have h3 := eq_of_beq h3
  unfold pyStep
  rw [if_neg (by rw [h]; decide), if_neg h2, if_pos (.inl ⟨h3, h4, h5⟩)]
theorem step_n2 (h : kw t = true) (h2 : (t == Str.ofString "with") = false) (h3 : (t == Str.ofString ")") = true) (h4 : acc ≠ []) (h5 : (acc.getLast?.getD Str.empty == Str.ofString "(") = true) : pyStep acc t = none := by
  have h2 := ne_of_beqF h2
  have h3 := eq_of_beq h3
  have h5 := eq_of_beq h5
  unfold pyStep
  rw [if_neg (by rw [h]; decide), if_neg h2, if_pos (.inr ⟨h3, h4, h5⟩)]
theorem step_c (h : kw t = true) (h2 : (t == Str.ofString "with") = false) (h3 : ¬ (t = Str.ofString "(" ∧ acc ≠ [] ∧ kw3 (acc.getLast?.getD Str.empty) = false)) (h4 : ¬ (t = Str.ofString ")" ∧ acc ≠ [] ∧ acc.getLast?.getD Str.empty = Str.ofString "(")) :
    pyStep acc t = some (acc ++ [t]) := by
  have h2 := ne_of_beqF h2
  unfold pyStep
  rw [if_neg (by rw [h]; decide), if_neg h2, if_neg (fun h => h.elim h3 h4)]
theorem step_c1 (h : kw t = true) (h2 : (t == Str.ofString "with") = false) (h3 : (t == Str.ofString "(") = false) (h4 : (t == Str.ofString ")") = false) : pyStep acc t = some (acc ++ [t]) :=
  step_c h h2 (fun e => ne_of_beqF h3 e.1) fun e => ne_of_beqF h4 e.1
theorem step_c2 (h : kw t = true) (h2 : (t == Str.ofString "with") = false) (h3 : acc = []) : pyStep acc t = some (acc ++ [t]) :=
  step_c h h2 (fun e => e.2.1 h3) fun e => e.2.1 h3
theorem paren_ne : Str.ofString "(" ≠ Str.ofString ")" := by decide
theorem step_c3 (h : kw t = true) (h2 : (t == Str.ofString "with") = false) (h3 : (t == Str.ofString "(") = true) (h4 : kw3 (acc.getLast?.getD Str.empty) = true) : pyStep acc t = some (acc ++ [t]) :=
  step_c h h2 (fun e => by rw [h4] at e; exact absurd e.2.2 (by decide)) fun e => paren_ne ((eq_of_beq h3).symm.trans e.1)
theorem step_c5 (h : kw t = true) (h2 : (t == Str.ofString "with") = false) (h3 : (t == Str.ofString "(") = false) (h4 : (acc.getLast?.getD Str.empty == Str.ofString "(") = false) : pyStep acc t = some (acc ++ [t]) :=
  step_c h h2 (fun e => ne_of_beqF h3 e.1) fun e => ne_of_beqF h4 e.2.2
end
/-- what the three first parts of the def come to -/
def preP (x : Str) : Option (List Str) := if x.length = 0 then none else pyToks [] (toksP x)

theorem turned1 {g h' : Heap} {L I P Dt : Addr} {o lt : Obj} {rest : List (Addr × Obj)} {all : List Str} {m₀ : Str → Option Value} {i k n' : Nat} {s₁ : Shared} {Q : Flow → Shared → Prop} {tok y : Str} {acc : List Str} {v : Value} {vsP : List Value} {tt : Tok}
    (F : Fr g L h' (fun z => if z = Str.ofString "token" then some v else m₀ z)) (N : News g L h' ((I, o) :: (P, listOf (vsP ++ [Value.str y tt]).toArray n') :: rest)) (hc : (Dt, lt) ∈ rest) (ho : P ≠ I) (hr : ∀ q ∈ rest, q.1 ≠ I)
    (hS : StrsAre vsP acc) (hstep : pyStep acc tok = some (acc ++ [y])) (hdrop : all.drop i = tok :: all.drop (i + 1)) (hpy : pyToks [] all = pyToks acc (all.drop i)) (hlen : acc.length ≤ i) (ha : ∀ y ∈ acc, y.length ≤ 5) (hy : y.length ≤ 5) :
    Turned g L I o [(Dt, lt)] (J1 P rest all m₀ (i + 1)) s₁ Q .next { s₁ with heap := h', toks := k } := by
  refine ⟨h', k, _, (P, listOf (vsP ++ [Value.str y tt]).toArray n') :: rest, rfl, F, N, fun q hq => by rw [List.mem_singleton.mp hq]; exact .tail _ hc, fun q hq => ?_, vsP ++ [Value.str y tt], n', acc ++ [y], rfl, strs_snoc hS y tt, ?_, ?_, ?_, fun z hz => if_neg hz⟩
  · rcases List.mem_cons.mp hq with rfl | hq
    · exact ho
    · exact hr q hq
  · rw [hpy, hdrop]
    show (pyStep acc tok).bind _ = _
    rw [hstep]; rfl
  · rw [List.length_append]; simp; omega
  · intro z hz
    rcases List.mem_append.mp hz with hz | hz
    · exact ha z hz
    · rw [List.mem_singleton.mp hz]; exact hy
theorem kw_len {t : Str} (h : kw t = true) : t.length ≤ 5 := by
  simp only [kw, Bool.or_eq_true, decide_eq_true_eq, Bool.false_eq_true, false_or] at h
  rcases h with (((h | h) | h) | h) | h <;> (subst h; decide)
theorem fr_out {h₀ h : Heap} {L : Addr} {m m₀ : Str → Option Value} {x : Str} (F : Fr h₀ L h m) (hm : ∀ z, z ≠ x → m z = m₀ z) : ∃ u, Fr h₀ L h (fun y => if y = x then u else m₀ y) := by
  refine ⟨m x, ?_⟩
  have e : (fun y => if y = x then m x else m₀ y) = m := by
    funext y
    by_cases hy : y = x
    · simp [hy]
    · simp only [if_neg hy]; exact (hm y hy).symm
  rw [e]; exact F
theorem redN_succ (n : Nat) (e : Str) : redN (n + 1) e = red1 (redN n e) := by
  induction n generalizing e with
  | zero => rfl
  | succ n ih => show redN (n + 1) (red1 e) = _; rw [ih]; rfl
/-- the texts that the def is called upon here -/
structure Tame (x : Str) : Prop where
  len : x.length ≤ 2000
  asc : ∀ c ∈ x.cps.toList, c < 128
  short : ∀ t ∈ toksP x, t.length ≤ 40
  cnt : (toksP x).length ≤ 2000
  wshort : ∀ t ∈ Txt.words (spaced x), t.length ≤ 40
  tasc : ∀ t ∈ toksP x, ∀ c ∈ t.cps.toList, c < 128
  lower : toksP x = (Txt.words (spaced x)).map Txt.lower
  refs : ∀ t ∈ toksP x, Txt.startswith t (Str.ofString "licenseref-") = true → Txt.endswith t (Str.ofString "+") = false → t ∈ [Str.ofString "licenseref-own.x-1", Str.ofString "licenseref-b", Str.ofString "licenseref-my.1", Str.ofString "licenseref-", Str.ofString "licenseref-a_b", Str.ofString "licenseref-a/b"]
theorem Tame.small {x : Str} (h : Tame x) : Small x := ⟨by have := h.len; omega, h.asc⟩
end Mine
namespace Mine
/-- the second loop's word -/
def J2 (news : List (Addr × Obj)) (e0 : Str) (m₀ : Str → Option Value) (i : Nat) (m : Str → Option Value) (nx : List (Addr × Obj)) : Prop :=
  nx = news ∧ (∃ t, m (Str.ofString "python_expression") = some (.str (redN i e0) t)) ∧ (redN i e0).length ≤ 1000000 ∧ ∀ z, z ≠ Str.ofString "_" → z ≠ Str.ofString "python_expression" → m z = m₀ z
theorem fr_off2 {h₀ h : Heap} {L : Addr} {m m₀ : Str → Option Value} {x y : Str} {v u : Value} (F : Fr h₀ L h (fun z => if z = x then some v else m z)) (hy : m y = some u) (hm : ∀ z, z ≠ x → z ≠ y → m z = m₀ z) :
    Fr h₀ L h (fun z => if z = x then some v else if z = y then some u else m₀ z) := by
  have e : (fun z => if z = x then some v else m z) = fun z => if z = x then some v else if z = y then some u else m₀ z := by
    funext z
    by_cases h1 : z = x
    · simp [h1]
    · simp only [if_neg h1]
      by_cases h2 : z = y
      · subst h2; simp [hy]
      · simp only [if_neg h2]; exact hm z h1 h2
  rw [← e]; exact F
theorem fr_out2 {h₀ h : Heap} {L : Addr} {m m₀ : Str → Option Value} {x y : Str} {u : Value} (F : Fr h₀ L h m) (hy : m y = some u) (hxy : y ≠ x) (hm : ∀ z, z ≠ x → z ≠ y → m z = m₀ z) :
    ∃ v, Fr h₀ L h (fun z => if z = x then v else if z = y then some u else m₀ z) := by
  refine ⟨m x, ?_⟩
  have e : (fun z => if z = x then m x else if z = y then some u else m₀ z) = m := by
    funext z
    by_cases h1 : z = x
    · simp [h1]
    · simp only [if_neg h1]
      by_cases h2 : z = y
      · subst h2; simp [hy]
      · simp only [if_neg h2]; exact (hm z h1 h2).symm
  rw [e]; exact F
theorem turned2 {g h' : Heap} {L I : Addr} {o : Obj} {news cst : List (Addr × Obj)} {e0 e' : Str} {m₀ m₁ : Str → Option Value} {i k : Nat} {s₁ : Shared} {Q : Flow → Shared → Prop} {t : Tok} {v : Value}
    (F : Fr g L h' (fun z => if z = Str.ofString "python_expression" then some (.str e' t) else if z = Str.ofString "_" then some v else m₁ z)) (N : News g L h' ((I, o) :: news)) (hc : ∀ q ∈ cst, q ∈ news) (hr : ∀ q ∈ news, q.1 ≠ I)
    (he : e' = red1 (redN i e0)) (hlen : e'.length ≤ 1000000) (hm : ∀ z, z ≠ Str.ofString "_" → z ≠ Str.ofString "python_expression" → m₁ z = m₀ z) :
    Turned g L I o cst (J2 news e0 m₀ (i + 1)) s₁ Q .next { s₁ with heap := h', toks := k } := by
  subst he
  rw [← redN_succ] at *
  exact ⟨h', k, _, news, rfl, F, N, hc, hr, rfl, ⟨t, if_pos rfl⟩, hlen, fun z h1 h2 => by (show (if _ then _ else if _ then _ else _) = _); rw [if_neg h2, if_neg h1]; exact hm z h1 h2⟩
end Mine
namespace Mine
/-- one turn of the third loop: what it adds, and whether a licence has just begun -/
def lookT (D : List (PyData × PyData)) (k : Str) : Option Str := match lookup (.str k) D with | some (.str r) => some r | _ => none
end Mine
namespace Mine
/-- the third loop's word, bare of its reckoning -/
def J3 (P : Addr) (rest : List (Addr × Obj)) (W : List Str → Bool → Nat → Prop) (m₀ : Str → Option Value) (i : Nat) (m : Str → Option Value) (nx : List (Addr × Obj)) : Prop :=
  ∃ vs n norm lls, nx = (P, listOf vs.toArray n) :: rest ∧ StrsAre vs norm ∧ W norm lls i ∧ norm.length ≤ i ∧ (∀ y ∈ norm, y.length ≤ 64) ∧ m (Str.ofString "last_license_start") = some (.bool lls) ∧
    ∀ z, z ≠ Str.ofString "index" → z ≠ Str.ofString "token" → z ≠ Str.ofString "last_license_start" → z ≠ Str.ofString "final_token" → z ≠ Str.ofString "suffix" → z ≠ Str.ofString "license_ref_id" → m z = m₀ z
theorem fr_off3 {h₀ h : Heap} {L : Addr} {m m₀ : Str → Option Value} {v u l : Value} (F : Fr h₀ L h (fun z => if z = Str.ofString "token" then some v else if z = Str.ofString "index" then some u else m z)) (hl : m (Str.ofString "last_license_start") = some l)
    (hm : ∀ z, z ≠ Str.ofString "index" → z ≠ Str.ofString "token" → z ≠ Str.ofString "last_license_start" → z ≠ Str.ofString "final_token" → z ≠ Str.ofString "suffix" → z ≠ Str.ofString "license_ref_id" → m z = m₀ z) :
    ∃ a b c, Fr h₀ L h (fun z => if z = Str.ofString "token" then some v else if z = Str.ofString "index" then some u else if z = Str.ofString "last_license_start" then some l else if z = Str.ofString "final_token" then a else if z = Str.ofString "suffix" then b else if z = Str.ofString "license_ref_id" then c else m₀ z) := by
  refine ⟨m (Str.ofString "final_token"), m (Str.ofString "suffix"), m (Str.ofString "license_ref_id"), ?_⟩
  have e : (fun z => if z = Str.ofString "token" then some v else if z = Str.ofString "index" then some u else m z) = (fun z => if z = Str.ofString "token" then some v else if z = Str.ofString "index" then some u else if z = Str.ofString "last_license_start" then some l else if z = Str.ofString "final_token" then m (Str.ofString "final_token") else if z = Str.ofString "suffix" then m (Str.ofString "suffix") else if z = Str.ofString "license_ref_id" then m (Str.ofString "license_ref_id") else m₀ z) := by
    funext z
    by_cases h1 : z = Str.ofString "token"
    · simp only [if_pos h1]
    by_cases h2 : z = Str.ofString "index"
    · simp only [if_neg h1, if_pos h2]
    by_cases h3 : z = Str.ofString "last_license_start"
    · simp only [if_neg h1, if_neg h2, if_pos h3]; rw [h3]; exact hl
    by_cases h4 : z = Str.ofString "final_token"
    · simp only [if_neg h1, if_neg h2, if_neg h3, if_pos h4]; rw [h4]
    by_cases h5 : z = Str.ofString "suffix"
    · simp only [if_neg h1, if_neg h2, if_neg h3, if_neg h4, if_pos h5]; rw [h5]
    by_cases h6 : z = Str.ofString "license_ref_id"
    · simp only [if_neg h1, if_neg h2, if_neg h3, if_neg h4, if_neg h5, if_pos h6]; rw [h6]
    simp only [if_neg h1, if_neg h2, if_neg h3, if_neg h4, if_neg h5, if_neg h6]
    exact hm z h2 h1 h3 h4 h5 h6
  rw [← e]; exact F
end Mine
end
section
open PySem PySem.W PyProof.Rows PySem.Calls PySem.Spec
namespace Mine
def TurnedE (h₀ : Heap) (L : Addr) (e it : Addr) (oe oi : Obj) (cst : List (Addr × Obj)) (J : (Str → Option Value) → List (Addr × Obj) → Prop) (s₁ : Shared) (Q : Flow → Shared → Prop) (f : Flow) (s₂ : Shared) : Prop :=
  match f with
  | .ret v => Q (.ret v) s₂
  | .brk => Q .next s₂
  | _ => ∃ h' tk m' nx, s₂ = { s₁ with heap := h', toks := tk } ∧ Fr h₀ L h' m' ∧ News h₀ L h' ((e, oe) :: (it, oi) :: nx) ∧ (∀ q ∈ cst, q ∈ nx) ∧ (∀ q ∈ nx, q.1 ≠ e ∧ q.1 ≠ it) ∧ J m' nx

theorem neN' {a b : Nat} (h : @Ne Nat a b) : @Ne Addr a b := h
section
variable {prog : Program} {w : World} {A : Around} {E : Value → Shared → Prop} {s : Shared} {env : Env} {h₀ : Heap} {xi xc : Str} {body : List Stmt} {Q : Flow → Shared → Prop}
theorem for_enum {pk pv pt : Pos} {x1 : Nat} {l : Addr} {vs : List Value} {nn : Nat} {m : Str → Option Value} {news : List (Addr × Obj)}
    (J : Nat → (Str → Option Value) → List (Addr × Obj) → Prop) (hh : A.handled = none) (hxi : env.kindOf xi = some .local) (hxc : env.kindOf xc = some .local)
    (hp : (env.scope.kind == .class || (env.scope.kind == .module && env.locals != env.globals)) = false)
    (F : Fr h₀ env.locals s.heap m) (N : News h₀ env.locals s.heap news) (hl : (l, listOf vs.toArray nn) ∈ news) (hpos : 0 < s.toks) (hj : J 0 m news)
    (turn : ∀ i v t m₁ nx h (tk : Nat) e it oe oi, vs[i]? = some v → 0 < tk → e ≠ it → (l, listOf vs.toArray nn) ∈ nx → (∀ q ∈ nx, q.1 ≠ e ∧ q.1 ≠ it) → J i m₁ nx → Fr h₀ env.locals h (fun y => if y = xc then some v else if y = xi then some (.int (i : Int) t) else m₁ y) →
      News h₀ env.locals h ((e, oe) :: (it, oi) :: nx) →
      wpAny (model prog w) A (execs body env) (TurnedE h₀ env.locals e it oe oi [(l, listOf vs.toArray nn)] (J (i + 1)) { s with heap := h, toks := tk } Q) E { s with heap := h, toks := tk })
    (done : ∀ m₁ nx h (tk : Nat), 0 < tk → (l, listOf vs.toArray nn) ∈ nx → J vs.length m₁ nx → Fr h₀ env.locals h m₁ → News h₀ env.locals h nx → Q .next { s with heap := h, toks := tk })
    (hE : PassesOwn (model prog w) A env E := by passes_own) :
    wpAny (model prog w) A (call (.type "enumerate") [.ref l]) (fun xv s₁ => wpAny (model prog w) A (pyIter xv) (fun itv s₂ =>
      codeAny (model prog w) A (.forLoop (.Tuple [.Name xi pk, .Name xc pv] x1 pt) itv body [] env) (fun r s' => match r with | .ok f => Q f s' | .error e => cameBackBy (model prog w) A env E e s') s₂) E s₁) E s := by
  have hol : s.heap.get? l = some (listOf vs.toArray nn) := (N _ hl).1
  have hls : s.heap.IsList l vs.toArray := ⟨_, hol, rfl, nn, rfl⟩
  have hlt : @LT.lt Nat _ l s.heap.objs.size := Heap.lt_size hol
  refine call_enumerate_list hls fun h' he' hit' hsz hk => ?_
  have F' : Fr h₀ env.locals h' m := F.keeps hk
  have N' : News h₀ env.locals h' news := N.keeps hk
  refine wpAny_pyIter_enum he' ?_
  have hLs : @LT.lt Nat _ env.locals s.heap.objs.size := F.ns.lt
  have he0 : h₀.get? (s.heap.objs.size + 1) = none := by
    cases q : h₀.get? (s.heap.objs.size + 1) with
    | none => rfl
    | some o => have q2 : @LT.lt Nat _ (s.heap.objs.size + 1) s.heap.objs.size := Heap.lt_size (F.keep _ _ q); exact absurd q2 (by omega)
  have hi0 : h₀.get? s.heap.objs.size = none := next_is_new F
  have W := WalksT.enumerate (prog := prog) (w := w) hh (s.heap.objs.size + 1) s.heap.objs.size l (Nat.succ_ne_self _) (neN' (by omega)) (neN' (by omega)) vs.toArray
  revert he0 hi0 W he' hit'
  have hoff : ∀ q ∈ news, q.1 ≠ s.heap.objs.size + 1 ∧ q.1 ≠ s.heap.objs.size := fun q hq => by
    have q2 : @LT.lt Nat _ q.1 s.heap.objs.size := Heap.lt_size (N q hq).1
    exact ⟨neN' (by omega), neN' (by omega)⟩
  have hLe : env.locals ≠ s.heap.objs.size + 1 := neN' (by omega)
  have hLi : env.locals ≠ s.heap.objs.size := neN' (by omega)
  have hei : s.heap.objs.size + 1 ≠ s.heap.objs.size := Nat.succ_ne_self _
  revert hoff hLe hLi hei
  generalize s.heap.objs.size + 1 = e
  generalize s.heap.objs.size = it
  intro hoff hLe hLi hei he' hit' he0 hi0 W
  rw [show vs.toArray.size = vs.length from by simp] at W
  have old : ∀ b o, h₀.get? b = some o → b ∉ [e, it] := fun b o q hb => by
    rcases List.mem_cons.mp hb with rfl | hb
    · rw [he0] at q; cases q
    · rw [List.mem_singleton.mp hb, hi0] at q; cases q
  have hLw : env.locals ∉ [e, it] := fun hb => by
    rcases List.mem_cons.mp hb with z | hb
    · exact hLe z
    · exact hLi (List.mem_singleton.mp hb)
  refine codeAny_forLoop_any (R := fun r s' => match r with | .ok f => Q f s' | .error e => cameBackBy (model prog w) A env E e s')
    (fun k s' => ∃ h' tk m' nx i, s' = { s with heap := h', toks := tk } ∧ 0 < tk ∧ ((∃ old, IsEnum h' e it (i : Nat) old) ∧ h'.IsListIter it l i ∧ h'.IsList l vs.toArray) ∧ Fr h₀ env.locals h' m' ∧ News h₀ env.locals h' nx ∧ (l, listOf vs.toArray nn) ∈ nx ∧
      (∀ q ∈ nx, q.1 ≠ e ∧ q.1 ≠ it) ∧ J i m' nx ∧ i ≤ vs.length ∧ k = vs.length + 1 - i) ?_ (vs.length + 1)
    ⟨h', s.toks, m, news, 0, rfl, hpos, ⟨⟨_, he'⟩, hit', hls.at fun o x => hk _ _ x⟩, F', N', hl, hoff, hj, Nat.zero_le _, rfl⟩
  rintro k s' ⟨H, tk, m', nx, i, rfl, htk, hst', F1, N1, hc1, hoff1, hJ, hi, rfl⟩
  have next : ∀ h₁ : Heap, (∀ b o, b ∉ [e, it] → H.get? b = some o → h₁.get? b = some o) → Fr h₀ env.locals h₁ m' ∧ News h₀ env.locals h₁ nx := fun h₁ hk₁ =>
    ⟨⟨F1.ns.at' fun o x => hk₁ _ o hLw x, fun b o x => hk₁ b o (old b o x) (F1.keep b o x), F1.above⟩,
     fun q hq => ⟨hk₁ _ _ (fun z => by
        rcases List.mem_cons.mp z with z | z
        · exact (hoff1 q hq).1 z
        · exact (hoff1 q hq).2 (List.mem_singleton.mp z)) (N1 q hq).1, (N1 q hq).2⟩⟩
  by_cases hlt' : i < vs.length
  · refine wpAny_tok (W.item i _ _ _ hlt' hst' fun T vals h₁ tk₁ hPt _ hT hMid hk₁ htk₁ => ?_)
    replace htk₁ : tk ≤ tk₁ := htk₁
    obtain ⟨t, x, hx, rfl⟩ := hPt
    refine W.go _ x1 pt i T _ _ _ hMid fun h₂ hst₂ hk₂ => ?_
    have ht₂ : h₂.IsTuple T #[.int i t, x] := hT.at fun o q => hk₂ T o (W.apart i T h₁ hMid) q
    refine wpAny_assign_Tuple hh ht₂ rfl rfl fun h₃ hx₃ => ?_
    replace hx₃ : Heap.ExtBut h₂.objs.size h₂ h₃ := hx₃
    have up₃ : ∀ b o, h₂.get? b = some o → h₃.get? b = some o := fun b o q => hx₃ b o (Nat.ne_of_lt (Heap.lt_size q)) q
    obtain ⟨F₃, N₃⟩ := next h₃ fun b o hb q => up₃ b o (hk₂ b o hb (hk₁ b o hb q))
    show wpAny _ A (do holding [x] (assign (.Name xi pk) env (.int i t)); do holding [] (assign (.Name xc pv) env x); pure ()) _ _ _
    refine wpAny_bind (wpAny_holding (wpAny_assign_Name (wpAny_storeName_local hxi F₃.ns (fun h₄ hn₄ hs₄ => ?_) hp)))
    replace hs₄ : Heap.SameBut env.locals h₃ h₄ := hs₄
    have F₄ := F₃.set hn₄ hs₄
    refine wpAny_bind (wpAny_holding (wpAny_assign_Name (wpAny_storeName_local hxc F₄.ns (fun h₅ hn₅ hs₅ => wpAny_pure ?_) hp)))
    replace hs₅ : Heap.SameBut env.locals h₄ h₅ := hs₅
    have F₅ := F₄.set hn₅ hs₅
    have N₅ : News h₀ env.locals h₅ nx := (N₃.set hs₄).set hs₅
    have up₅ : ∀ b o, b ≠ env.locals → h₂.get? b = some o → h₅.get? b = some o := fun b o hb q => hs₅.extBut b o hb (hs₄.extBut b o hb (up₃ b o q))
    obtain ⟨⟨oldv, hE2⟩, ⟨oi, hoi, hoi'⟩, hL2⟩ := id hst₂
    have ho₅ := up₅ e _ (Ne.symm hLe) hE2
    have hi₅ := up₅ it _ (Ne.symm hLi) hoi
    have hst₅ : ((∃ old, IsEnum h₅ e it ((i + 1 : Nat) : Int) old) ∧ h₅.IsListIter it l (i + 1) ∧ h₅.IsList l vs.toArray) :=
      ⟨⟨_, ho₅⟩, ⟨oi, hi₅, hoi'⟩, ⟨_, (N₅ _ hc1).1, rfl, nn, rfl⟩⟩
    obtain ⟨oe, hoe, hoq⟩ : ∃ oe, h₅.get? e = some oe ∧ ∀ H : Heap, H.get? e = some oe → IsEnum H e it ((i + 1 : Nat) : Int) oldv := ⟨_, ho₅, fun _ q => q⟩
    have Nb : News h₀ env.locals h₅ ((e, oe) :: (it, oi) :: nx) := fun q hq => by
      rcases List.mem_cons.mp hq with rfl | hq
      · exact ⟨hoe, Ne.symm hLe, he0⟩
      · rcases List.mem_cons.mp hq with rfl | hq
        · exact ⟨hi₅, Ne.symm hLi, hi0⟩
        · exact N₅ q hq
    refine wpAny_passesOwn hE (wpAny_tok (wpAny_mono (turn i x t m' nx h₅ _ e it oe oi (by simpa using hx) (Nat.succ_pos _) hei hc1 hoff1 hJ F₅ Nb) (fun f s₃ hTe hle => ?_) fun _ _ e _ => e))
    replace hle : tk₁ + 1 + 1 ≤ s₃.toks := hle
    have fin : (∃ h' tk m' nx', s₃ = { s with heap := h', toks := tk } ∧ Fr h₀ env.locals h' m' ∧ News h₀ env.locals h' ((e, oe) :: (it, oi) :: nx') ∧ (∀ q ∈ [(l, listOf vs.toArray nn)], q ∈ nx') ∧ (∀ q ∈ nx', q.1 ≠ e ∧ q.1 ≠ it) ∧ J (i + 1) m' nx') →
        ∃ k, k < vs.length + 1 - i ∧ ∃ h' tk m' nx i, s₃ = { s with heap := h', toks := tk } ∧ 0 < tk ∧ ((∃ old, IsEnum h' e it (i : Nat) old) ∧ h'.IsListIter it l i ∧ h'.IsList l vs.toArray) ∧ Fr h₀ env.locals h' m' ∧ News h₀ env.locals h' nx ∧ (l, listOf vs.toArray nn) ∈ nx ∧
          (∀ q ∈ nx, q.1 ≠ e ∧ q.1 ≠ it) ∧ J i m' nx ∧ i ≤ vs.length ∧ k = vs.length + 1 - i := by
      rintro ⟨h₃', tk₃, m₂, nx₂, rfl, F₃, N₃, hc₃, ho₃, hJ₃⟩
      replace hle : tk₁ + 1 + 1 ≤ tk₃ := hle
      exact ⟨vs.length + 1 - (i + 1), by omega, h₃', tk₃, m₂, nx₂, i + 1, rfl, by omega, ⟨⟨_, hoq _ (N₃ _ (.head _)).1⟩, ⟨oi, (N₃ _ (.tail _ (.head _))).1, hoi'⟩, ⟨listOf vs.toArray nn, (N₃ _ (.tail _ (.tail _ (hc₃ _ (.head _))))).1, rfl, nn, rfl⟩⟩, F₃,
        fun q hq => N₃ q (.tail _ (.tail _ hq)), hc₃ _ (.head _), ho₃, hJ₃, hlt', rfl⟩
    cases f with
    | ret v => exact hTe
    | brk => exact hTe
    | cont => exact fin hTe
    | next => exact fin hTe
  · have hin : i = vs.length := by omega
    subst hin
    refine wpAny_tok (W.done _ _ _ hst' fun h₁ tk₁ hk₁ htk₁ => wpAny_execs_nil ?_)
    replace htk₁ : tk ≤ tk₁ := htk₁
    obtain ⟨F₁, N₁⟩ := next h₁ hk₁
    exact done m' nx h₁ tk₁ (by omega) hc1 hJ F₁ N₁
end
end Mine
end
section
open PySem PySem.W PyProof.Rows PySem.Calls PySem.Spec
namespace Mine
section
variable {prog : Program} {w : World} {A : Around} {E : Value → Shared → Prop} {s : Shared} {h₀ : Heap} {L a : Addr} {m : Str → Option Value} {K : Frag} {es : Array DictEntry} {n : Nat} {x : Str} {t : Tok}
theorem notin_of_in {key d : Value} {b : Bool} {s₂ : Shared} {Q : Value → Shared → Prop} (h : wpAny (model prog w) A (compareOp .In key d) (fun v s' => v = .bool b ∧ s' = s₂) (fun _ _ => False) s) (hq : Q (.bool (!b)) s₂) :
    wpAny (model prog w) A (compareOp .NotIn key d) Q E s := by
  have h2 : wpAny (model prog w) A (contains d key) (fun c s' => c = b ∧ s' = s₂) (fun _ _ => False) s := by
    intro Γ p hΓ
    have h3 := h Γ p hΓ
    change Sem.wp _ _ (contains d key >>= fun c => pure (Value.bool c)) _ _ _ _ at h3
    rw [Sem.wp_bind'] at h3
    refine Sem.wp_mono _ _ _ (fun c p' s' h4 => ?_) (fun _ _ _ e => e) _ _ h3
    change (Value.bool c = Value.bool b ∧ s' = s₂) at h4
    exact ⟨by have := h4.1; injection this, h4.2⟩
  show wpAny _ _ (do return .bool (!(← contains d key))) Q E s
  refine wpAny_bind (wpAny_mono h2 (fun c s' hc => ?_) fun _ _ e => e.elim)
  obtain ⟨rfl, rfl⟩ := hc
  exact wpAny_pure hq
theorem topNotIn_K {r : Option Value} {Q : Value → Shared → Prop} (F : Fr h₀ L s.heap m) (X₀ : K.In h₀) (hl : K.lookup a = some ⟨.type "dict", none, .dict es n, #[]⟩) (hk : KeysLit w.params es.toList) (e : nsIn K a x = some r) (lo : (a == sysModules) = false)
    (h : Q (.bool (!r.isSome)) { s with toks := s.toks + 1 }) : wpAny (model prog w) A (compareOp .NotIn (.str x t) (.ref a)) Q E s :=
  notin_of_in (topIn_K F X₀ hl hk e lo ⟨rfl, rfl⟩) h
end
/-- a table of the text's top, its keys texts, its values objects -/
def keyOf : Value → Option Str
  | .str k _ => some k
  | _ => none
theorem find_tab {γ : Type} (f : γ → Str × Addr) : ∀ (es : List DictEntry) (T : List γ), es.map (fun e => (keyOf e.key, e.val)) = T.map (fun p => (some (f p).1, Value.ref (f p).2)) →
    ∀ x : Str, (es.find? fun e => e.key.isStr x).map (·.val) = (T.find? fun p => (f p).1 == x).map fun p => Value.ref (f p).2
  | [], [], _, _ => rfl
  | [], _ :: _, h, _ => by cases h
  | _ :: _, [], h, _ => by cases h
  | e :: es, p :: T, h, x => by
    rw [List.map_cons, List.map_cons, List.cons.injEq, Prod.mk.injEq] at h
    obtain ⟨⟨h1, h2⟩, h3⟩ := h
    have ih := find_tab f es T h3 x
    obtain ⟨hsh, k, v⟩ := e
    dsimp only at h1 h2
    cases k with
    | str k t =>
      have h1 : k = (f p).1 := Option.some.inj h1
      subst h1
      rw [List.find?_cons, List.find?_cons]
      show ((match ((f p).1 == x) with | true => some _ | false => _).map _) = _
      cases hb : ((f p).1 == x) with
      | true => simp [h2]
      | false => exact ih
    | _ => cases h1
theorem nsIn_tab {γ : Type} (f : γ → Str × Addr) {K : Frag} {a : Addr} {es : Array DictEntry} {n : Nat} (T : List γ) (hl : K.lookup a = some ⟨.type "dict", none, .dict es n, #[]⟩)
    (h : es.toList.map (fun e => (keyOf e.key, e.val)) = T.map (fun p => (some (f p).1, Value.ref (f p).2))) (x : Str) :
    nsIn K a x = some ((T.find? fun p => (f p).1 == x).map fun p => Value.ref (f p).2) := by
  have h2 := find_tab f es.toList T h x
  unfold nsIn
  rw [hl]
  dsimp only
  have hr : es.toList.any (·.refKey) = false := by
    rw [List.any_eq_false]
    intro e he
    have : (keyOf e.key, e.val) ∈ es.toList.map (fun e => (keyOf e.key, e.val)) := List.mem_map.mpr ⟨e, he, rfl⟩
    rw [h] at this
    obtain ⟨p, _, hp⟩ := List.mem_map.mp this
    injection hp with hp _
    unfold DictEntry.refKey
    revert hp
    cases e.key <;> simp [keyOf]
  cases hf : es.toList.find? (fun e => e.key.isStr x) with
  | some e => rw [hf] at h2; rw [← h2]; rfl
  | none => rw [hf] at h2; rw [← h2]; simp [hr]
end Mine
end
section
open PySem PySem.W PyProof.Rows PySem.Calls PySem.Spec
namespace Mine
def licT : List (Str × Addr × Str) := [
  (Str.ofString "0bsd", 40, Str.ofString "0BSD"),
  (Str.ofString "aal", 41, Str.ofString "AAL"),
  (Str.ofString "agpl-3.0-only", 42, Str.ofString "AGPL-3.0-only"),
  (Str.ofString "agpl-3.0-or-later", 43, Str.ofString "AGPL-3.0-or-later"),
  (Str.ofString "apache-2.0", 44, Str.ofString "Apache-2.0"),
  (Str.ofString "artistic-2.0", 45, Str.ofString "Artistic-2.0"),
  (Str.ofString "bsd-2-clause", 46, Str.ofString "BSD-2-Clause"),
  (Str.ofString "bsd-3-clause", 47, Str.ofString "BSD-3-Clause"),
  (Str.ofString "bsl-1.0", 48, Str.ofString "BSL-1.0"),
  (Str.ofString "cc0-1.0", 49, Str.ofString "CC0-1.0"),
  (Str.ofString "ecos-2.0", 50, Str.ofString "eCos-2.0"),
  (Str.ofString "epl-2.0", 51, Str.ofString "EPL-2.0"),
  (Str.ofString "gpl-2.0", 52, Str.ofString "GPL-2.0"),
  (Str.ofString "gpl-2.0+", 53, Str.ofString "GPL-2.0+"),
  (Str.ofString "gpl-2.0-only", 54, Str.ofString "GPL-2.0-only"),
  (Str.ofString "gpl-2.0-or-later", 55, Str.ofString "GPL-2.0-or-later"),
  (Str.ofString "gpl-3.0-only", 56, Str.ofString "GPL-3.0-only"),
  (Str.ofString "gpl-3.0-or-later", 58, Str.ofString "GPL-3.0-or-later"),
  (Str.ofString "isc", 59, Str.ofString "ISC"),
  (Str.ofString "lgpl-2.1-only", 60, Str.ofString "LGPL-2.1-only"),
  (Str.ofString "lgpl-2.1-or-later", 61, Str.ofString "LGPL-2.1-or-later"),
  (Str.ofString "mit", 62, Str.ofString "MIT"),
  (Str.ofString "mpl-2.0", 63, Str.ofString "MPL-2.0"),
  (Str.ofString "psf-2.0", 64, Str.ofString "PSF-2.0"),
  (Str.ofString "unlicense", 65, Str.ofString "Unlicense"),
  (Str.ofString "zlib", 66, Str.ofString "Zlib")]
def excT : List (Str × Addr × Str) := [
  (Str.ofString "autoconf-exception-3.0", 68, Str.ofString "Autoconf-exception-3.0"),
  (Str.ofString "bison-exception-2.2", 69, Str.ofString "Bison-exception-2.2"),
  (Str.ofString "classpath-exception-2.0", 70, Str.ofString "Classpath-exception-2.0"),
  (Str.ofString "font-exception-2.0", 71, Str.ofString "Font-exception-2.0"),
  (Str.ofString "gcc-exception-3.1", 72, Str.ofString "GCC-exception-3.1"),
  (Str.ofString "linux-syscall-note", 73, Str.ofString "Linux-syscall-note"),
  (Str.ofString "llvm-exception", 74, Str.ofString "LLVM-exception"),
  (Str.ofString "nokia-qt-exception-1.1", 75, Str.ofString "Nokia-Qt-exception-1.1")]

def tabP (T : List (Str × Addr × Str)) (f : Str) : Option Str := (T.find? fun p => p.1 == f).map (·.2.2)
def okRef (y : Str) : Bool := decide (y = Str.ofString "own.x-1") || decide (y = Str.ofString "b") || decide (y = Str.ofString "my.1")
def finP (t : Str) : Str := if Txt.endswith t (Str.ofString "+") = true then Txt.slice t none (some (-1)) else t
def sufP (t : Str) : Str := if Txt.endswith t (Str.ofString "+") = true then Str.ofString "+" else Str.ofString ""
/-- one turn of the third loop -/
def nmStep (D : List (PyData × PyData)) (t : Str) (r : List Str) (norm : List Str) (lls : Bool) : Option (List Str × Bool) :=
  if kw t = true then
    if t = Str.ofString "with" ∧ (lls = false ∨ r = [] ∨ kw (r.head?.getD Str.empty) = true) then none
    else some (norm ++ [Txt.upper t], false)
  else if norm ≠ [] ∧ norm.getLast?.getD Str.empty = Str.ofString "WITH" then
    (tabP excT t).map fun e => (norm ++ [e], false)
  else if Txt.startswith (finP t) (Str.ofString "licenseref-") = true then
    if Txt.endswith t (Str.ofString "+") = true ∨ okRef (Txt.slice (finP t) (some 11) none) = false then none
    else (lookT D (finP t)).map fun e => (norm ++ [e], true)
  else (tabP licT (finP t)).map fun e => (norm ++ [e ++ sufP t], true)
def nmRun (D : List (PyData × PyData)) : List Str → List Str → Bool → Option (List Str)
  | [], norm, _ => some norm
  | t :: r, norm, lls => (nmStep D t r norm lls).bind fun p => nmRun D r p.1 p.2
def finishP (norm : List Str) : Str := Txt.replace (Txt.replace (Txt.join (Str.ofString " ") norm) (Str.ofString "( ") (Str.ofString "(")) (Str.ofString " )") (Str.ofString ")")
/-- what the def answers: none is its own error -/
def canonP (x : Str) : Option Str :=
  if x.length = 0 then none else
  (pyToks [] (toksP x)).bind fun py =>
    if redN py.length (Txt.join (Str.ofString " ") py) = Str.ofString "False" then (nmRun (refsP x) (toksP x) [] false).map finishP else none
theorem canon_none1 {x : Str} {i : Nat} {acc : List Str} {tok : Str} (hpy : pyToks [] (toksP x) = pyToks acc ((toksP x).drop i)) (hd : (toksP x).drop i = tok :: (toksP x).drop (i + 1)) (h : pyStep acc tok = none) : canonP x = none := by
  unfold canonP
  rw [hpy, hd]
  show (if _ then none else ((pyStep acc tok).bind _).bind _) = none
  rw [h]
  split <;> rfl
theorem canon_none0 {x : Str} (h : x.length = 0) : canonP x = none := by unfold canonP; rw [if_pos h]
theorem canon_none2 {x : Str} {py : List Str} (hpy : pyToks [] (toksP x) = some py) (h : redN py.length (Txt.join (Str.ofString " ") py) ≠ Str.ofString "False") : canonP x = none := by
  unfold canonP
  rw [hpy]
  show (if _ then none else (if _ then _ else none)) = none
  rw [if_neg h]
  split <;> rfl
theorem canon_none3 {x : Str} {i : Nat} {norm : List Str} {lls : Bool} {tok : Str} (hnm : nmRun (refsP x) (toksP x) [] false = nmRun (refsP x) ((toksP x).drop i) norm lls) (hd : (toksP x).drop i = tok :: (toksP x).drop (i + 1))
    (h : nmStep (refsP x) tok ((toksP x).drop (i + 1)) norm lls = none) : canonP x = none := by
  unfold canonP
  rw [hnm, hd]
  have : nmRun (refsP x) (tok :: (toksP x).drop (i + 1)) norm lls = none := by
    show (nmStep _ _ _ _ _).bind _ = none
    rw [h]; rfl
  rw [this]
  split
  · rfl
  · cases pyToks [] (toksP x) with
    | none => rfl
    | some py => show (if _ then _ else none) = none; split <;> rfl
theorem canon_some {x : Str} {py norm : List Str} {lls : Bool} (h0 : x.length ≠ 0) (hpy : pyToks [] (toksP x) = some py) (h : redN py.length (Txt.join (Str.ofString " ") py) = Str.ofString "False")
    (hnm : nmRun (refsP x) (toksP x) [] false = some norm) : canonP x = some (finishP norm) := by
  unfold canonP
  rw [if_neg h0, hpy, hnm]
  show (if _ then some (finishP norm) else none) = _
  rw [if_pos h]
end Mine
end
section
open PySem PySem.W PyProof.Rows PySem.Calls PySem.Spec
namespace Mine
/-- what a table's row is in the heap: a dict with the spelled name under "id" -/
def RowAt (K : Frag) (wp : Params) (a : Addr) (r : Str) : Prop := ∃ es n t, K.lookup a = some ⟨.type "dict", none, .dict es n, #[]⟩ ∧ KeysLit wp es.toList ∧ nsIn K a (Str.ofString "id") = some (some (.str r t))
section
variable {prog : Program} {w : World} {A : Around} {E : Value → Shared → Prop} {s : Shared} {h₀ : Heap} {L a base : Addr} {m : Str → Option Value} {K : Frag} {es : Array DictEntry} {n : Nat} {f : Str} {tf : Tok} {T : List (Str × Addr × Str)}
theorem notin_tab {Q : Value → Shared → Prop} (F : Fr h₀ L s.heap m) (X : K.In h₀) (hl : K.lookup base = some ⟨.type "dict", none, .dict es n, #[]⟩) (hk : KeysLit w.params es.toList)
    (hm : es.toList.map (fun e => (keyOf e.key, e.val)) = T.map (fun p => (some p.1, Value.ref p.2.1))) (hr : ∀ p ∈ T, RowAt K w.params p.2.1 p.2.2) (lo : (base == sysModules) = false)
    (h0 : tabP T f = none → Q (.bool true) { s with toks := s.toks + 1 })
    (h1 : ∀ r a, tabP T f = some r → nsIn K base f = some (some (.ref a)) → RowAt K w.params a r → Q (.bool false) { s with toks := s.toks + 1 }) :
    wpAny (model prog w) A (compareOp .NotIn (.str f tf) (.ref base)) Q E s := by
  have e := nsIn_tab (fun p => (p.1, p.2.1)) T hl hm f
  dsimp only at e
  cases hf : T.find? fun p => p.1 == f with
  | none =>
    rw [hf] at e
    exact topNotIn_K F X hl hk e lo (h0 (by unfold tabP; rw [hf]; rfl))
  | some p =>
    rw [hf] at e
    exact topNotIn_K F X hl hk e lo (h1 p.2.2 p.2.1 (by unfold tabP; rw [hf]; rfl) e (hr p (List.mem_of_find?_eq_some hf)))
theorem item_tab {value slice : Expr} {Q : Value → Shared → Prop} (F : Fr h₀ L s.heap m) (X : K.In h₀) (hl : K.lookup base = some ⟨.type "dict", none, .dict es n, #[]⟩) (hk : KeysLit w.params es.toList) (e : nsIn K base f = some (some (.ref a)))
    (h : Q (.ref a) { s with toks := s.toks + 1 })
    (hs : subscripted slice false (.ref base) (.str f tf) = operate [.ref base, .str f tf] (getItem (.ref base) (.str f tf)) := by with_unfolding_all rfl) :
    wpAny (model prog w) A (subscriptTail value slice (.ref base) (.str f tf)) Q E s := topItem_K F X hl hk e h hs
theorem item_row {value slice : Expr} {r : Str} {Q : Value → Shared → Prop} (F : Fr h₀ L s.heap m) (X : K.In h₀) (hr : RowAt K w.params a r)
    (h : ∀ t, Q (.str r t) { s with toks := s.toks + 1 })
    (hs : subscripted slice false (.ref a) (.str (Str.ofString "id") tf) = operate [.ref a, .str (Str.ofString "id") tf] (getItem (.ref a) (.str (Str.ofString "id") tf)) := by with_unfolding_all rfl) :
    wpAny (model prog w) A (subscriptTail value slice (.ref a) (.str (Str.ofString "id") tf)) Q E s := by
  obtain ⟨es, n, t, hl, hk, e⟩ := hr
  exact topItem_K F X hl hk e (h t) hs
end
end Mine
end
section
open PySem PySem.W PyProof.Rows PySem.Calls PySem.Spec
namespace Mine
def reCode : Array Nat := #[14, 4, 0, 1, 4294967295, 6, 0, 24, 16, 1, 4294967295, 13, 11, 9, 0, 67067904, 134217726, 134217726, 0, 0, 0, 0, 0, 1, 6, 5, 1]
def settle : Nat → Sre.M → Option Sre.M
  | 0, _ => none
  | k + 1, m => let m := m.runFor PySem.Builtin.Re.reTurnSteps; if m.outcome.isSome then some m else settle k m
def outNo : Option Sre.M → Nat
  | some m => match m.outcome with | some .matched => 1 | some .failed => 2 | _ => 3
  | none => 0
def six : List Str := [Str.ofString "own.x-1", Str.ofString "b", Str.ofString "my.1", Str.ofString "", Str.ofString "a_b", Str.ofString "a/b"]
def m0 (y : Str) : Sre.M := Sre.forMatch reCode y.cps 0 (min (0 : Int).toNat y.cps.size) (min (2 ^ 63 - 1 : Int).toNat y.cps.size) false false
theorem six_out : ∀ y ∈ six, outNo (settle 20 (m0 y)) = if okRef y then 1 else 2 := by
  intro y hy
  simp only [six, List.mem_cons, List.not_mem_nil, or_false] at hy
  rcases hy with rfl | rfl | rfl | rfl | rfl | rfl <;> decide +kernel
section
variable {M : Model} {A : Around} {E : Value → Shared → Prop} {s : Shared}
theorem drive (k : Nat) : ∀ (n : Nat) (m m' : Sre.M) (Q : Sre.M → Shared → Prop), k < n → settle k m = some m' → Q m' s → wpAny M A (PySem.Builtin.Re.reDrive n m) Q E s := by
  induction k with
  | zero => intro n m m' Q hn h; cases h
  | succ k ih =>
    intro n m m' Q hn h hq
    obtain ⟨n, rfl⟩ : ∃ j, n = j + 1 := ⟨n - 1, by omega⟩
    unfold settle at h
    unfold PySem.Builtin.Re.reDrive
    dsimp only at h ⊢
    cases ho : (m.runFor PySem.Builtin.Re.reTurnSteps).outcome.isSome with
    | true =>
      rw [ho, if_pos rfl] at h
      obtain rfl := Option.some.inj h
      rw [if_pos rfl]
      exact wpAny_pure hq
    | false =>
      rw [ho, if_neg (by decide)] at h
      rw [if_neg (by decide)]
      exact wpAny_bind (wpAny_rule (ih _ _ _ _ (by omega) h hq))
theorem rules_pass {α : Type} (f : α → PUnit → Sem (ForInStep PUnit)) (hf : ∀ x b (s : Shared) (Q : ForInStep PUnit → Shared → Prop), Q (.yield ⟨⟩) s → wpAny M A (f x b) Q E s) (l : List α) {Q : PUnit → Shared → Prop} (h : Q ⟨⟩ s) : wpAny M A (forIn l ⟨⟩ f) Q E s :=
  wpAny_forIn_list f (fun _ _ s' => s' = s) Q (fun x rest b s' e => hf x b s' _ e) (fun b s' e => by cases b; rw [e]; exact h) l ⟨⟩ rfl
theorem runToEnd (y : Str) (hy : y ∈ six) {Q : Option Sre.M → Shared → Prop} (h1 : okRef y = true → ∀ m, Q (some m) s) (h2 : okRef y = false → Q none s) : wpAny M A (PySem.Builtin.Re.reRunToEnd (m0 y)) Q E s := by
  have ho := six_out y hy
  cases hs : settle 20 (m0 y) with
  | none => rw [hs] at ho; exact absurd ho (by show ¬ (0 = if _ then 1 else 2); split <;> decide)
  | some m =>
    rw [hs] at ho
    unfold PySem.Builtin.Re.reRunToEnd
    refine wpAny_bind (drive 20 _ _ _ _ (by decide) hs ?_)
    refine wpAny_bind (rules_pass _ (fun x b s Q hq => ?_) _ ?_)
    · split
      · exact wpAny_bind (wpAny_rule (wpAny_pure hq))
      · exact wpAny_pure hq
    · unfold outNo at ho
      dsimp only at ho
      split at ho
      · rename_i e; rw [e]
        cases hk : okRef y with
        | true => exact wpAny_pure (h1 hk m)
        | false => rw [hk] at ho; cases ho
      · rename_i e; rw [e]
        cases hk : okRef y with
        | true => rw [hk] at ho; cases ho
        | false => exact wpAny_pure (h2 hk)
      · split at ho <;> cases ho
end
section
variable {prog : Program} {w : World} {A : Around} {E : Value → Shared → Prop} {s : Shared} {h₀ : Heap} {L a p c : Addr} {m : Str → Option Value} {news : List (Addr × Obj)} {K : Frag} {n n2 : Nat} {y : Str} {ty : Tok} {fs items : Array Value} {dd : Option Addr} {sl sl2 : Array (Option Value)}
theorem slot_match : Slot "re.Pattern" "match" "re.Pattern.match" := Slot.of (owner := "re.Pattern") (n := "match") (by rw [typeLookup_type, builtinLookup_eq_fast]; kernel_rfl) (by decide +kernel) (by decide +kernel) (by decide +kernel) (.inr (by decide +kernel)) (by rw [isSubtype_type]; kernel_rfl)
def isMatch (o : Obj) : Prop := o.cls = .type "re.Match"
theorem match_rule {Q : Value → Shared → Prop} (F : Fr h₀ L s.heap m) (N : News h₀ L s.heap news) (X : K.In h₀) (hp : K.lookup p = some ⟨.type "re.Pattern", none, .fields fs, sl⟩) (hg : PySem.Builtin.Re.reRawNat (fs.getD 2 .none) = 0)
    (h6 : PySem.Builtin.Re.reRawNat (fs.getD 6 .none) = 0) (h5 : fs.getD 5 .none = .ref c) (hc : K.lookup c = some ⟨.type "tuple", dd, .seq items n2, sl2⟩) (hcode : (items.map PySem.Builtin.Re.reRawOf).map (·.toNat) = reCode) (hy : y ∈ six)
    (h0 : okRef y = false → Q .none s)
    (h1 : okRef y = true → ∀ r o h', isMatch o → Fr h₀ L h' m → News h₀ L h' ((r, o) :: news) → (∀ q ∈ news, q.1 < r) → Q (.ref r) { s with heap := h' }) :
    wpAny (model prog w) A (call (.builtin "re.Pattern.match") [.ref p, .str y ty]) Q E s := by
  have hp' : s.heap.get? p = some ⟨.type "re.Pattern", none, .fields fs, sl⟩ := F.keep _ _ (X _ _ hp)
  have hc' : s.heap.get? c = some ⟨.type "tuple", dd, .seq items n2, sl2⟩ := F.keep _ _ (X _ _ hc)
  refine wpAny_call (codeAny_call_builtin (b := PySem.Builtin.«re.Pattern.match») slot_match.plain (entryFor_of_tree (by kernel_rfl)) (slot_match.check _ _ _ _ _ _ _ _ ⟨_, hp', rfl⟩ (by rfl) (wpAny_mono (Q := fun fin s' => ∃ v, fin = .done (.ret v) ∧ Q v s') ?_ (fun fin s' h' => by obtain ⟨v, rfl, hv⟩ := h'; exact hv) fun _ _ x => x)))
  have hnm : PySem.Builtin.Re.reNamed "re.Pattern.match" "match" ["string", "pos", "endpos"] 1 [.str y ty] [] = pure [some (.str y ty), none, none] := by with_unfolding_all rfl
  unfold PySem.Builtin.«re.Pattern.match» PySem.Builtin.Re.reTarget
  dsimp only
  rw [hnm]
  refine wpAny_bind (wpAny_bind (wpAny_pure ?_))
  dsimp only
  refine wpAny_bind (wpAny_pure ?_)
  refine wpAny_bind (wpAny_pure ?_)
  refine wpAny_bind (wpAny_fieldsOf hp' rfl ?_)
  refine wpAny_bind (wpAny_pure ?_)
  dsimp only
  rw [h6, hg, h5]
  refine wpAny_bind (wpAny_pure ?_)
  refine wpAny_bind (wpAny_bind (wpAny_seqItems hc' rfl (wpAny_pure ?_)))
  refine wpAny_pure ?_
  dsimp only [Option.getD_some]
  rw [hcode]
  unfold PySem.Builtin.Re.reAnswer
  refine wpAny_bind (runToEnd y hy (fun hk mm => ?_) fun hk => ?_)
  · dsimp only
    unfold PySem.Builtin.Re.reNewMatch
    refine wpAny_bind ?_
    rw [if_neg (by intro hh; simp at hh)]
    rw [List.range_zero, List.flatMap_nil]
    refine wpAny_bind (wpAny_newTuple ?_ (by show 2 ≤ sizeLine; decide))
    have hk1 : ∀ b o, s.heap.get? b = some o → (s.heap.push { cls := .type "tuple", data := .seq (rawInt mm.start :: rawInt mm.handed :: []).toArray }).get? b = some o := fun b o q => Heap.get?_push_of_some _ q
    have F1 := F.keeps hk1
    have N1 := N.keeps hk1
    refine wpAny_newObj_type ?_ (by show (6 : Nat) ≤ sizeLine + 2; decide)
    refine wpAny_pure ⟨_, rfl, ?_⟩
    exact h1 hk _ { cls := .type "re.Match", data := .fields _ } _ rfl (F1.keeps fun b o q => Heap.get?_push_of_some _ q) (News.push F1 N1 _) fun q hq => Heap.lt_size (N1 q hq).1
  · exact wpAny_pure ⟨_, rfl, h0 hk⟩
theorem plainAttrs_pat : PlainAttrs "re.Pattern" :=
  ⟨⟨"object.__getattribute__", by rw [typeLookup_type, builtinLookup_eq_fast]; kernel_rfl, by decide +kernel⟩, by rw [typeLookup_type, builtinLookup_eq_fast]; kernel_rfl⟩
theorem type_match : typeOf (.builtin "re.Pattern.match") = pure (.type "method_descriptor") := by show builtinType _ = _; rw [builtinType_eq_fast]; kernel_rfl
theorem method_pat {pl : Sem Bool} {Q : Value × List Value → Shared → Prop} (F : Fr h₀ L s.heap m) (X : K.In h₀) (hp : K.lookup p = some ⟨.type "re.Pattern", none, .fields fs, sl⟩) (h : Q (.builtin "re.Pattern.match", [.ref p]) s) :
    wpAny (model prog w) A (getMethod (.ref p) (Str.ofString "match") pl) Q E s :=
  have hp' : s.heap.get? p = some ⟨.type "re.Pattern", none, .fields fs, sl⟩ := F.keep _ _ (X _ _ hp)
  getMethod_builtin ⟨_, hp', rfl⟩ plainAttrs_pat slot_match type_match (fun a e => by cases e; exact ⟨_, hp', rfl⟩) h
theorem len_led {l : Addr} {vs : List Value} {ys : List Str} {n : Nat} {Q : Value → Shared → Prop} (N : News h₀ L s.heap news) (hm : (l, listOf vs.toArray n) ∈ news) (hS : StrsAre vs ys) (hb : ys.length ≤ 1000000)
    (h : Q (.int ys.length (s.toks + 1)) { s with toks := s.toks + 1 + 1 }) : wpAny (model prog w) A (call (.builtin "len") [.ref l]) Q E s :=
  len_strsA ⟨_, (N _ hm).1, rfl, n, rfl⟩ hS (by omega) h
theorem truthy_match {o : Obj} {Q : Bool → Shared → Prop} (N : News h₀ L s.heap news) (hm : (a, o) ∈ news) (ho : isMatch o) (h : Q true s) : wpAny (model prog w) A (truthy (.ref a)) Q E s := by
  have hT : s.TypeIs (.ref a) "re.Match" := ⟨o, (N _ hm).1, ho⟩
  unfold truthy
  refine wpAny_bind (wpAny_callSpecial?_none hT (by rw [typeLookup_type, builtinLookup_eq_fast]; kernel_rfl) ?_)
  dsimp only
  exact wpAny_bind (wpAny_specialOf (r := none) hT (by rw [typeLookup_type, builtinLookup_eq_fast]; kernel_rfl) (wpAny_pure h))
end
end Mine
end
section
open PySem PySem.W PyProof.Rows PySem.Calls PySem.Spec
namespace Mine
theorem slice_mem {x : Str} {l u : Option Int} : ∀ c ∈ (Txt.slice x l u).cps.toList, c ∈ x.cps.toList := by
  intro c hc
  unfold Txt.slice at hc
  split at hc
  · exact hc
  · simp only [List.mem_filterMap] at hc
    obtain ⟨i, _, hi⟩ := hc
    rw [← Array.getElem?_toList] at hi
    exact List.mem_of_getElem? hi
theorem Small.slice {x : Str} (h : Small x) (l u : Option Int) : Small (Txt.slice x l u) :=
  ⟨Nat.le_trans (PyProof.Txt.length_slice_le x l u) h.len, fun c hc => h.asc c (slice_mem c hc)⟩
theorem lookup_one {α : Type} {kf : α → Str} {d : α → PyData} {a : α} : ∀ as : List α, a ∈ as → ∃ b ∈ as, kf b = kf a ∧ lookup (.str (kf a)) (putAll PyData.str kf d as) = some (d b) := by
  intro as
  induction as using snocInd with
  | nil => intro h; cases h
  | snoc as b ih =>
    intro h
    rw [putAll_snoc]
    by_cases e : kf a = kf b
    · exact ⟨b, by simp, e.symm, by rw [e]; exact PyProof.V.lookup_putK_same PyProof.V.keyEnc_str _ _ _⟩
    · rw [PyProof.V.lookup_putK_other PyProof.V.keyEnc_str e]
      rcases List.mem_append.mp h with h | h
      · obtain ⟨c, hc, h2⟩ := ih h
        exact ⟨c, by simp [hc], h2⟩
      · rw [List.mem_singleton.mp h] at e; exact absurd rfl e
theorem refs_has {x : Str} (hx : Tame x) {t : Str} (ht : t ∈ toksP x) (hp : Txt.startswith t (Str.ofString "licenseref-") = true) : ∃ r, lookup (.str t) (refsP x) = some (.str r) ∧ lookT (refsP x) t = some r ∧ r.length ≤ 64 := by
  rw [hx.lower] at ht
  obtain ⟨w, hw, rfl⟩ := List.mem_map.mp ht
  have hf : w ∈ (Txt.words (spaced x)).filter isRefP := by
    rw [List.mem_filter]
    refine ⟨hw, ?_⟩
    unfold isRefP
    rw [show Txt.lower (Str.ofString "LicenseRef-") = Str.ofString "licenseref-" from by decide +kernel]
    exact hp
  obtain ⟨b, hb, _, e⟩ := lookup_one (kf := Txt.lower) (d := refValP) _ hf
  refine ⟨_, e, ?_, ?_⟩
  · unfold lookT refsP; rw [e]; rfl
  · have h1 := hx.wshort b (List.mem_filter.mp hb).1
    have h2 := PyProof.Txt.length_slice_le b (some ((11 : Nat) : Int)) none
    rw [Str.length_append]
    have : (Str.ofString "LicenseRef-").length = 11 := by decide
    omega
section
variable {prog : Program} {w : World} {A : Around} {E : Value → Shared → Prop} {s : Shared} {h₀ : Heap} {L l : Addr} {m : Str → Option Value} {news : List (Addr × Obj)} {vs : List Value} {ys : List Str} {n : Nat}
theorem next_strs {value slice : Expr} {i : Nat} {u : Tok} {Q : Value → Shared → Prop} (N : News h₀ L s.heap news) (hm : (l, listOf vs.toArray n) ∈ news) (hS : StrsAre vs ys) (hb : ys.length ≤ 1000000) (hi : i + 1 < ys.length)
    (h : ∀ y t, ys[i + 1]? = some y → Q (.str y t) s)
    (hs : subscripted slice false (.ref l) (.int ((i : Int) + 1) u) = operate [.ref l, .int ((i : Int) + 1) u] (getItem (.ref l) (.int ((i : Int) + 1) u)) := by with_unfolding_all rfl) :
    wpAny (model prog w) A (subscriptTail value slice (.ref l) (.int ((i : Int) + 1) u)) Q E s := by
  have hl : s.heap.IsList l vs.toArray := ⟨_, (N _ hm).1, rfl, n, rfl⟩
  obtain ⟨y, hy⟩ : ∃ y, ys[i + 1]? = some y := ⟨_, List.getElem?_eq_getElem hi⟩
  obtain ⟨t, ht⟩ := strs_get hS hy
  refine tail_any hl.typeIs slot_list_getitem.lookup (wpAny_getItem_list hl (by omega) (by omega) ?_ (h y t hy)) hs
  rw [show ((i : Int) + 1).toNat = i + 1 from by omega]
  simpa using ht
end
theorem tab_len {T : List (Str × Addr × Str)} (hT : ∀ p ∈ T, p.2.2.length ≤ 40) {f r : Str} (h : tabP T f = some r) : r.length ≤ 40 := by
  unfold tabP at h
  cases hf : T.find? fun p => p.1 == f with
  | none => rw [hf] at h; cases h
  | some p =>
    rw [hf] at h
    obtain rfl := Option.some.inj h
    exact hT p (List.mem_of_find?_eq_some hf)
theorem lic_len {f r : Str} (h : tabP licT f = some r) : r.length ≤ 40 := tab_len (by decide +kernel) h
theorem exc_len {f r : Str} (h : tabP excT f = some r) : r.length ≤ 40 := tab_len (by decide +kernel) h
def six' : List Str := [Str.ofString "licenseref-own.x-1", Str.ofString "licenseref-b", Str.ofString "licenseref-my.1", Str.ofString "licenseref-", Str.ofString "licenseref-a_b", Str.ofString "licenseref-a/b"]
theorem six_of {t : Str} : t ∈ six' → Txt.slice t (some ((11 : Nat) : Int)) none ∈ six := by
  intro h
  simp only [six', List.mem_cons, List.not_mem_nil, or_false] at h
  rcases h with rfl | rfl | rfl | rfl | rfl | rfl <;> decide
theorem Tame.six {x : Str} (hx : Tame x) {t : Str} (ht : t ∈ toksP x) (hp : Txt.startswith t (Str.ofString "licenseref-") = true) (he : Txt.endswith t (Str.ofString "+") = false) : Txt.slice t (some ((11 : Nat) : Int)) none ∈ six :=
  six_of (hx.refs t ht hp he)
end Mine
end
section
open PySem PySem.W PyProof.Rows PySem.Calls PySem.Spec
namespace Mine
theorem turned3 {g h' : Heap} {L e9 I P l1 : Addr} {oe oi o1 : Obj} {rest : List (Addr × Obj)} {W : List Str → Bool → Nat → Prop} {m m₀ : Str → Option Value} {i k n' : Nat} {s₁ : Shared} {Q : Flow → Shared → Prop} {y : Str} {norm : List Str} {vsN : List Value} {tt : Tok} {b : Bool}
    (F : Fr g L h' m) (N : News g L h' ((e9, oe) :: (I, oi) :: (P, listOf (vsN ++ [Value.str y tt]).toArray n') :: rest)) (hc : (l1, o1) ∈ rest) (ho : P ≠ e9 ∧ P ≠ I) (hr : ∀ q ∈ rest, q.1 ≠ e9 ∧ q.1 ≠ I)
    (hS : StrsAre vsN norm) (hW : W (norm ++ [y]) b (i + 1)) (hlen : norm.length ≤ i) (ha : ∀ y ∈ norm, y.length ≤ 64) (hy : y.length ≤ 64) (hb : m (Str.ofString "last_license_start") = some (.bool b))
    (hm : ∀ z, z ≠ Str.ofString "index" → z ≠ Str.ofString "token" → z ≠ Str.ofString "last_license_start" → z ≠ Str.ofString "final_token" → z ≠ Str.ofString "suffix" → z ≠ Str.ofString "license_ref_id" → m z = m₀ z) (f : Flow) (hf : f = .next ∨ f = .cont) :
    TurnedE g L e9 I oe oi [(l1, o1)] (J3 P rest W m₀ (i + 1)) s₁ Q f { s₁ with heap := h', toks := k } := by
  have key : ∃ h'' tk m' nx, ({ s₁ with heap := h', toks := k } : Shared) = { s₁ with heap := h'', toks := tk } ∧ Fr g L h'' m' ∧ News g L h'' ((e9, oe) :: (I, oi) :: nx) ∧ (∀ q ∈ [(l1, o1)], q ∈ nx) ∧ (∀ q ∈ nx, q.1 ≠ e9 ∧ q.1 ≠ I) ∧ J3 P rest W m₀ (i + 1) m' nx := by
    refine ⟨h', k, m, (P, listOf (vsN ++ [Value.str y tt]).toArray n') :: rest, rfl, F, N, fun q hq => by rw [List.mem_singleton.mp hq]; exact .tail _ hc, fun q hq => ?_, vsN ++ [Value.str y tt], n', norm ++ [y], b, rfl, strs_snoc hS y tt, hW, ?_, ?_, hb, hm⟩
    · rcases List.mem_cons.mp hq with rfl | hq
      · exact ho
      · exact hr q hq
    · rw [List.length_append]; simp; omega
    · intro z hz
      rcases List.mem_append.mp hz with hz | hz
      · exact ha z hz
      · rw [List.mem_singleton.mp hz]; exact hy
  rcases hf with rfl | rfl <;> exact key
/-- the third loop's word -/
def W3 (x : Str) (norm : List Str) (lls : Bool) (i : Nat) : Prop := nmRun (refsP x) (toksP x) [] false = nmRun (refsP x) ((toksP x).drop i) norm lls
theorem W3.step {x : Str} {norm norm' : List Str} {lls b : Bool} {i : Nat} {tok : Str} (h : W3 x norm lls i) (hd : (toksP x).drop i = tok :: (toksP x).drop (i + 1)) (hs : nmStep (refsP x) tok ((toksP x).drop (i + 1)) norm lls = some (norm', b)) : W3 x norm' b (i + 1) := by
  unfold W3 at h ⊢
  rw [h, hd]
  show (nmStep _ _ _ _ _).bind _ = _
  rw [hs]; rfl
theorem upper_len {t : Str} (h : kw t = true) : (Txt.upper t).length ≤ 64 := by
  simp only [kw, Bool.or_eq_true, decide_eq_true_eq, Bool.false_eq_true, false_or] at h
  rcases h with (((h | h) | h) | h) | h <;> (subst h; decide +kernel)
section
variable {D : List (PyData × PyData)} {t : Str} {r norm : List Str} {lls : Bool} {e : Str}
theorem nm_kw1 (h : kw t = true) (h2 : (t == Str.ofString "with") = false) : nmStep D t r norm lls = some (norm ++ [Txt.upper t], false) := by
  have h2 := ne_of_beqF h2
  unfold nmStep; rw [if_pos h, if_neg (fun e => h2 e.1)]
theorem nm_kw2 (h : kw t = true) (h3 : lls = true) (h4 : r ≠ []) (h5 : kw (r.head?.getD Str.empty) = false) : nmStep D t r norm lls = some (norm ++ [Txt.upper t], false) := by
  unfold nmStep; rw [if_pos h, if_neg (fun q => q.2.elim (fun q => by rw [h3] at q; cases q) fun q => q.elim h4 fun q => by rw [h5] at q; cases q)]
theorem nm_kw3 (h : kw t = true) (h2 : (t == Str.ofString "with") = true) (h3 : lls = false ∨ r = [] ∨ kw (r.head?.getD Str.empty) = true) : nmStep D t r norm lls = none := by
  have h2 := eq_of_beq h2
  unfold nmStep; rw [if_pos h, if_pos ⟨h2, h3⟩]
theorem nm_ex1 (h : kw t = false) (h2 : norm ≠ []) (h3 : (norm.getLast?.getD Str.empty == Str.ofString "WITH") = true) (h4 : tabP excT t = none) : nmStep D t r norm lls = none := by
  have h3 := eq_of_beq h3
  unfold nmStep; rw [if_neg (by rw [h]; decide), if_pos ⟨h2, h3⟩, h4]; rfl
theorem nm_ex2 (h : kw t = false) (h2 : norm ≠ []) (h3 : (norm.getLast?.getD Str.empty == Str.ofString "WITH") = true) (h4 : tabP excT t = some e) : nmStep D t r norm lls = some (norm ++ [e], false) := by
  have h3 := eq_of_beq h3
  unfold nmStep; rw [if_neg (by rw [h]; decide), if_pos ⟨h2, h3⟩, h4]; rfl
abbrev notW (norm : List Str) : Prop := ¬ (norm ≠ [] ∧ norm.getLast?.getD Str.empty = Str.ofString "WITH")
theorem notW1 (h : norm = []) : notW norm := fun e => e.1 h
theorem notW2 (h : (norm.getLast?.getD Str.empty == Str.ofString "WITH") = false) : notW norm := fun e => ne_of_beqF h e.2
theorem nm_rf1 (h : kw t = false) (h2 : notW norm) (h3 : Txt.endswith t (Str.ofString "+") = true) (h4 : Txt.startswith (Txt.slice t none (some (-1))) (Str.ofString "licenseref-") = true) : nmStep D t r norm lls = none := by
  unfold nmStep finP; rw [if_neg (by rw [h]; decide), if_neg h2, if_pos h3, if_pos h4, if_pos (.inl h3)]
theorem nm_rf2 (h : kw t = false) (h2 : notW norm) (h3 : Txt.endswith t (Str.ofString "+") = false) (h4 : Txt.startswith t (Str.ofString "licenseref-") = true) (h5 : okRef (Txt.slice t (some ((11 : Nat) : Int)) none) = false) : nmStep D t r norm lls = none := by
  have hf : finP t = t := by unfold finP; rw [if_neg (by rw [h3]; decide)]
  unfold nmStep; rw [if_neg (by rw [h]; decide), if_neg h2, hf, if_pos h4, if_pos (.inr h5)]
theorem nm_rf3 (h : kw t = false) (h2 : notW norm) (h3 : Txt.endswith t (Str.ofString "+") = false) (h4 : Txt.startswith t (Str.ofString "licenseref-") = true) (h5 : okRef (Txt.slice t (some ((11 : Nat) : Int)) none) = true) (h6 : lookT D t = some e) : nmStep D t r norm lls = some (norm ++ [e], true) := by
  have hf : finP t = t := by unfold finP; rw [if_neg (by rw [h3]; decide)]
  unfold nmStep; rw [if_neg (by rw [h]; decide), if_neg h2, hf, if_pos h4, if_neg (fun q => q.elim (fun q => by rw [h3] at q; cases q) fun q => by rw [show Txt.slice t (some 11) none = Txt.slice t (some ((11 : Nat) : Int)) none from rfl, h5] at q; cases q), h6]; rfl
theorem nm_li1 (h : kw t = false) (h2 : notW norm) (h3 : Txt.endswith t (Str.ofString "+") = true) (h4 : Txt.startswith (Txt.slice t none (some (-1))) (Str.ofString "licenseref-") = false) (h5 : tabP licT (Txt.slice t none (some (-1))) = none) : nmStep D t r norm lls = none := by
  have hf : finP t = Txt.slice t none (some (-1)) := by unfold finP; rw [if_pos h3]
  unfold nmStep; rw [if_neg (by rw [h]; decide), if_neg h2, hf, if_neg (by rw [h4]; decide), h5]; rfl
theorem nm_li2 (h : kw t = false) (h2 : notW norm) (h3 : Txt.endswith t (Str.ofString "+") = false) (h4 : Txt.startswith t (Str.ofString "licenseref-") = false) (h5 : tabP licT t = none) : nmStep D t r norm lls = none := by
  have hf : finP t = t := by unfold finP; rw [if_neg (by rw [h3]; decide)]
  unfold nmStep; rw [if_neg (by rw [h]; decide), if_neg h2, hf, if_neg (by rw [h4]; decide), h5]; rfl
theorem nm_li3 (h : kw t = false) (h2 : notW norm) (h3 : Txt.endswith t (Str.ofString "+") = true) (h4 : Txt.startswith (Txt.slice t none (some (-1))) (Str.ofString "licenseref-") = false) (h5 : tabP licT (Txt.slice t none (some (-1))) = some e) : nmStep D t r norm lls = some (norm ++ [e ++ Str.ofString "+"], true) := by
  have hf : finP t = Txt.slice t none (some (-1)) := by unfold finP; rw [if_pos h3]
  have hs : sufP t = Str.ofString "+" := by unfold sufP; rw [if_pos h3]
  unfold nmStep; rw [if_neg (by rw [h]; decide), if_neg h2, hf, if_neg (by rw [h4]; decide), h5, hs]; rfl
theorem nm_li4 (h : kw t = false) (h2 : notW norm) (h3 : Txt.endswith t (Str.ofString "+") = false) (h4 : Txt.startswith t (Str.ofString "licenseref-") = false) (h5 : tabP licT t = some e) : nmStep D t r norm lls = some (norm ++ [e ++ Str.ofString ""], true) := by
  have hf : finP t = t := by unfold finP; rw [if_neg (by rw [h3]; decide)]
  have hs : sufP t = Str.ofString "" := by unfold sufP; rw [if_neg (by rw [h3]; decide)]
  unfold nmStep; rw [if_neg (by rw [h]; decide), if_neg h2, hf, if_neg (by rw [h4]; decide), h5, hs]; rfl
variable {l : List Str} {i : Nat} {y : Str}
theorem head_drop (h : l[i]? = some y) : (l.drop i).head?.getD Str.empty = y := by
  rw [List.head?_drop, h]; rfl
theorem drop_ne (h : l[i]? = some y) : l.drop i ≠ [] := fun e => by
  have := (List.getElem?_eq_some_iff.mp h).1
  have h2 := congrArg List.length e
  rw [List.length_drop] at h2
  simp at h2; omega
theorem nm_kw2' (h : kw t = true) (h3 : lls = true) (hy : l[i]? = some y) (h5 : kw y = false) : nmStep D t (l.drop i) norm lls = some (norm ++ [Txt.upper t], false) :=
  nm_kw2 h h3 (drop_ne hy) (by rw [head_drop hy]; exact h5)
theorem nm_kw3a (h : kw t = true) (h2 : (t == Str.ofString "with") = true) (h3 : lls = false) : nmStep D t r norm lls = none := nm_kw3 h h2 (.inl h3)
theorem nm_kw3b (h : kw t = true) (h2 : (t == Str.ofString "with") = true) (h3 : (i : Int) + 1 = l.length) : nmStep D t (l.drop (i + 1)) norm lls = none := nm_kw3 h h2 (.inr (.inl (by rw [List.drop_eq_nil_iff]; omega)))
theorem nm_kw3c (h : kw t = true) (h2 : (t == Str.ofString "with") = true) (hy : l[i]? = some y) (h5 : kw y = true) : nmStep D t (l.drop i) norm lls = none := nm_kw3 h h2 (.inr (.inr (by rw [head_drop hy]; exact h5)))
end
theorem lic_len2 {f r s : Str} (h : tabP licT f = some r) (hs : s.length ≤ 1) : (r ++ s).length ≤ 64 := by
  have := lic_len h
  rw [Str.length_append]; omega
theorem rf_look {D : List (PyData × PyData)} {t r : Str} (h : lookup (.str t) D = some (.str r) ∧ lookT D t = some r ∧ r.length ≤ 64) : lookT D t = some r := h.2.1
theorem rf_len {D : List (PyData × PyData)} {t r : Str} (h : lookup (.str t) D = some (.str r) ∧ lookT D t = some r ∧ r.length ≤ 64) : r.length ≤ 64 := h.2.2
theorem fr_out3 {h₀ h : Heap} {L : Addr} {m m₀ : Str → Option Value} (F : Fr h₀ L h m) (hm : ∀ z, z ≠ Str.ofString "index" → z ≠ Str.ofString "token" → z ≠ Str.ofString "last_license_start" → z ≠ Str.ofString "final_token" → z ≠ Str.ofString "suffix" → z ≠ Str.ofString "license_ref_id" → m z = m₀ z) :
    ∃ a b c d e f, Fr h₀ L h (fun z => if z = Str.ofString "index" then a else if z = Str.ofString "token" then b else if z = Str.ofString "last_license_start" then c else if z = Str.ofString "final_token" then d else if z = Str.ofString "suffix" then e else if z = Str.ofString "license_ref_id" then f else m₀ z) := by
  refine ⟨m (Str.ofString "index"), m (Str.ofString "token"), m (Str.ofString "last_license_start"), m (Str.ofString "final_token"), m (Str.ofString "suffix"), m (Str.ofString "license_ref_id"), ?_⟩
  have e : (fun z => if z = Str.ofString "index" then m (Str.ofString "index") else if z = Str.ofString "token" then m (Str.ofString "token") else if z = Str.ofString "last_license_start" then m (Str.ofString "last_license_start") else if z = Str.ofString "final_token" then m (Str.ofString "final_token") else if z = Str.ofString "suffix" then m (Str.ofString "suffix") else if z = Str.ofString "license_ref_id" then m (Str.ofString "license_ref_id") else m₀ z) = m := by
    funext z
    by_cases h0 : z = Str.ofString "index"
    · simp only [if_pos h0]; rw [h0]
    by_cases h1 : z = Str.ofString "token"
    · simp only [if_neg h0, if_pos h1]; rw [h1]
    by_cases h2 : z = Str.ofString "last_license_start"
    · simp only [if_neg h0, if_neg h1, if_pos h2]; rw [h2]
    by_cases h3 : z = Str.ofString "final_token"
    · simp only [if_neg h0, if_neg h1, if_neg h2, if_pos h3]; rw [h3]
    by_cases h4 : z = Str.ofString "suffix"
    · simp only [if_neg h0, if_neg h1, if_neg h2, if_neg h3, if_pos h4]; rw [h4]
    by_cases h5 : z = Str.ofString "license_ref_id"
    · simp only [if_neg h0, if_neg h1, if_neg h2, if_neg h3, if_neg h4, if_pos h5]; rw [h5]
    simp only [if_neg h0, if_neg h1, if_neg h2, if_neg h3, if_neg h4, if_neg h5]
    exact (hm z h0 h1 h2 h3 h4 h5).symm
  rw [e]; exact F
theorem W3.done {x : Str} {norm : List Str} {lls : Bool} {n : Nat} (h : W3 x norm lls n) (hn : n = (toksP x).length) : nmRun (refsP x) (toksP x) [] false = some norm := by
  unfold W3 at h
  rw [h, hn, List.drop_length]; rfl
theorem eq_of_bneF {a b : Str} (h : (a != b) = false) : a = b := by simpa using h
theorem len_ne {x : Str} (h : ((x.length : Nat) : Int) ≠ 0) : x.length ≠ 0 := fun e => h (by rw [e]; rfl)
theorem len_zero {x : Str} (h : ((x.length : Nat) : Int) = 0) : x.length = 0 := by omega
theorem drop3_1 {q : Addr × Obj} {l1 l2 : List (Addr × Obj)} {a : Addr × Obj} (h : q ∈ l1) : q ∈ a :: l1 := .tail _ h
end Mine
end
section
open PySem PySem.W PyProof.Rows PySem.Calls
namespace Mine
section
variable {prog : Program} {w : World} {A A₀ : Around} {s : Shared} {base h₀ : Heap} {L : Addr} {m mg mb : Str → Option Value} {env : Env} {news : List (Addr × Obj)} {K : Frag} {p : Program} {loose : List Str} {mean : ExcName → Option Value}
  {R : Result → Shared → Prop} {name qual : Str} {params : Arguments} {body : List Stmt} {scope : Scope} {dV kV doc pm cdv ct oc : Value} {an od : Option Addr} {osl : Array (Option Value)} {f : Addr} {args : Args} {binds : List (Str × Value)}
/-- how a def that may have caught leaves: the frames' slots below may have turned -/
def LeaveT (fs : List Addr) (h₀ : Heap) (L : Addr) (m : Str → Option Value) (news : List (Addr × Obj)) (g : Heap) (R : Result → Shared → Prop) (v : Value) (s' : Shared) : Prop :=
  ∃ g', KtsTurn fs g g' ∧ (∀ b o, g'.get? b = some o → s'.heap.get? b = some o) ∧ (Fr h₀ L s'.heap m → News h₀ L s'.heap news → R (.ok (.ret v)) s')
/-- a call, out of a frame that may have cells, of a def that may catch -/
theorem enterT (B : Below A₀ base [] h₀) (F : Fr h₀ L s.heap m) (X : K.In h₀) (N : News h₀ L s.heap news) (T : Top p loose mean mg mb h₀) (hA : A.frames = some [env]) (hf : env.frame = some L) (hke : env.scope.kind = .function)
    (ho : List.lookup f K = some ⟨oc, od, .func (fnOf name qual params body scope dV kV doc pm an cdv ct), osl⟩) (hcd : codeIn K cdv qual = true) (hroom : A.depth < recursionLimit)
    (hbind : BindsTo s (fnOf name qual params body scope dV kV doc pm an cdv ct) args binds) (hloc : ∀ y ∈ binds, scope.names.lookup y.1 = some .local)
    (h : ∀ g L' h₁, g = s.heap → Fr g L' h₁ (fun y => binds.reverse.lookup y) → Below A base [env] g → K.In g → Top p loose mean mg mb g → KtsDicts ([env].filterMap (·.frame)) g →
      wpAny (model prog w) (A.deeper (envOf qual scope L' f cdv)) (execs body (envOf qual scope L' f cdv))
        (fun fl s' => LeaveT ([env].filterMap (·.frame)) h₀ L m news g R (match fl with | .ret v => v | _ => .none) s')
        (fun e s' => wpAny (model prog w) (A.deeper (envOf qual scope L' f cdv)) (leaving (envOf qual scope L' f cdv) e) (fun _ s'' => R (.error e) s'') (fun e' s'' => R (.error e') s'') s')
        { s with heap := h₁, toks := s.toks + binds.length })
    (hco : scope.isCoroutine = false) (hgen : scope.isGenerator = false) (hk : scope.kind = .function) (hcell : ∀ x ∈ scope.names, x.2 ≠ .cell) : codeAny (model prog w) A (.call (.ref f) args) R s := by
  have X' := X.keeps F.keep
  obtain ⟨FG, BG, st, back⟩ := groundX (R := R) B F (News.nil (h₀ := h₀) (L := L) (h := s.heap)) hA hf hke
  have hfm : [env].filterMap (·.frame) = [L] := by simp [hf]
  obtain ⟨oL, es, ep, hL, hLd, hLk, hLf⟩ := F.ns
  refine codeAny_call_def (fd := fnOf name qual params body scope dV kV doc pm an cdv ct) (body := body) (binds := binds) hroom (X' _ _ ho) rfl (T.nolimit.keeps F.keep) (codeRec_of X' hcd) rfl hbind hcell hloc (fun h₁ hns hk₁ => ?_) hco hgen hk
  refine wpAny_mono (h s.heap s.heap.objs.size h₁ rfl ⟨hns, fun b o e => hk₁ b o e, Nat.le_refl _⟩ BG (X.keeps st) (T.keeps st) (fun b hb => by
      rw [hfm, List.mem_singleton] at hb
      subst hb
      exact ⟨oL, es, ep, hL, hLd⟩)) (fun fl s' hl => ?_) fun _ _ y => y
  rw [hfm] at hl
  obtain ⟨g', T', kp, k⟩ := hl
  have nL₀ : h₀.get? L = none := kts_self F
  obtain ⟨sl, hs⟩ := T'.up hL
  have hne : ∀ b o, s.heap.get? b = some o → b ≠ L → s'.heap.get? b = some o := fun b o e n => kp b o (T'.other b o e (fun q => n (List.mem_singleton.mp q)))
  refine k ⟨⟨_, es, ep, kp _ _ hs, hLd, hLk, hLf⟩, fun b o e => hne b o (F.keep b o e) (fun q => by rw [q, nL₀] at e; cases e), F.above⟩ fun p hp => ⟨hne _ _ (N p hp).1 (N p hp).2.1, (N p hp).2.1, (N p hp).2.2⟩
end
end Mine
end
section
open PySem PySem.W PyProof.Rows PySem.Calls PyProof.V PySem.Spec
namespace Mine
theorem es_canLayAll0 : ∀ ns : List Str, (∀ y ∈ ns, PyData.strOk y = true) → PyData.canLayAll0 (ns.map PyData.str) = true
  | [], _ => rfl
  | y :: r, h => by simp [PyData.canLayAll0, PyData.canLay0, h y (.head _), es_canLayAll0 r fun y hy => h y (.tail _ hy)]
theorem es_depthAll : ∀ ns : List Str, PyData.depthAll (ns.map PyData.str) = 0
  | [] => rfl
  | _ :: r => by simp [PyData.depthAll, PyData.depth, es_depthAll r]
theorem es_shaped (ns : List Str) (h : ∀ y ∈ ns, PyData.strOk y = true) : SeqAt.shaped (.list (ns.map PyData.str)) = true := by
  simp [SeqAt.shaped, PyData.canLay0, PyData.depth, es_canLayAll0 ns h, es_depthAll]
theorem es_sameAll : ∀ ns ms : List Str, PySem.Spec.sameAll (ns.map PyData.str) (ms.map PyData.str) = decide (ns = ms)
  | [], [] => by simp [PySem.Spec.sameAll]
  | [], _ :: _ => by simp [PySem.Spec.sameAll]
  | _ :: _, [] => by simp [PySem.Spec.sameAll]
  | a :: r, b :: t => by
    simp only [List.map_cons, PySem.Spec.sameAll, PySem.Spec.same, es_sameAll r t]
    by_cases h : a = b <;> by_cases h' : r = t <;> simp [h, h']
theorem es_same (ns ms : List Str) : PySem.Spec.same (.list (ns.map PyData.str)) (.list (ms.map PyData.str)) = decide (ns = ms) := by
  simp only [PySem.Spec.same]; exact es_sameAll ns ms
theorem es_carried : ∀ {vs : List Value} {ns : List Str}, StrsAre vs ns → CarriedAll vs (ns.map PyData.str)
  | _, _, .nil => .nil
  | _, _, .cons _ t r => .cons (.str _ t) (es_carried r)
section
variable {prog : Program} {w : World} {A : Around} {E : Value → Shared → Prop} {s : Shared} {a b l : Addr} {xs ys vs : List Value} {ns ms : List Str} {Q : Value → Shared → Prop} {h₀ : Heap} {L : Addr} {m : Str → Option Value} {news : List (Addr × Obj)} {na nb : Nat} {value slice : Expr} {vl vu : Value} {i j : Int}
theorem eq_strs (N : News h₀ L s.heap news) (ha : (a, listOf xs.toArray na) ∈ news) (hb : (b, listOf ys.toArray nb) ∈ news) (hi : StrsAre xs ns) (hj : StrsAre ys ms) (oi : ∀ y ∈ ns, PyData.strOk y = true) (oj : ∀ y ∈ ms, PyData.strOk y = true) (hu : A.units + 64 < cLine) (h : Q (.bool (decide (ns = ms))) s) :
    wpAny (model prog w) A (compareOp .Eq (.ref a) (.ref b)) Q E s :=
  eq_dataH_same (reads_newData ⟨_, (N _ ha).1, rfl, na, rfl⟩ (es_carried hi)) (reads_newData ⟨_, (N _ hb).1, rfl, nb, rfl⟩ (es_carried hj)) (es_shaped _ oi) (es_shaped _ oj) hu (SeqAt.noMix_of_shape (.list .str) rfl _ _ (list_map_has fun _ => rfl) (list_map_has fun _ => rfl)) (by rw [es_same]; exact h)
theorem ne_strs (N : News h₀ L s.heap news) (ha : (a, listOf xs.toArray na) ∈ news) (hb : (b, listOf ys.toArray nb) ∈ news) (hi : StrsAre xs ns) (hj : StrsAre ys ms) (oi : ∀ y ∈ ns, PyData.strOk y = true) (oj : ∀ y ∈ ms, PyData.strOk y = true) (hu : A.units + 64 < cLine) (h : Q (.bool (!decide (ns = ms))) s) :
    wpAny (model prog w) A (compareOp .NotEq (.ref a) (.ref b)) Q E s :=
  ne_dataH_same (reads_newData ⟨_, (N _ ha).1, rfl, na, rfl⟩ (es_carried hi)) (reads_newData ⟨_, (N _ hb).1, rfl, nb, rfl⟩ (es_carried hj)) (es_shaped _ oi) (es_shaped _ oj) hu (SeqAt.noMix_of_shape (.list .str) rfl _ _ (list_map_has fun _ => rfl) (list_map_has fun _ => rfl)) (by rw [es_same]; exact h)
theorem strs_drop : ∀ {vs : List Value} {ns : List Str} (k : Nat), StrsAre vs ns → StrsAre (vs.drop k) (ns.drop k)
  | _, _, 0, h => by simpa using h
  | _, _, _ + 1, .nil => by simpa using StrsAre.nil
  | _, _, k + 1, .cons _ _ r => by simpa using strs_drop k r
theorem strs_take : ∀ {vs : List Value} {ns : List Str} (k : Nat), StrsAre vs ns → StrsAre (vs.take k) (ns.take k)
  | _, _, 0, _ => by simpa using StrsAre.nil
  | _, _, _ + 1, .nil => by simpa using StrsAre.nil
  | _, _, k + 1, .cons y t r => by simpa using StrsAre.cons y t (strs_take k r)
/-- a part of a list of texts, both ends written as places -/
theorem slice_strs {p q : Nat} (F : Fr h₀ L s.heap m) (N : News h₀ L s.heap news) (hm : (l, listOf vs.toArray na) ∈ news) (hS : StrsAre vs ns) (hb : ns.length ≤ 1000000) (pl : IsPart vl (some i)) (pu : IsPart vu (some j)) (hi : i = (p : Int)) (hj : j = (q : Int)) (hpq : p ≤ q)
    (h : ∀ D zs h', StrsAre zs ((ns.drop p).take (q - p)) → Fr h₀ L h' m → News h₀ L h' ((D, listOf (List.toArray zs) 0) :: news) → (∀ p ∈ news, p.1 < D) → Q (.ref D) { s with heap := h' })
    (hs : subscripted slice false (.ref l) (.ref s.heap.objs.size) = operate [.ref s.heap.objs.size, .ref l] (getItem (.ref l) (.ref s.heap.objs.size))) (ht : ∀ r, letTemporaryGo value (.ref l) r = pure ()) :
    wpAny (model prog w) A (subscriptTail value slice (.ref l) (.ref s.heap.objs.size)) Q E { s with heap := s.heap.push { cls := .type "slice", data := .fields #[vl, vu, .none] } } := by
  have hl : s.heap.IsList l vs.toArray := ⟨_, (N _ hm).1, rfl, na, rfl⟩
  have hlen := strs_len hS
  refine kms_slice_lit F N hl pl pu rfl (fun D h' F' N' l1 => h D _ h' ?_ F' N' l1) hs ht (by rw [sizeLine_eq, List.size_toArray]; omega)
  subst hi hj
  have e1 : kms_lo (some (p : Int)) vs.length = min p vs.length := by simp only [kms_lo]; rw [if_neg (by omega)]; simp
  have e2 : kms_hi (some (q : Int)) vs.length = min q vs.length := by simp only [kms_hi]; rw [if_neg (by omega)]; simp
  show StrsAre (kms_pick vs.toArray.toList _ _) _
  have e3 : kms_pick vs (some (p : Int)) (some (q : Int)) = (vs.drop p).take (q - p) := by
    unfold kms_pick
    rw [e1, e2, kmk_drop_min]
    by_cases hp : p ≤ vs.length
    · rw [Nat.min_eq_left hp]
      by_cases hq : q ≤ vs.length
      · rw [Nat.min_eq_left hq]
      · rw [Nat.min_eq_right (by omega)]
        rw [List.take_of_length_le (by rw [List.length_drop]; omega), List.take_of_length_le (by rw [List.length_drop]; omega)]
    · rw [List.drop_of_length_le (by omega)]; simp
  rw [show vs.toArray.toList = vs from by simp, e3]
  exact strs_take _ (strs_drop _ hS)
theorem drop_one {α : Type} (l : List α) (p : Nat) : (l.drop p).take 1 = match l[p]? with | none => [] | some y => [y] := by
  have e : l[p]? = (l.drop p)[0]? := by rw [List.getElem?_drop, Nat.add_zero]
  rw [e]
  cases l.drop p <;> rfl
/-- a part of one place: it is empty or one text -/
theorem slice_one {p : Nat} (F : Fr h₀ L s.heap m) (N : News h₀ L s.heap news) (hm : (l, listOf vs.toArray na) ∈ news) (hS : StrsAre vs ns) (hb : ns.length ≤ 1000000) (pl : IsPart vl (some i)) (pu : IsPart vu (some j)) (hi : i = (p : Int)) (hj : j = ((p + 1 : Nat) : Int))
    (h0 : ns[p]? = none → ∀ D h', Fr h₀ L h' m → News h₀ L h' ((D, listOf (List.toArray []) 0) :: news) → (∀ p ∈ news, p.1 < D) → Q (.ref D) { s with heap := h' })
    (h1 : ∀ y t, ns[p]? = some y → ∀ D h', Fr h₀ L h' m → News h₀ L h' ((D, listOf (List.toArray [Value.str y t]) 0) :: news) → (∀ p ∈ news, p.1 < D) → Q (.ref D) { s with heap := h' })
    (hs : subscripted slice false (.ref l) (.ref s.heap.objs.size) = operate [.ref s.heap.objs.size, .ref l] (getItem (.ref l) (.ref s.heap.objs.size))) (ht : ∀ r, letTemporaryGo value (.ref l) r = pure ()) :
    wpAny (model prog w) A (subscriptTail value slice (.ref l) (.ref s.heap.objs.size)) Q E { s with heap := s.heap.push { cls := .type "slice", data := .fields #[vl, vu, .none] } } := by
  refine slice_strs (p := p) (q := p + 1) F N hm hS hb pl pu hi hj (by omega) (fun D zs h' hz F' N' l1 => ?_) hs ht
  rw [show p + 1 - p = 1 from by omega, drop_one] at hz
  cases hy : ns[p]? with
  | none =>
    rw [hy] at hz
    have : zs = [] := by cases hz; rfl
    subst this
    exact h0 hy D h' F' N' l1
  | some y =>
    rw [hy] at hz
    obtain ⟨t, rfl⟩ : ∃ t, zs = [Value.str y t] := by
      cases hz with
      | cons y t r => cases r; exact ⟨t, rfl⟩
    exact h1 y t hy D h' F' N' l1
end
end Mine
end
section
open PySem PySem.W PyProof.Rows PySem.Calls
namespace Mine
section
variable {M : Model} {A : Around} {E : Value → Shared → Prop} {s : Shared} {env : Env} {Q : Flow → Shared → Prop} {h₀ : Heap} {L : Addr} {m : Str → Option Value} {st : Stmt} {rest : List Stmt} {c : Addr × Obj}
/-- behind the law's first statement -/
def EndP (h₀ : Heap) (L : Addr) (m : Str → Option Value) (c : Addr × Obj) (s : Shared) (f : Flow) (s' : Shared) : Prop :=
  f = .next ∧ ∃ h tk D ys ns n0, s' = { s with heap := h, toks := tk } ∧ Fr h₀ L h (fun z => if z = Str.ofString "picks" then some (.ref D) else m z) ∧ News h₀ L h [(D, listOf (List.toArray ys) n0), c] ∧ IntsAre ys ns ∧ ns.length ≤ 9 ∧ ∀ k ∈ ns, 0 ≤ k ∧ k < 13
theorem cut_picks (_F : Fr h₀ L s.heap m) (_N : News h₀ L s.heap [c]) (h1 : wpAny M A (exec st env) (EndP h₀ L m c s) E s)
    (h2 : ∀ h tk D ys ns n0, Fr h₀ L h (fun z => if z = Str.ofString "picks" then some (.ref D) else m z) → News h₀ L h [(D, listOf (List.toArray ys) n0), c] → IntsAre ys ns → ns.length ≤ 9 → (∀ k ∈ ns, 0 ≤ k ∧ k < 13) → wpAny M A (execs rest env) Q E { s with heap := h, toks := tk }) :
    wpAny M A (execs (st :: rest) env) Q E s := by
  refine wpAny_execs_cons (wpAny_mono h1 (fun f s' h => ?_) fun _ _ e => e)
  obtain ⟨rfl, h, tk, D, ys, ns, n0, rfl, F', N', hI, hl, hb⟩ := h
  exact h2 h tk D ys ns n0 F' N' hI hl hb
theorem fm13 (a : Int) : 0 ≤ a.fmod 13 ∧ a.fmod 13 < 13 := ⟨Int.fmod_nonneg_of_pos a (by decide), Int.fmod_lt_of_pos a (by decide)⟩
theorem P13_ite {c : Prop} [Decidable c] {a b : Int} (ha : 0 ≤ a ∧ a < 13) (hb : 0 ≤ b ∧ b < 13) : 0 ≤ (if c then a else b) ∧ (if c then a else b) < 13 := by split; exact ha; exact hb
theorem ints_at {vs : List Value} {ns : List Int} (hI : IntsAre vs ns) : ∀ {i : Nat} {v : Value}, vs[i]? = some v → ∃ k t, v = .int k t ∧ ns[i]? = some k := by
  induction hI with
  | nil => intro i v h; simp at h
  | cons x t r ih =>
    intro i v h
    cases i with
    | zero => simp at h; subst h; exact ⟨x, t, rfl, rfl⟩
    | succ i =>
      rw [List.getElem?_cons_succ] at h
      obtain ⟨k, t', e1, e2⟩ := ih h
      exact ⟨k, t', e1, by rw [List.getElem?_cons_succ]; exact e2⟩
end
section
variable {prog : Program} {w : World} {A : Around} {h₀ : Heap} {L : Addr} {m : Str → Option Value} {env : Env} {elt : Expr} {x : Str} {scope : Scope} {cl : List (Str × Addr)} {s : Shared} {S : List (Addr × Obj) → Prop} {P : Nat → Value → Prop} {Fin : List Value → List (Addr × Obj) → Prop} {n : Nat} {g : Nat → Str} {news : List (Addr × Obj)}
/-- what an element's reckoning ends in -/
def StrEl (h₀ : Heap) (L : Addr) (m : Str → Option Value) (s : Shared) (I : Addr) (oI : Obj) (C : Addr) (oC : Obj) (D : Addr) (ys : List Value) (news : List (Addr × Obj)) (x : Str) (y : Value) (s₂ : Shared) : Prop :=
  ∃ t h' tk', y = .str x t ∧ s₂ = { s with heap := h', toks := tk' } ∧ Fr h₀ L h' m ∧ News h₀ L h' ((I, oI) :: (C, oC) :: (D, LCg.lst ys) :: news)
/-- a list comprehension whose elements are texts, told by their places -/
theorem comp_strs (hS : S news)
    (el : ∀ i v I oI C oC D m₂ h tk (E' : Value → Shared → Prop) ys, i < n → P i v → LCg.NsObj oC m₂ → m₂ x = some v → Fr h₀ L h m → News h₀ L h ((I, oI) :: (C, oC) :: (D, LCg.lst ys) :: news) → LCg.Off3 I C D news → ((@Ne Nat I C) ∧ (@Ne Nat I D) ∧ (@Ne Nat C D)) →
      wpAny (model prog w) A (eval elt (compEnvC scope cl C env)) (StrEl h₀ L m s I oI C oC D ys news (g i)) E' { s with heap := h, toks := tk })
    (fin : ∀ ys, StrsAre ys ((List.range n).map g) → Fin ys news) : LCg.CompRest prog w A h₀ L m env elt x scope cl s S P Fin n 0 [] news := by
  have key : ∀ k i ys, i + k = n → StrsAre ys ((List.range i).map g) → LCg.CompRest prog w A h₀ L m env elt x scope cl s S P Fin k i ys news := by
    intro k
    induction k with
    | zero =>
      intro i ys hi hys
      have : i = n := by omega
      subst this
      exact fin ys hys
    | succ k ih =>
      intro i ys hi hys
      refine LCg.CompRest.succ ?_
      intro v I oI C oC D m₂ h tk E' hP hC hx F N off ne
      refine wpAny_mono (el i v I oI C oC D m₂ h tk E' ys (by omega) hP hC hx F N off ne) (fun y s₂ hy => ?_) fun _ _ e => e
      obtain ⟨t, h', tk', rfl, rfl, F', N'⟩ := hy
      refine LCg.CompEnd.intro F' N' news (fun _ hp => hp) off hS (ih (i + 1) _ (by omega) ?_)
      rw [List.range_succ, List.map_append]
      exact strs_snoc hys (g i) t
  exact key n 0 [] (by omega) .nil
end
end Mine
end
section
open PySem PySem.W PyProof.Rows PySem.Calls PySem.Spec PySem.Builtin PySem.Builtin.Str PySem.StrLaws
namespace Mine
/-! texts as rows of signs -/
abbrev chs (x : Str) : List Nat := x.cps.toList
theorem str_ext {x y : Str} (h : chs x = chs y) : x = y := by
  exact Str.ext' (Array.toList_inj.mp h)
/-- replace, sign by sign -/
def repA (p r : List Nat) : Nat → List Nat → List Nat
  | _, [] => []
  | k + 1, _ :: l => repA p r k l
  | 0, c :: l => if p.isPrefixOf (c :: l) = true then r ++ repA p r (p.length - 1) l else c :: repA p r 0 l
theorem repA_skip (p r : List Nat) : ∀ k l, repA p r k l = repA p r 0 (l.drop k)
  | 0, l => by simp
  | k + 1, [] => by simp [repA]
  | k + 1, c :: l => by simp only [repA, List.drop_succ_cons]; exact repA_skip p r k l
theorem repA_hit {p r l : List Nat} (hp : p ≠ []) : repA p r 0 (p ++ l) = r ++ repA p r 0 l := by
  obtain ⟨c, q, rfl⟩ := List.exists_cons_of_ne_nil hp
  show (if (c :: q).isPrefixOf (c :: (q ++ l)) = true then _ else _) = _
  rw [if_pos (by rw [List.isPrefixOf_iff_prefix]; exact ⟨l, by simp⟩), repA_skip]
  simp
theorem repA_miss {p r l : List Nat} {c : Nat} (h : ¬ p <+: (c :: l)) : repA p r 0 (c :: l) = c :: repA p r 0 l := by
  show (if p.isPrefixOf (c :: l) = true then _ else _) = _
  rw [if_neg (by rw [List.isPrefixOf_iff_prefix]; exact h)]
theorem at_iff {x y : Str} {i : Nat} (hi : i ≤ x.length) : At x y x.length i ↔ chs y <+: (chs x).drop i := by
  have hl : (chs x).length = x.length := by simp [chs, Str.length]
  have hy : (chs y).length = y.length := by simp [chs, Str.length]
  unfold At
  rw [subAt_eq, beq_iff_eq]
  constructor
  · rintro ⟨_, h⟩
    exact ⟨((chs x).drop i).drop y.length, by show y.cps.toList ++ _ = _; rw [← h]; exact List.take_append_drop _ _⟩
  · rintro ⟨t, ht⟩
    refine ⟨?_, ?_⟩
    · have := congrArg List.length ht
      rw [List.length_append, List.length_drop, hl, hy] at this
      omega
    · show ((chs x).drop i).take y.length = chs y
      rw [← ht, ← hy, List.take_left']
      rfl
theorem repA_run {p r : List Nat} : ∀ (k : Nat) (l : List Nat), k ≤ l.length → (∀ j, j < k → ¬ p <+: l.drop j) → repA p r 0 l = l.take k ++ repA p r 0 (l.drop k)
  | 0, l, _, _ => by simp
  | k + 1, [], h, _ => by simp at h
  | k + 1, c :: l, h, hn => by
    rw [repA_miss (hn 0 (by omega))]
    rw [repA_run k l (by simpa using h) fun j hj => hn (j + 1) (by omega)]
    simp
theorem repA_none {p r : List Nat} (hp : p ≠ []) (l : List Nat) (h : ∀ j, j ≤ l.length → ¬ p <+: l.drop j) : repA p r 0 l = l := by
  rw [repA_run l.length l (Nat.le_refl _) fun j hj => h j (by omega)]
  simp [repA]
theorem chs_append (a b : Str) : chs (a ++ b) = chs a ++ chs b := by
  show (a.cps ++ b.cps).toList = _
  simp
theorem join_parts {x y z : Str} (hw : 1 ≤ y.length) : ∀ (cuts : List Nat) (a f : Nat), a ≤ x.length → ChainG x y x.length a cuts f → (∀ k, f ≤ k → ¬ At x y x.length k) →
    chs (Str.join z (partsFrom x y.length a cuts)) = repA (chs y) (chs z) 0 ((chs x).drop a)
  | [], a, f, ha, hc, hn => by
    have e : f = a := hc
    subst e
    have hl : (chs x).length = x.length := by simp [chs, Str.length]
    have hyl : (chs y).length = y.length := by simp [chs, Str.length]
    rw [repA_none (by intro e; rw [e] at hyl; simp at hyl; omega)]
    · show chs (strSub x f x.length) = _
      rw [show chs (strSub x f x.length) = _ from strSub_toList x f x.length]
      rw [List.take_of_length_le]
      rw [List.length_drop]; show (chs x).length - f ≤ _; omega
    · intro j hj hp
      rw [List.length_drop, hl] at hj
      rw [List.drop_drop] at hp
      exact hn (f + j) (by omega) ((at_iff (by omega)).mpr hp)
  | c :: r, a, f, ha, hc, hn => by
    obtain ⟨h1, h2, h3, h4⟩ := hc
    have hl : (chs x).length = x.length := by simp [chs, Str.length]
    have hyl : (chs y).length = y.length := by simp [chs, Str.length]
    have hcl : c + y.length ≤ x.length := h2.1
    have ih := join_parts hw r (c + y.length) f hcl h4 hn (z := z)
    obtain ⟨q, qs, hq⟩ := partsFrom_ne x y.length (c + y.length) r
    show chs (Str.join z (strSub x a c :: partsFrom x y.length (c + y.length) r)) = _
    rw [hq] at ih ⊢
    show chs (strSub x a c ++ z ++ Str.join z (q :: qs)) = _
    rw [chs_append, chs_append, ih, show chs (strSub x a c) = _ from strSub_toList x a c]
    rw [repA_run (c - a) ((chs x).drop a) (by rw [List.length_drop]; omega) ?_]
    · rw [List.drop_drop, show a + (c - a) = c from by omega]
      obtain ⟨t, ht⟩ := (at_iff (by omega)).mp h2
      rw [← ht, repA_hit (by intro e; rw [e] at hyl; simp at hyl; omega)]
      have : t = (chs x).drop (c + y.length) := by
        rw [← List.drop_drop, ← ht, ← hyl, List.drop_left']
        rfl
      rw [this]; simp
    · intro j hj hp
      rw [List.drop_drop] at hp
      exact h3 (a + j) (by omega) (by omega) ((at_iff (by omega)).mpr hp)
theorem replace_chs {x y z : Str} (hw : 1 ≤ y.length) : chs (Txt.replace x y z) = repA (chs y) (chs z) 0 (chs x) := by
  obtain ⟨f, hc, hn⟩ := occ_tight x y hw
  have key := join_parts (z := z) hw _ 0 f (Nat.zero_le _) hc hn
  rw [List.drop_zero] at key
  unfold Txt.replace
  split
  · rename_i h
    rw [Bool.or_eq_true] at h
    rcases h with h | h
    · rw [List.isEmpty_iff.mp h] at key
      rw [← key]
      show chs x = chs (strSub x 0 x.length)
      rw [sub_whole]
    · rw [Bool.and_eq_true, beq_iff_eq] at h
      omega
  · rw [glued_eq_join, partsBetween_eq, key]
/-- words, sign by sign -/
def wrd : List Nat → List Nat → List (List Nat)
  | cur, [] => if cur = [] then [] else [cur]
  | cur, c :: l => if Unicode.isSpace c = true then (if cur = [] then wrd [] l else cur :: wrd [] l) else wrd (cur ++ [c]) l
theorem sub_chs (x : Str) (i j : Nat) : chs (strSub x i j) = ((chs x).drop i).take (j - i) := strSub_toList x i j
def pieces (x : Str) (l : List (Nat × Nat)) : List (List Nat) := l.map fun p => chs (strSub x p.1 p.2)
theorem pieces_snoc (x : Str) (l : List (Nat × Nat)) (p : Nat × Nat) : pieces x (l ++ [p]) = pieces x l ++ [chs (strSub x p.1 p.2)] := by simp [pieces]
theorem pieces_push (x : Str) (l : Array (Nat × Nat)) (i j : Nat) : pieces x (l.push (i, j)).toList = pieces x l.toList ++ [chs (strSub x i j)] := by
  rw [Array.toList_push, pieces_snoc]
theorem sub_grow {x : Str} {b cur c : Nat} (hb : b ≤ cur) (hc : (chs x)[cur]? = some c) : chs (strSub x b cur) ++ [c] = chs (strSub x b (cur + 1)) := by
  have hcl := (List.getElem?_eq_some_iff.mp hc).1
  rw [sub_chs, sub_chs, show cur + 1 - b = (cur - b) + 1 from by omega, List.take_add_one, List.getElem?_drop, show b + (cur - b) = cur from by omega, hc]
  rfl
theorem sub_ne {x : Str} {b cur : Nat} (hb : b < cur) (hc : cur ≤ x.length) : chs (strSub x b cur) ≠ [] := by
  intro e
  have hl : (chs x).length = x.length := by simp [chs, Str.length]
  have := congrArg List.length e
  rw [sub_chs, List.length_take, List.length_drop, hl] at this
  simp at this; omega
theorem sw_words (x : Str) (limit : Nat) (hl : x.length < limit) : ∀ (m cur : Nat) (words : Array (Nat × Nat)) (start : Option Nat), cur + m = x.length →
    (match start with | some b => b < cur ∧ wsum words.toList ≤ b | none => wsum words.toList ≤ cur) →
    pieces x (swEnd x (forIn (List.range' cur m) ((none, words, start) : SwSt) (swBody x limit)).run) =
      pieces x words.toList ++ wrd (match start with | some b => chs (strSub x b cur) | none => []) ((chs x).drop cur)
  | 0, cur, words, start, hm, hs => by
    have hlx : (chs x).length = x.length := by simp [chs, Str.length]
    rw [List.drop_of_length_le (by omega)]
    cases start with
    | none => show pieces x words.toList = _; simp [wrd]
    | some b =>
      show pieces x (words.push (b, x.length)).toList = _
      rw [pieces_push]
      have : cur = x.length := by omega
      subst this
      simp [wrd, sub_ne hs.1 (Nat.le_refl _)]
  | m + 1, cur, words, start, hm, hs => by
    have hlx : (chs x).length = x.length := by simp [chs, Str.length]
    obtain ⟨c, hc⟩ : ∃ c, (chs x)[cur]? = some c := ⟨_, List.getElem?_eq_getElem (by omega)⟩
    have hd : (chs x).drop cur = c :: (chs x).drop (cur + 1) := by
      rw [List.drop_eq_getElem_cons (by omega)]
      rw [(List.getElem?_eq_some_iff.mp hc).2]
    have hg : x.cps.getD cur 0 = c := getD_of_getElem? hc
    have hsz : ¬ ((words.size == limit) = true) := by
      have a := len_le_wsum words.toList
      have b : words.toList.length = words.size := by simp
      have c : wsum words.toList ≤ cur := by
        cases start with
        | none => exact hs
        | some b => exact Nat.le_trans hs.2 (Nat.le_of_lt hs.1)
      rw [beq_iff_eq]; omega
    rw [List.range'_succ, List.forIn_cons, hd]
    unfold swBody
    simp only [hsz, if_false, hg]
    cases start with
    | none =>
      cases hsp : Unicode.isSpace c
      · show pieces x (swEnd x (forIn (List.range' (cur + 1) m) ((none, words, some cur) : SwSt) (swBody x limit)).run) = _
        rw [sw_words x limit hl m (cur + 1) words (some cur) (by omega) ⟨by omega, hs⟩]
        have e : chs (strSub x cur (cur + 1)) = [c] := by
          rw [← sub_grow (Nat.le_refl _) hc, sub_chs]; simp
        simp only [e, wrd, hsp]
        simp
      · show pieces x (swEnd x (forIn (List.range' (cur + 1) m) ((none, words, none) : SwSt) (swBody x limit)).run) = _
        rw [sw_words x limit hl m (cur + 1) words none (by omega) (Nat.le_succ_of_le hs)]
        simp only [wrd, hsp]
        simp
    | some b =>
      obtain ⟨h1, h2⟩ := hs
      cases hsp : Unicode.isSpace c
      · show pieces x (swEnd x (forIn (List.range' (cur + 1) m) ((none, words, some b) : SwSt) (swBody x limit)).run) = _
        rw [sw_words x limit hl m (cur + 1) words (some b) (by omega) ⟨by omega, h2⟩]
        simp only [wrd, hsp, sub_grow (Nat.le_of_lt h1) hc]
        simp
      · show pieces x (swEnd x (forIn (List.range' (cur + 1) m) ((none, words.push (b, cur), none) : SwSt) (swBody x limit)).run) = _
        rw [sw_words x limit hl m (cur + 1) (words.push (b, cur)) none (by omega) (by
          show wsum (words.push (b, cur)).toList ≤ cur + 1
          rw [Array.toList_push, wsum_snoc]
          show wsum words.toList + (cur - b + 1) ≤ cur + 1
          omega)]
        rw [pieces_push]
        have hne : chs (strSub x b cur) ≠ [] := sub_ne h1 (by omega)
        simp only [wrd, hsp, if_true, hne, if_false]
        simp
theorem words_chs (x : Str) : (Txt.words x).map chs = wrd [] (chs x) := by
  have key := sw_words x (x.length + 1) (Nat.lt_succ_self _) x.length 0 #[] none (by omega) (Nat.le_refl _)
  rw [← sw_eq, List.drop_zero] at key
  have e : PySem.wordsOf x = (spaceWords x (x.length + 1)).map fun (p : Nat × Nat) => strSub x p.1 p.2 := by
    unfold PySem.wordsOf
    apply List.map_congr_left
    intro ⟨i, j⟩ _
    rfl
  unfold Txt.words
  split
  · rename_i h
    rw [eq_of_beq h] at key
    simp only [pieces, List.map_cons, List.map_nil] at key
    rw [show strSub x 0 x.length = x from sub_whole x] at key
    simpa using key
  · rw [e, List.map_map]
    exact key
theorem map_chs : ∀ {a b : List Str}, a.map chs = b.map chs → a = b
  | [], [], _ => rfl
  | [], _ :: _, h => by simp at h
  | _ :: _, [], h => by simp at h
  | x :: a, y :: b, h => by
    simp only [List.map_cons, List.cons.injEq] at h
    rw [str_ext h.1, map_chs h.2]
theorem words_eq {x : Str} {ws : List Str} (h : wrd [] (chs x) = ws.map chs) : Txt.words x = ws := by
  exact map_chs ((words_chs x).trans h)
theorem lower_chs {x : Str} (h : ∀ c ∈ chs x, c < 128) : chs (Txt.lower x) = (chs x).map lo1 := by
  rw [lower_ascii h]; show (x.cps.map lo1).toList = _; simp
theorem upper_chs {x : Str} (h : ∀ c ∈ chs x, c < 128) : chs (Txt.upper x) = (chs x).map up1 := by
  rw [upper_ascii h]; show (x.cps.map up1).toList = _; simp
end Mine
end
section
open PySem PySem.W PyProof.Rows PySem.Calls PySem.Spec PySem.Builtin PySem.Builtin.Str PySem.StrLaws
namespace Mine
def flush (cur : List Nat) : List (List Nat) := if cur = [] then [] else [cur]
/-- the def's tokens, sign by sign -/
def tk : List Nat → List Nat → List (List Nat)
  | cur, [] => flush cur
  | cur, c :: l => if Unicode.isSpace c = true then flush cur ++ tk [] l else if c = 40 ∨ c = 41 then flush cur ++ [c] :: tk [] l else tk (cur ++ [c]) l
theorem sp32 : Unicode.isSpace 32 = true := by decide +kernel
theorem sp40 : Unicode.isSpace 40 = false := by decide +kernel
theorem sp41 : Unicode.isSpace 41 = false := by decide +kernel
theorem repA_one (a : Nat) (r : List Nat) (c : Nat) (l : List Nat) : repA [a] r 0 (c :: l) = if c = a then r ++ repA [a] r 0 l else c :: repA [a] r 0 l := by
  show (if [a].isPrefixOf (c :: l) = true then _ else _) = _
  by_cases h : c = a
  · subst h; simp [List.isPrefixOf]
  · rw [if_neg h, if_neg]
    simp [List.isPrefixOf]; exact fun e => h e.symm
theorem wrd_flush_space {cur : List Nat} {c : Nat} {l : List Nat} (h : Unicode.isSpace c = true) : wrd cur (c :: l) = flush cur ++ wrd [] l := by
  simp only [wrd, h, if_true, flush]
  by_cases e : cur = [] <;> simp [e]
theorem wrd_go {cur : List Nat} {c : Nat} {l : List Nat} (h : Unicode.isSpace c = false) : wrd cur (c :: l) = wrd (cur ++ [c]) l := by
  simp [wrd, h]
theorem wrd_par {cur : List Nat} {c : Nat} {l : List Nat} (h : Unicode.isSpace c = false) : wrd cur ([32, c, 32] ++ l) = flush cur ++ [c] :: wrd [] l := by
  show wrd cur (32 :: c :: 32 :: l) = _
  rw [wrd_flush_space sp32, wrd_go h, wrd_flush_space sp32]
  simp [flush]
abbrev sp2 (l : List Nat) : List Nat := repA [41] [32, 41, 32] 0 (repA [40] [32, 40, 32] 0 l)
theorem wrd_sp2 : ∀ (l cur : List Nat), wrd cur (sp2 l) = tk cur l
  | [], cur => by simp [sp2, repA, wrd, tk, flush]
  | c :: l, cur => by
    unfold sp2
    rw [repA_one]
    by_cases h0 : c = 40
    · subst h0
      rw [if_pos rfl]
      show wrd cur (repA [41] _ 0 (32 :: 40 :: 32 :: _)) = _
      rw [repA_one, if_neg (by decide), repA_one, if_neg (by decide), repA_one, if_neg (by decide)]
      show wrd cur ([32, 40, 32] ++ sp2 l) = _
      rw [wrd_par sp40, wrd_sp2 l []]
      simp [tk, sp40]
    · rw [if_neg h0, repA_one]
      by_cases h1 : c = 41
      · subst h1
        rw [if_pos rfl]
        show wrd cur ([32, 41, 32] ++ sp2 l) = _
        rw [wrd_par sp41, wrd_sp2 l []]
        simp [tk, sp41]
      · rw [if_neg h1]
        show wrd cur (c :: sp2 l) = _
        cases h : Unicode.isSpace c
        · rw [wrd_go h, wrd_sp2 l]; simp [tk, h, h0, h1]
        · rw [wrd_flush_space h, wrd_sp2 l]; simp [tk, h]
theorem spaced_chs (x : Str) : chs (spaced x) = sp2 (chs x) := by
  unfold spaced sp2
  rw [replace_chs (by decide), replace_chs (by decide)]
  rfl
theorem words_spaced (x : Str) : (Txt.words (spaced x)).map chs = tk [] (chs x) := by
  rw [words_chs, spaced_chs, wrd_sp2]
theorem repA_mem {p r : List Nat} {a : Nat} : ∀ (l : List Nat) (k : Nat), a ∈ repA p r k l → a ∈ r ∨ a ∈ l
  | [], k, h => by cases k <;> simp [repA] at h
  | c :: l, k + 1, h => by
    rcases repA_mem l k h with h | h
    · exact .inl h
    · exact .inr (.tail _ h)
  | c :: l, 0, h => by
    unfold repA at h
    split at h
    · rcases List.mem_append.mp h with h | h
      · exact .inl h
      · rcases repA_mem l _ h with h | h
        · exact .inl h
        · exact .inr (.tail _ h)
    · rcases List.mem_cons.mp h with h | h
      · exact .inr (h ▸ .head _)
      · rcases repA_mem l _ h with h | h
        · exact .inl h
        · exact .inr (.tail _ h)
theorem sp2_asc {l : List Nat} (h : ∀ c ∈ l, c < 128) : ∀ c ∈ sp2 l, c < 128 := by
  intro c hc
  rcases repA_mem _ _ hc with hc | hc
  · exact (by decide : ∀ c ∈ [32, 41, 32], c < 128) c hc
  · rcases repA_mem _ _ hc with hc | hc
    · exact (by decide : ∀ c ∈ [32, 40, 32], c < 128) c hc
    · exact h c hc
theorem spaced_asc {x : Str} (h : ∀ c ∈ chs x, c < 128) : ∀ c ∈ chs (spaced x), c < 128 := by rw [spaced_chs]; exact sp2_asc h
theorem lo1_space : ∀ c, c < 128 → Unicode.isSpace (lo1 c) = Unicode.isSpace c := by decide +kernel
theorem lo1_lt : ∀ c, c < 128 → lo1 c < 128 := by decide +kernel
theorem wrd_lower : ∀ (l cur : List Nat), (∀ c ∈ l, c < 128) → wrd (cur.map lo1) (l.map lo1) = (wrd cur l).map (List.map lo1)
  | [], cur, _ => by
    by_cases e : cur = []
    · simp [wrd, e]
    · simp [wrd, e]
  | c :: l, cur, h => by
    have hc := h c (.head _)
    have ih := fun cur => wrd_lower l cur fun c hc => h c (.tail _ hc)
    rw [List.map_cons]
    cases hs : Unicode.isSpace c
    · rw [wrd_go (by rw [lo1_space c hc, hs]), wrd_go hs, ← ih]; simp
    · rw [wrd_flush_space (by rw [lo1_space c hc, hs]), wrd_flush_space hs, List.map_append, ← ih]
      by_cases e : cur = []
      · simp [flush, e]
      · simp [flush, e]
theorem wrd_mem {c : Nat} : ∀ (l cur w : List Nat), w ∈ wrd cur l → c ∈ w → c ∈ cur ∨ c ∈ l
  | [], cur, w, hw, hc => by
    by_cases e : cur = []
    · simp [wrd, e] at hw
    · simp [wrd, e] at hw; subst hw; exact .inl hc
  | a :: l, cur, w, hw, hc => by
    cases hs : Unicode.isSpace a
    · rw [wrd_go hs] at hw
      rcases wrd_mem l _ w hw hc with h | h
      · rcases List.mem_append.mp h with h | h
        · exact .inl h
        · rw [List.mem_singleton.mp h]; exact .inr (.head _)
      · exact .inr (.tail _ h)
    · rw [wrd_flush_space hs] at hw
      rcases List.mem_append.mp hw with hw | hw
      · unfold flush at hw
        split at hw
        · cases hw
        · rw [List.mem_singleton.mp hw] at hc; exact .inl hc
      · rcases wrd_mem l _ w hw hc with h | h
        · cases h
        · exact .inr (.tail _ h)
theorem words_asc {x : Str} (h : ∀ c ∈ chs x, c < 128) : ∀ w ∈ Txt.words x, ∀ c ∈ chs w, c < 128 := by
  intro w hw c hc
  have : chs w ∈ wrd [] (chs x) := by rw [← words_chs]; exact List.mem_map_of_mem hw
  rcases wrd_mem _ _ _ this hc with h' | h'
  · cases h'
  · exact h c h'
theorem toks_lower {x : Str} (h : ∀ c ∈ chs x, c < 128) : toksP x = (Txt.words (spaced x)).map Txt.lower := by
  unfold toksP
  apply words_eq
  rw [lower_chs (spaced_asc h)]
  have := wrd_lower (chs (spaced x)) [] (spaced_asc h)
  rw [List.map_nil] at this
  rw [this, ← words_chs, List.map_map, List.map_map]
  apply List.map_congr_left
  intro w hw
  exact (lower_chs (words_asc (spaced_asc h) w hw)).symm
/-- what is told by the words alone -/
def canonT (ws : List Str) : Option Str :=
  (pyToks [] (ws.map Txt.lower)).bind fun py =>
    if redN py.length (Txt.join (Str.ofString " ") py) = Str.ofString "False" then (nmRun (putAll PyData.str Txt.lower refValP (ws.filter isRefP)) (ws.map Txt.lower) [] false).map finishP else none
theorem canonP_eq {x : Str} {ws : List Str} (h : ∀ c ∈ chs x, c < 128) (ht : tk [] (chs x) = ws.map chs) : canonP x = canonT ws := by
  have hw : Txt.words (spaced x) = ws := words_eq (by rw [spaced_chs, wrd_sp2, ht])
  unfold canonP canonT refsP
  rw [toks_lower h, hw]
  split
  · rename_i h0
    have : chs x = [] := by
      apply List.eq_nil_of_length_eq_zero
      exact (Array.length_toList).trans h0
    rw [this] at ht
    cases ws with
    | nil => decide +kernel
    | cons w r => cases ht
  · rfl
def okW (w : Str) : Bool := decide (w.length ≤ 40) && (chs w).all (fun c => decide (c < 128)) &&
  (!(Txt.startswith (Txt.lower w) (Str.ofString "licenseref-")) || Txt.endswith (Txt.lower w) (Str.ofString "+") || six'.contains (Txt.lower w))
theorem tame_of {x : Str} {ws : List Str} (hl : x.length ≤ 2000) (h : ∀ c ∈ chs x, c < 128) (ht : tk [] (chs x) = ws.map chs) (hn : ws.length ≤ 2000) (hok : ∀ w ∈ ws, okW w = true) : Tame x := by
  have hw : Txt.words (spaced x) = ws := words_eq (by rw [spaced_chs, wrd_sp2, ht])
  have hlow := toks_lower h
  have hw3 : ∀ w ∈ ws, w.length ≤ 40 ∧ (∀ c ∈ chs w, c < 128) ∧ (Txt.startswith (Txt.lower w) (Str.ofString "licenseref-") = true → Txt.endswith (Txt.lower w) (Str.ofString "+") = false → Txt.lower w ∈ six') := by
    intro w hm
    have := hok w hm
    simp only [okW, Bool.and_eq_true, decide_eq_true_eq, List.all_eq_true, Bool.or_eq_true, Bool.not_eq_true', List.contains_iff_mem] at this
    obtain ⟨⟨h1, h2⟩, h3⟩ := this
    refine ⟨h1, h2, fun h4 h5 => ?_⟩
    rcases h3 with (h3 | h3) | h3
    · rw [h4] at h3; cases h3
    · rw [h5] at h3; cases h3
    · exact h3
  have hll : ∀ w ∈ ws, (Txt.lower w).length = w.length := fun w hm => by
    rw [lower_ascii (hw3 w hm).2.1]; simp [Str.length]
  rw [hw] at hlow
  refine ⟨hl, h, ?_, by rw [hlow, List.length_map]; exact hn, by rw [hw]; exact fun w hm => (hw3 w hm).1, ?_, by rw [hlow, hw], ?_⟩
  · rw [hlow]; intro t ht; obtain ⟨w, hm, rfl⟩ := List.mem_map.mp ht
    rw [hll w hm]; exact (hw3 w hm).1
  · rw [hlow]; intro t ht; obtain ⟨w, hm, rfl⟩ := List.mem_map.mp ht
    intro c hc
    have hc' : c ∈ chs (Txt.lower w) := hc
    rw [lower_chs (hw3 w hm).2.1] at hc'
    obtain ⟨d, hd, rfl⟩ := List.mem_map.mp hc'
    exact lo1_lt d ((hw3 w hm).2.1 d hd)
  · rw [hlow]; intro t ht; obtain ⟨w, hm, rfl⟩ := List.mem_map.mp ht
    exact (hw3 w hm).2.2
/-! the tokens of a laid text -/
def plain (w : List Nat) : Bool := w != [] && w.all fun c => !Unicode.isSpace c && c != 40 && c != 41
def atom (w : List Nat) : Bool := plain w || w == [40] || w == [41]
theorem tk_space {cur : List Nat} {c : Nat} {l : List Nat} (h : Unicode.isSpace c = true) : tk cur (c :: l) = flush cur ++ tk [] l := by simp [tk, h]
theorem tk_lp {cur l : List Nat} : tk cur (40 :: l) = flush cur ++ [40] :: tk [] l := by simp [tk, sp40]
theorem tk_rp {cur l : List Nat} : tk cur (41 :: l) = flush cur ++ [41] :: tk [] l := by simp [tk, sp41]
theorem tk_plain : ∀ (w cur l : List Nat), (w.all fun c => !Unicode.isSpace c && c != 40 && c != 41) = true → tk cur (w ++ l) = tk (cur ++ w) l
  | [], cur, l, _ => by simp
  | c :: w, cur, l, h => by
    simp only [List.all_cons, Bool.and_eq_true, Bool.not_eq_true', bne_iff_ne] at h
    obtain ⟨⟨⟨h1, h2⟩, h3⟩, h4⟩ := h
    rw [List.cons_append]
    have : tk cur (c :: (w ++ l)) = tk (cur ++ [c]) (w ++ l) := by simp [tk, h1, h2, h3]
    rw [this, tk_plain w _ l (by simpa using h4)]
    simp
theorem plain_cases {w : List Nat} (h : atom w = true) : (w ≠ [] ∧ (w.all fun c => !Unicode.isSpace c && c != 40 && c != 41) = true) ∨ w = [40] ∨ w = [41] := by
  simp only [atom, plain, Bool.or_eq_true, Bool.and_eq_true, bne_iff_ne, beq_iff_eq] at h
  rcases h with (h | h) | h
  · exact .inl h
  · exact .inr (.inl h)
  · exact .inr (.inr h)
theorem tk_atom_end {w : List Nat} (h : atom w = true) : tk [] w = [w] := by
  rcases plain_cases h with ⟨h1, h2⟩ | rfl | rfl
  · have := tk_plain w [] [] h2
    simp only [List.append_nil, List.nil_append] at this
    rw [this]; simp [tk, flush, h1]
  · rw [tk_lp]; simp [flush, tk]
  · rw [tk_rp]; simp [flush, tk]
theorem tk_atom_sp {w l : List Nat} {c : Nat} (h : atom w = true) (hc : Unicode.isSpace c = true) : tk [] (w ++ c :: l) = w :: tk [] l := by
  rcases plain_cases h with ⟨h1, h2⟩ | rfl | rfl
  · rw [tk_plain w [] _ h2, tk_space hc]; simp [flush, h1]
  · show tk [] (40 :: c :: l) = _
    rw [tk_lp, tk_space hc]; simp [flush]
  · show tk [] (41 :: c :: l) = _
    rw [tk_rp, tk_space hc]; simp [flush]
def joinc : List (List Nat) → List Nat
  | [] => []
  | [w] => w
  | w :: v :: r => w ++ 32 :: joinc (v :: r)
theorem join_chs : ∀ ws : List Str, chs (Txt.join (Str.ofString " ") ws) = joinc (ws.map chs) := by
  intro ws
  show chs (glued _ ws) = _
  rw [glued_eq_join]
  induction ws with
  | nil => rfl
  | cons w r ih =>
    cases r with
    | nil => rfl
    | cons v r =>
      show chs (w ++ Str.ofString " " ++ Str.join _ (v :: r)) = _
      rw [chs_append, chs_append, ih]
      show chs w ++ [32] ++ _ = _
      simp [joinc]
theorem tk_joinc : ∀ ws : List (List Nat), (∀ w ∈ ws, atom w = true) → tk [] (joinc ws) = ws
  | [], _ => rfl
  | [w], h => tk_atom_end (h w (.head _))
  | w :: v :: r, h => by
    show tk [] (w ++ 32 :: joinc (v :: r)) = _
    rw [tk_atom_sp (h w (.head _)) sp32, tk_joinc (v :: r) fun w hw => h w (.tail _ hw)]
theorem tk_cons (cur : List Nat) (c : Nat) (l : List Nat) : tk cur (c :: l) = if Unicode.isSpace c = true then flush cur ++ tk [] l else if c = 40 ∨ c = 41 then flush cur ++ [c] :: tk [] l else tk (cur ++ [c]) l := by
  conv => lhs; unfold tk
theorem tk_app_sp : ∀ (l cur r : List Nat), tk cur (l ++ 32 :: r) = tk cur l ++ tk [] r
  | [], cur, r => by rw [List.nil_append, tk_space sp32]; rfl
  | c :: l, cur, r => by
    rw [List.cons_append, tk_cons, tk_cons]
    split
    · rw [tk_app_sp l]; simp
    · split
      · rw [tk_app_sp l]; simp
      · rw [tk_app_sp l]
theorem tk_app_rp : ∀ (l cur r : List Nat), tk cur (l ++ 41 :: r) = tk cur l ++ [41] :: tk [] r
  | [], cur, r => by rw [List.nil_append, tk_rp]; rfl
  | c :: l, cur, r => by
    rw [List.cons_append, tk_cons, tk_cons]
    split
    · rw [tk_app_rp l]; simp
    · split
      · rw [tk_app_rp l]; simp
      · rw [tk_app_rp l]
theorem lo1_par : ∀ c, c < 128 → ((lo1 c = 40 ∨ lo1 c = 41) ↔ (c = 40 ∨ c = 41)) := by decide +kernel
theorem lo1_fix : lo1 40 = 40 ∧ lo1 41 = 41 := by decide
theorem tk_lower : ∀ (l cur : List Nat), (∀ c ∈ l, c < 128) → tk (cur.map lo1) (l.map lo1) = (tk cur l).map (List.map lo1)
  | [], cur, _ => by
    by_cases e : cur = []
    · simp [tk, flush, e]
    · simp [tk, flush, e]
  | c :: l, cur, h => by
    have hc := h c (.head _)
    have ih := fun cur => tk_lower l cur fun c hc => h c (.tail _ hc)
    have hf : flush (cur.map lo1) = (flush cur).map (List.map lo1) := by
      by_cases e : cur = []
      · simp [flush, e]
      · simp [flush, e]
    rw [List.map_cons]
    unfold tk
    rw [lo1_space c hc]
    split
    · rw [List.map_append, ← ih, hf]; rfl
    · by_cases hp : c = 40 ∨ c = 41
      · rw [if_pos ((lo1_par c hc).mpr hp), if_pos hp, List.map_append, hf, List.map_cons, ← ih]
        rfl
      · rw [if_neg (fun h' => hp ((lo1_par c hc).mp h')), if_neg hp, ← ih]
        simp
/-! replacements that leave the tokens be -/
theorem repA_two {a b : Nat} {r : List Nat} (c : Nat) (l : List Nat) : (∃ l', c = a ∧ l = b :: l' ∧ repA [a, b] r 0 (c :: l) = r ++ repA [a, b] r 0 l') ∨ ((¬ (c = a ∧ ∃ l', l = b :: l')) ∧ repA [a, b] r 0 (c :: l) = c :: repA [a, b] r 0 l) := by
  by_cases h : c = a ∧ ∃ l', l = b :: l'
  · obtain ⟨rfl, l', rfl⟩ := h
    exact .inl ⟨l', rfl, rfl, repA_hit (p := [c, b]) (by simp)⟩
  · refine .inr ⟨h, repA_miss fun hp => h ?_⟩
    obtain ⟨t, ht⟩ := hp
    simp only [List.cons_append, List.nil_append, List.cons.injEq] at ht
    exact ⟨ht.1.symm, t, ht.2.symm⟩
theorem tk_rep_lp : ∀ (n : Nat) (l cur : List Nat), l.length ≤ n → tk cur (repA [40, 32] [40] 0 l) = tk cur l
  | _, [], cur, _ => by simp [repA]
  | 0, _ :: _, _, h => by simp at h
  | n + 1, c :: l, cur, h => by
    rcases repA_two (a := 40) (b := 32) (r := [40]) c l with ⟨l', rfl, rfl, e⟩ | ⟨_, e⟩
    · rw [e]
      show tk cur (40 :: repA _ _ 0 l') = _
      rw [tk_lp, tk_lp, tk_space sp32, tk_rep_lp n l' [] (by simp at h; omega)]; rfl
    · rw [e]
      unfold tk
      simp only [tk_rep_lp n l _ (by simpa using h)]
theorem tk_rep_rp : ∀ (n : Nat) (l cur : List Nat), l.length ≤ n → tk cur (repA [32, 41] [41] 0 l) = tk cur l
  | _, [], cur, _ => by simp [repA]
  | 0, _ :: _, _, h => by simp at h
  | n + 1, c :: l, cur, h => by
    rcases repA_two (a := 32) (b := 41) (r := [41]) c l with ⟨l', rfl, rfl, e⟩ | ⟨_, e⟩
    · rw [e]
      show tk cur (41 :: repA _ _ 0 l') = _
      rw [tk_rp, tk_space sp32, tk_rp, tk_rep_rp n l' [] (by simp at h; omega)]; rfl
    · rw [e]
      unfold tk
      simp only [tk_rep_rp n l _ (by simpa using h)]
theorem tk_rep_sp : ∀ (l cur : List Nat), tk cur (repA [32] [32, 32, 32] 0 l) = tk cur l
  | [], cur => by simp [repA]
  | c :: l, cur => by
    rw [repA_one]
    by_cases h : c = 32
    · subst h
      rw [if_pos rfl]
      show tk cur (32 :: 32 :: 32 :: _) = _
      rw [tk_space sp32, tk_space sp32, tk_space sp32, tk_space sp32]
      show _ ++ (_ ++ (_ ++ tk [] (repA [32] [32, 32, 32] 0 l))) = _
      rw [tk_rep_sp l]
      simp [flush]
    · rw [if_neg h]
      unfold tk
      simp only [tk_rep_sp l]
/-! the finished text -/
def lay : List (List Nat) → List Nat
  | [] => []
  | [w] => w
  | w :: v :: r => w ++ (if w = [40] ∨ v = [41] then [] else [32]) ++ lay (v :: r)
def lay1 : List (List Nat) → List Nat
  | [] => []
  | [w] => w
  | w :: v :: r => w ++ (if w = [40] then [] else [32]) ++ lay1 (v :: r)
theorem repA_over {p r : List Nat} {a : Nat} {q : List Nat} (hp : p = a :: q) : ∀ (w l : List Nat), (∀ c ∈ w, c ≠ a) → repA p r 0 (w ++ l) = w ++ repA p r 0 l
  | [], l, _ => rfl
  | c :: w, l, h => by
    rw [List.cons_append, repA_miss, repA_over hp w l fun c hc => h c (.tail _ hc)]
    · rfl
    · rintro ⟨t, ht⟩
      rw [hp] at ht
      simp only [List.cons_append, List.cons.injEq] at ht
      exact h c (.head _) ht.1.symm
theorem atom_no32 {w : List Nat} (h : atom w = true) : ∀ c ∈ w, c ≠ 32 := by
  rcases plain_cases h with ⟨_, h2⟩ | rfl | rfl
  · intro c hc e
    have := List.all_eq_true.mp h2 c hc
    rw [e, sp32] at this; cases this
  · decide
  · decide
theorem atom_no40 {w : List Nat} (h : atom w = true) (h0 : w ≠ [40]) : ∀ c ∈ w, c ≠ 40 := by
  rcases plain_cases h with ⟨_, h2⟩ | rfl | rfl
  · intro c hc e
    have := List.all_eq_true.mp h2 c hc
    rw [e] at this; simp at this
  · exact absurd rfl h0
  · decide
theorem atom_hd {w : List Nat} (h : atom w = true) (h0 : w ≠ [41]) : ∃ c q, w = c :: q ∧ c ≠ 41 := by
  rcases plain_cases h with ⟨h1, h2⟩ | rfl | rfl
  · obtain ⟨c, q, rfl⟩ := List.exists_cons_of_ne_nil h1
    refine ⟨c, q, rfl, fun e => ?_⟩
    have := List.all_eq_true.mp h2 c (.head _)
    rw [e] at this; simp at this
  · exact ⟨40, [], rfl, by decide⟩
  · exact absurd rfl h0
theorem rep_joinc : ∀ ws : List (List Nat), (∀ w ∈ ws, atom w = true) → repA [40, 32] [40] 0 (joinc ws) = lay1 ws
  | [], _ => rfl
  | [w], h => by
    show repA _ _ 0 w = w
    by_cases e : w = [40]
    · subst e; decide
    · have := repA_over (p := [40, 32]) (r := [40]) rfl w [] (atom_no40 (h w (.head _)) e)
      simpa [repA] using this
  | w :: v :: r, h => by
    have ih := rep_joinc (v :: r) fun w hw => h w (.tail _ hw)
    show repA _ _ 0 (w ++ 32 :: joinc (v :: r)) = w ++ (if w = [40] then [] else [32]) ++ lay1 (v :: r)
    by_cases e : w = [40]
    · subst e
      rw [if_pos rfl]
      have := repA_hit (p := [40, 32]) (r := [40]) (l := joinc (v :: r)) (by simp)
      rw [ih] at this
      simpa using this
    · rw [if_neg e, repA_over rfl w _ (atom_no40 (h w (.head _)) e), repA_miss (by rintro ⟨t, ht⟩; simp at ht), ih]
      simp
theorem lay1_cons (v : List Nat) (r : List (List Nat)) : ∃ t, lay1 (v :: r) = v ++ t := by
  cases r with
  | nil => exact ⟨[], by simp [lay1]⟩
  | cons u r => exact ⟨(if v = [40] then [] else [32]) ++ lay1 (u :: r), by simp [lay1]⟩
theorem rep_lay1 : ∀ ws : List (List Nat), (∀ w ∈ ws, atom w = true) → repA [32, 41] [41] 0 (lay1 ws) = lay ws
  | [], _ => rfl
  | [w], h => by
    show repA _ _ 0 w = w
    have := repA_over (p := [32, 41]) (r := [41]) rfl w [] (atom_no32 (h w (.head _)))
    simpa [repA] using this
  | w :: v :: r, h => by
    have ih := rep_lay1 (v :: r) fun w hw => h w (.tail _ hw)
    have hv := h v (.tail _ (.head _))
    show repA _ _ 0 (w ++ (if w = [40] then [] else [32]) ++ lay1 (v :: r)) = w ++ (if w = [40] ∨ v = [41] then [] else [32]) ++ lay (v :: r)
    rw [List.append_assoc, repA_over rfl w _ (atom_no32 (h w (.head _)))]
    by_cases e : w = [40]
    · rw [if_pos e, if_pos (.inl e), List.nil_append, ih]; simp
    · rw [if_neg e]
      by_cases e2 : v = [41]
      · rw [if_pos (.inr e2)]
        subst e2
        obtain ⟨t, ht⟩ := lay1_cons [41] r
        rw [ht] at ih ⊢
        show w ++ repA _ _ 0 ([32, 41] ++ t) = _
        rw [repA_hit (by simp), ← ih]
        show _ = w ++ [] ++ repA _ _ 0 (41 :: t)
        rw [repA_miss (by rintro ⟨t, ht⟩; simp at ht)]
        simp
      · rw [if_neg (fun h' => h'.elim e e2)]
        obtain ⟨c, q, rfl, hc⟩ := atom_hd hv e2
        obtain ⟨t, ht⟩ := lay1_cons (c :: q) r
        rw [ht] at ih ⊢
        show w ++ repA _ _ 0 (32 :: ((c :: q) ++ t)) = _
        rw [repA_miss (by rintro ⟨t, ht⟩; simp at ht; exact hc ht.1.symm), ih]
        simp
theorem finish_chs {norm : List Str} (h : ∀ w ∈ norm, atom (chs w) = true) : chs (finishP norm) = lay (norm.map chs) := by
  unfold finishP
  rw [replace_chs (by decide), replace_chs (by decide), join_chs]
  have h' : ∀ w ∈ norm.map chs, atom w = true := by
    intro w hw; obtain ⟨v, hv, rfl⟩ := List.mem_map.mp hw; exact h v hv
  rw [← rep_lay1 _ h', ← rep_joinc _ h']
  rfl
theorem tk_finish {norm : List Str} (h : ∀ w ∈ norm, atom (chs w) = true) : tk [] (chs (finishP norm)) = norm.map chs := by
  unfold finishP
  rw [replace_chs (by decide), replace_chs (by decide), join_chs]
  show tk [] (repA [32, 41] [41] 0 (repA [40, 32] [40] 0 _)) = _
  rw [tk_rep_rp _ _ _ (Nat.le_refl _), tk_rep_lp _ _ _ (Nat.le_refl _), tk_joinc]
  intro w hw; obtain ⟨v, hv, rfl⟩ := List.mem_map.mp hw; exact h v hv
end Mine
end
section
open PySem PySem.W PyProof.Rows PySem.Calls PySem.Spec PySem.Builtin PySem.Builtin.Str PySem.StrLaws
namespace Mine
/-! the expression of False, or, and, brackets: codes 0, 1, 2, 3, 4 -/
def encS (c : Nat) : Str := if c = 0 then Str.ofString "False" else if c = 1 then Str.ofString "or" else if c = 2 then Str.ofString "and" else if c = 3 then Str.ofString "(" else Str.ofString ")"
def enc (c : Nat) : List Nat := chs (encS c)
def run : List Nat → Nat → Bool → Bool
  | [], d, e => e && d == 0
  | c :: r, d, e => if c = 0 then !e && run r d true else if c = 3 then !e && run r (d + 1) false else if c = 4 then e && decide (1 ≤ d) && run r (d - 1) true else e && run r d false
theorem pre_word : ∀ {a w u l : List Nat}, (∀ c ∈ a, c ≠ 32) → (∀ c ∈ w, c ≠ 32) → a ++ 32 :: u <+: w ++ 32 :: l → a = w ∧ u <+: l
  | [], [], u, l, _, _, h => ⟨rfl, by simpa [List.cons_prefix_cons] using h⟩
  | [], c :: w, u, l, _, hw, h => by
    simp only [List.nil_append, List.cons_append, List.cons_prefix_cons] at h
    exact absurd h.1.symm (hw c (.head _))
  | c :: a, [], u, l, ha, _, h => by
    simp only [List.nil_append, List.cons_append, List.cons_prefix_cons] at h
    exact absurd h.1 (ha c (.head _))
  | c :: a, b :: w, u, l, ha, hw, h => by
    simp only [List.cons_append, List.cons_prefix_cons] at h
    obtain ⟨h1, h2⟩ := pre_word (fun c hc => ha c (.tail _ hc)) (fun c hc => hw c (.tail _ hc)) h.2
    exact ⟨by rw [h.1, h1], h2⟩
theorem pre_word_end {a w u : List Nat} (hw : ∀ c ∈ w, c ≠ 32) : ¬ a ++ 32 :: u <+: w := by
  intro h
  exact hw 32 (h.subset (by simp)) rfl
theorem pre_end : ∀ {a w l : List Nat}, (∀ c ∈ a, c ≠ 32) → a <+: w ++ 32 :: l → a <+: w
  | [], _, _, _, _ => List.nil_prefix
  | c :: a, [], l, ha, h => by
    simp only [List.nil_append, List.cons_prefix_cons] at h
    exact absurd h.1 (ha c (.head _))
  | c :: a, b :: w, l, ha, h => by
    simp only [List.cons_append, List.cons_prefix_cons] at h ⊢
    exact ⟨h.1, pre_end (fun c hc => ha c (.tail _ hc)) h.2⟩
theorem enc32 : ∀ k, k < 5 → ∀ c ∈ enc k, c ≠ 32 := by decide +kernel
theorem enc_inj : ∀ a, a < 5 → ∀ b, b < 5 → (enc a).isPrefixOf (enc b) = true → a = b := by decide +kernel
theorem enc_atom : ∀ a, a < 5 → atom (enc a) = true := by decide +kernel
theorem pat_pre {x y z : Nat} (hx : x < 5) (hy : y < 5) (hz : z < 5) : ∀ {ts : List Nat}, (∀ t ∈ ts, t < 5) → enc x ++ 32 :: (enc y ++ 32 :: enc z) <+: joinc (ts.map enc) → [x, y, z] <+: ts
  | [], _, h => by
    obtain ⟨t, ht⟩ := h
    simp [joinc] at ht
  | [a], ht, h => absurd h (pre_word_end (enc32 a (ht a (.head _))))
  | [a, b], ht, h => by
    have h' : _ <+: enc a ++ 32 :: enc b := h
    have h2 := (pre_word (enc32 x hx) (enc32 a (ht a (.head _))) h').2
    exact absurd h2 (pre_word_end (enc32 b (ht b (by simp))))
  | a :: b :: c :: r, ht, h => by
    have ha := ht a (by simp)
    have hb := ht b (by simp)
    have hc := ht c (by simp)
    have h' : _ <+: enc a ++ 32 :: (enc b ++ 32 :: joinc ((c :: r).map enc)) := h
    obtain ⟨h1, h2⟩ := pre_word (enc32 x hx) (enc32 a ha) h'
    obtain ⟨h3, h4⟩ := pre_word (enc32 y hy) (enc32 b hb) h2
    have e1 := enc_inj x hx a ha (by rw [h1, List.isPrefixOf_iff_prefix]; exact List.prefix_refl _)
    have e2 := enc_inj y hy b hb (by rw [h3, List.isPrefixOf_iff_prefix]; exact List.prefix_refl _)
    have h5 : enc z <+: enc c := by
      cases r with
      | nil => exact h4
      | cons d r => exact pre_end (enc32 z hz) h4
    have e3 := enc_inj z hz c hc (by rw [List.isPrefixOf_iff_prefix]; exact h5)
    subst e1 e2 e3
    exact ⟨r, rfl⟩
theorem joinc_cons (w : List Nat) {r : List (List Nat)} (h : r ≠ []) : joinc (w :: r) = w ++ 32 :: joinc r := by
  cases r with
  | nil => exact absurd rfl h
  | cons v r => rfl
theorem repA_ne {p : List Nat} {a : Nat} {l : List Nat} (h : l ≠ []) : repA p [a] 0 l ≠ [] := by
  cases l with
  | nil => exact absurd rfl h
  | cons c l =>
    unfold repA
    split <;> simp
theorem enc_hd : ∀ c, c < 5 → ∃ h t, enc c = h :: t ∧ ∀ a ∈ t, a ≠ 70 ∧ a ≠ 40 := by
  intro c hc
  refine ⟨(enc c).headD 0, (enc c).tail, ?_, ?_⟩
  · revert c; decide +kernel
  · revert c; decide +kernel
/-- a replacement in the text is one in the row of codes -/
theorem rep_codes {x y z hd : Nat} {tl : List Nat} (hx : x < 5) (hy : y < 5) (hz : z < 5) (hh : enc x ++ 32 :: (enc y ++ 32 :: enc z) = hd :: tl) (h70 : hd = 70 ∨ hd = 40) : ∀ (n : Nat) (ts : List Nat), ts.length ≤ n → (∀ t ∈ ts, t < 5) →
    repA (enc x ++ 32 :: (enc y ++ 32 :: enc z)) (enc 0) 0 (joinc (ts.map enc)) = joinc ((repA [x, y, z] [0] 0 ts).map enc)
  | _, [], _, _ => rfl
  | 0, _ :: _, h, _ => by simp at h
  | n + 1, c :: r, hl, ht => by
    have hlr : r.length ≤ n := by simpa using hl
    have hr5 : ∀ t ∈ r, t < 5 := fun t h => ht t (.tail _ h)
    have hd32 : hd ≠ 32 := by rcases h70 with h | h <;> rw [h] <;> decide
    by_cases hp : [x, y, z] <+: c :: r
    · obtain ⟨q, hq⟩ := hp
      rw [← hq] at ht hl ⊢
      have hq5 : ∀ t ∈ q, t < 5 := fun t h => ht t (by simp [h])
      rw [repA_hit (by simp)]
      have hql : q.length ≤ n := by simp at hl; omega
      have ih := rep_codes hx hy hz hh h70 n q hql hq5
      by_cases e : q = []
      · subst e
        have : repA (enc x ++ 32 :: (enc y ++ 32 :: enc z)) (enc 0) 0 ((enc x ++ 32 :: (enc y ++ 32 :: enc z)) ++ []) = enc 0 ++ repA _ _ 0 [] := repA_hit (by simp)
        simp only [List.append_nil] at this
        show repA _ _ 0 (enc x ++ 32 :: (enc y ++ 32 :: enc z)) = _
        rw [this]; simp [repA, joinc]
      · have e2 : joinc (([x, y, z] ++ q).map enc) = (enc x ++ 32 :: (enc y ++ 32 :: enc z)) ++ 32 :: joinc (q.map enc) := by
          show joinc (enc x :: enc y :: enc z :: q.map enc) = _
          rw [joinc_cons _ (by simp), joinc_cons _ (by simp), joinc_cons _ (by simpa using e)]
          simp
        rw [e2, repA_hit (by simp), repA_miss, ih]
        · show _ = joinc (enc 0 :: (repA [x, y, z] [0] 0 q).map enc)
          rw [joinc_cons _ (by simpa using repA_ne e)]
        · rintro ⟨t, h⟩
          rw [hh] at h
          simp only [List.cons_append, List.cons.injEq] at h
          exact hd32 h.1
    · have hc := ht c (.head _)
      obtain ⟨a, t, hat, hta⟩ := enc_hd c hc
      have htn : ∀ b ∈ t, b ≠ hd := fun b hb => by rcases h70 with h | h <;> rw [h]; exact (hta b hb).1; exact (hta b hb).2
      have hnp : ¬ enc x ++ 32 :: (enc y ++ 32 :: enc z) <+: joinc ((c :: r).map enc) := fun h => hp (pat_pre hx hy hz ht h)
      rw [repA_miss hp]
      by_cases e : r = []
      · subst e
        have hj : joinc ([c].map enc) = a :: (t ++ []) := by rw [List.append_nil]; exact hat
        rw [hj] at hnp ⊢
        rw [repA_miss hnp, repA_over hh t [] htn]
        show _ = joinc ([c].map enc)
        rw [hj]; simp [repA]
      · have hj : joinc ((c :: r).map enc) = a :: (t ++ 32 :: joinc (r.map enc)) := by
          rw [List.map_cons, joinc_cons _ (by simpa using e), hat]; rfl
        rw [hj] at hnp ⊢
        rw [repA_miss hnp, repA_over hh t _ htn, repA_miss, rep_codes hx hy hz hh h70 n r hlr hr5]
        · rw [List.map_cons, joinc_cons _ (by simpa using repA_ne e), hat]; rfl
        · rintro ⟨t, h⟩
          rw [hh] at h
          simp only [List.cons_append, List.cons.injEq] at h
          exact hd32 h.1
theorem repA_lt {p : List Nat} : ∀ (l : List Nat) (k : Nat), (∀ t ∈ l, t < 5) → ∀ t ∈ repA p [0] k l, t < 5 := by
  intro l k h t ht
  rcases repA_mem l k ht with h' | h'
  · rw [List.mem_singleton.mp h']; decide
  · exact h t h'
def tred (ts : List Nat) : List Nat := repA [3, 0, 4] [0] 0 (repA [0, 2, 0] [0] 0 (repA [0, 1, 0] [0] 0 ts))
theorem tred_lt {ts : List Nat} (h : ∀ t ∈ ts, t < 5) : ∀ t ∈ tred ts, t < 5 := repA_lt _ _ (repA_lt _ _ (repA_lt _ _ h))
abbrev jn (ts : List Nat) : Str := Txt.join (Str.ofString " ") (ts.map encS)
theorem jn_chs (ts : List Nat) : chs (jn ts) = joinc (ts.map enc) := by rw [join_chs, List.map_map]; rfl
theorem red1_jn {ts : List Nat} (h : ∀ t ∈ ts, t < 5) : red1 (jn ts) = jn (tred ts) := by
  apply str_ext
  unfold red1
  rw [replace_chs (by decide), replace_chs (by decide), replace_chs (by decide), jn_chs, jn_chs]
  have h1 := repA_lt (p := [0, 1, 0]) ts 0 h
  have h2 := repA_lt (p := [0, 2, 0]) _ 0 h1
  have e1 := rep_codes (x := 0) (y := 1) (z := 0) (hd := 70) (by decide) (by decide) (by decide) rfl (.inl rfl) _ ts (Nat.le_refl _) h
  have e2 := rep_codes (x := 0) (y := 2) (z := 0) (hd := 70) (by decide) (by decide) (by decide) rfl (.inl rfl) _ _ (Nat.le_refl _) h1
  have e3 := rep_codes (x := 3) (y := 0) (z := 4) (hd := 40) (by decide) (by decide) (by decide) rfl (.inr rfl) _ _ (Nat.le_refl _) h2
  rw [show chs (Str.ofString "False or False") = enc 0 ++ 32 :: (enc 1 ++ 32 :: enc 0) from by decide +kernel, show chs (Str.ofString "False and False") = enc 0 ++ 32 :: (enc 2 ++ 32 :: enc 0) from by decide +kernel,
    show chs (Str.ofString "( False )") = enc 3 ++ 32 :: (enc 0 ++ 32 :: enc 4) from by decide +kernel, show chs (Str.ofString "False") = enc 0 from by decide +kernel, e1, e2, e3]
  rfl
def tredN : Nat → List Nat → List Nat
  | 0, ts => ts
  | n + 1, ts => tredN n (tred ts)
theorem redN_jn : ∀ (n : Nat) {ts : List Nat}, (∀ t ∈ ts, t < 5) → redN n (jn ts) = jn (tredN n ts)
  | 0, _, _ => rfl
  | n + 1, ts, h => by
    show redN n (red1 (jn ts)) = _
    rw [red1_jn h, redN_jn n (tred_lt h)]; rfl
theorem jn_false {ts : List Nat} (h : ∀ t ∈ ts, t < 5) : jn ts = Str.ofString "False" ↔ ts = [0] := by
  constructor
  · intro e
    have h1 := congrArg chs e
    rw [jn_chs] at h1
    have h2 := tk_joinc (ts.map enc) (by intro w hw; obtain ⟨t, ht, rfl⟩ := List.mem_map.mp hw; exact enc_atom t (h t ht))
    rw [h1, show tk [] (chs (Str.ofString "False")) = [enc 0] from by decide +kernel] at h2
    cases ts with
    | nil => cases h2
    | cons a r =>
      simp only [List.map_cons, List.cons.injEq] at h2
      have : r = [] := by simpa using h2.2.symm
      subst this
      have := enc_inj 0 (by decide) a (h a (.head _)) (by rw [← h2.1]; decide +kernel)
      rw [this]
  · rintro rfl; rfl
theorem run_rep {x y z : Nat} (hs : ∀ l d e, run (x :: y :: z :: l) d e = run (0 :: l) d e) : ∀ (n : Nat) (ts : List Nat) (d : Nat) (e : Bool), ts.length ≤ n → run (repA [x, y, z] [0] 0 ts) d e = run ts d e
  | _, [], _, _, _ => rfl
  | 0, _ :: _, _, _, h => by simp at h
  | n + 1, c :: r, d, e, h => by
    by_cases hp : [x, y, z] <+: c :: r
    · obtain ⟨q, hq⟩ := hp
      rw [← hq] at h ⊢
      rw [repA_hit (by simp)]
      show run (0 :: repA _ _ 0 q) d e = run (x :: y :: z :: q) d e
      rw [hs]
      simp only [run, if_true]
      rw [run_rep hs n q _ _ (by simp at h; omega)]
    · rw [repA_miss hp]
      simp only [run]
      have hr : r.length ≤ n := by simpa using h
      simp only [run_rep hs n r _ _ hr]
theorem run_tred (ts : List Nat) (d : Nat) (e : Bool) : run (tred ts) d e = run ts d e := by
  unfold tred
  rw [run_rep (by intro l d e; cases e <;> simp [run]) _ _ _ _ (Nat.le_refl _), run_rep (by intro l d e; cases e <;> simp [run]) _ _ _ _ (Nat.le_refl _), run_rep (by intro l d e; cases e <;> simp [run]) _ _ _ _ (Nat.le_refl _)]
theorem run_tredN : ∀ (n : Nat) (ts : List Nat) (d : Nat) (e : Bool), run (tredN n ts) d e = run ts d e
  | 0, _, _, _ => rfl
  | n + 1, ts, d, e => by show run (tredN n (tred ts)) d e = _; rw [run_tredN n, run_tred]
theorem repA_shrink {x y z : Nat} : ∀ (n : Nat) (ts : List Nat), ts.length ≤ n → (repA [x, y, z] [0] 0 ts).length ≤ ts.length ∧ ([x, y, z] <:+: ts → (repA [x, y, z] [0] 0 ts).length < ts.length)
  | _, [], _ => ⟨Nat.le_refl _, fun h => by simp at h⟩
  | 0, _ :: _, h => by simp at h
  | n + 1, c :: r, h => by
    by_cases hp : [x, y, z] <+: c :: r
    · obtain ⟨q, hq⟩ := hp
      rw [← hq] at h ⊢
      rw [repA_hit (by simp)]
      have := (repA_shrink (x := x) (y := y) (z := z) n q (by simp at h; omega)).1
      simp only [List.length_append, List.length_cons, List.length_nil]
      exact ⟨by omega, fun _ => by omega⟩
    · rw [repA_miss hp]
      have := repA_shrink (x := x) (y := y) (z := z) n r (by simpa using h)
      simp only [List.length_cons]
      refine ⟨by omega, fun hi => ?_⟩
      have : [x, y, z] <:+: r := by
        rcases List.infix_cons_iff.mp hi with h | h
        · exact absurd h hp
        · exact h
      have := (repA_shrink (x := x) (y := y) (z := z) n r (by simpa using h)).2 this
      omega
def redex (ts : List Nat) : Prop := [0, 1, 0] <:+: ts ∨ [0, 2, 0] <:+: ts ∨ [3, 0, 4] <:+: ts
theorem repA_id {p ts : List Nat} (hp : p ≠ []) (h : ¬ p <:+: ts) : repA p [0] 0 ts = ts :=
  repA_none hp ts fun j _ hj => h (hj.isInfix.trans (List.drop_suffix j ts).isInfix)
theorem tred_shrink {ts : List Nat} (h : redex ts) : (tred ts).length < ts.length := by
  unfold tred
  have a1 := repA_shrink (x := 0) (y := 1) (z := 0) _ ts (Nat.le_refl _)
  have a2 := repA_shrink (x := 0) (y := 2) (z := 0) _ (repA [0, 1, 0] [0] 0 ts) (Nat.le_refl _)
  have a3 := repA_shrink (x := 3) (y := 0) (z := 4) _ (repA [0, 2, 0] [0] 0 (repA [0, 1, 0] [0] 0 ts)) (Nat.le_refl _)
  by_cases h1 : [0, 1, 0] <:+: ts
  · have := a1.2 h1; omega
  · rw [repA_id (by simp) h1] at a2 a3 ⊢
    by_cases h2 : [0, 2, 0] <:+: ts
    · have := a2.2 h2; omega
    · rw [repA_id (by simp) h2] at a3 ⊢
      rcases h with h | h | h
      · exact absurd h h1
      · exact absurd h h2
      · exact a3.2 h
theorem redex_cons {c : Nat} {ts : List Nat} (h : redex ts) : redex (c :: ts) := by
  rcases h with h | h | h
  · exact .inl (List.infix_cons_iff.mpr (.inr h))
  · exact .inr (.inl (List.infix_cons_iff.mpr (.inr h)))
  · exact .inr (.inr (List.infix_cons_iff.mpr (.inr h)))
theorem progress : ∀ (n : Nat) (ts : List Nat) (d : Nat), ts.length ≤ n → (∀ t ∈ ts, t < 5) → run ts d false = true → redex ts ∨ (ts = [0] ∧ d = 0) ∨ ∃ r, ts = 0 :: 4 :: r
  | _, [], _, _, _, h => by cases h
  | 0, _ :: _, _, h, _, _ => by simp at h
  | n + 1, c :: r, d, hl, h5, h => by
    have hc := h5 c (.head _)
    have hr5 : ∀ t ∈ r, t < 5 := fun t h => h5 t (.tail _ h)
    have hrl : r.length ≤ n := by simpa using hl
    have hc2 : c = 0 ∨ c = 3 := by
      by_cases h0 : c = 0
      · exact .inl h0
      · by_cases h3 : c = 3
        · exact .inr h3
        · simp [run, h0, h3] at h
    rcases hc2 with rfl | rfl
    · have h2 : run r d true = true := by simpa [run] using h
      cases r with
      | nil => exact .inr (.inl ⟨rfl, by simpa [run] using h2⟩)
      | cons b q =>
        have hb := hr5 b (.head _)
        have hb2 : b = 4 ∨ ((b = 1 ∨ b = 2) ∧ run q d false = true) := by
          by_cases h0 : b = 0
          · simp [run, h0] at h2
          · by_cases h3 : b = 3
            · simp [run, h3] at h2
            · by_cases h4 : b = 4
              · exact .inl h4
              · exact .inr ⟨by omega, by simpa [run, h0, h3, h4] using h2⟩
        rcases hb2 with rfl | ⟨hb2, h3⟩
        · exact .inr (.inr ⟨q, rfl⟩)
        · have hq5 : ∀ t ∈ q, t < 5 := fun t h => hr5 t (.tail _ h)
          have hop : ∀ q', q = 0 :: q' → redex (0 :: b :: q) := by
            rintro q' rfl
            rcases hb2 with rfl | rfl
            · exact .inl ⟨[], q', rfl⟩
            · exact .inr (.inl ⟨[], q', rfl⟩)
          rcases progress n q d (by simp at hrl; omega) hq5 h3 with h4 | ⟨h4, -⟩ | ⟨q', h4⟩
          · exact .inl (redex_cons (redex_cons h4))
          · exact .inl (hop _ h4)
          · exact .inl (hop _ h4)
    · have h2 : run r (d + 1) false = true := by simpa [run] using h
      rcases progress n r (d + 1) hrl hr5 h2 with h4 | ⟨-, h4⟩ | ⟨q', h4⟩
      · exact .inl (redex_cons h4)
      · cases h4
      · subst h4; exact .inl (.inr (.inr ⟨[], q', rfl⟩))
theorem tredN_done : ∀ (n : Nat) (ts : List Nat), ts.length ≤ n + 1 → (∀ t ∈ ts, t < 5) → run ts 0 false = true → tredN n ts = [0]
  | 0, ts, hl, h5, h => by
    rcases progress _ ts 0 (Nat.le_refl _) h5 h with h1 | ⟨h1, -⟩ | ⟨q, h1⟩
    · have := tred_shrink h1
      have hp : ∀ p : List Nat, p.length = 3 → ¬ p <:+: ts := fun p hp h => by have := h.length_le; omega
      rcases h1 with h1 | h1 | h1 <;> exact absurd h1 (hp _ rfl)
    · exact h1
    · subst h1; simp [run] at h
  | n + 1, ts, hl, h5, h => by
    show tredN n (tred ts) = [0]
    refine tredN_done n _ ?_ (tred_lt h5) (by rw [run_tred]; exact h)
    rcases progress _ ts 0 (Nat.le_refl _) h5 h with h1 | ⟨h1, -⟩ | ⟨q, h1⟩
    · have := tred_shrink h1; omega
    · subst h1; show 1 ≤ n + 1; omega
    · subst h1; simp [run] at h
/-- the text of codes comes to False just when the machine takes the row -/
theorem red_iff {ts : List Nat} (h5 : ∀ t ∈ ts, t < 5) : redN ts.length (jn ts) = Str.ofString "False" ↔ run ts 0 false = true := by
  rw [redN_jn _ h5]
  have hlt : ∀ (n : Nat) (ts : List Nat), (∀ t ∈ ts, t < 5) → ∀ t ∈ tredN n ts, t < 5 := by
    intro n
    induction n with
    | zero => exact fun _ h => h
    | succ n ih => exact fun ts h => ih _ (tred_lt h)
  rw [jn_false (hlt _ _ h5)]
  constructor
  · intro h
    rw [← run_tredN ts.length, h]; rfl
  · intro h
    exact tredN_done _ _ (by omega) h5 h
end Mine
end
section
open PySem PySem.W PyProof.Rows PySem.Calls PySem.Spec PySem.Builtin PySem.Builtin.Str PySem.StrLaws
namespace Mine
/-- letters of tokens: licence, exception, with, brackets, joining word, strange -/
inductive Lt | l | x | w | p | q | o | s
  deriving DecidableEq, Repr
/-- the rows that are right: 0 open, 1 a licence has ended, 2 something else has ended, 3 behind with -/
def fin : List Lt → Nat → Nat → Bool
  | [], d, st => (st == 1 || st == 2) && d == 0
  | .l :: r, d, st => st == 0 && fin r d 1
  | .x :: r, d, st => st == 3 && fin r d 2
  | .w :: r, d, st => st == 1 && fin r d 3
  | .p :: r, d, st => st == 0 && fin r (d + 1) 0
  | .q :: r, d, st => (st == 1 || st == 2) && decide (1 ≤ d) && fin r (d - 1) 2
  | .o :: r, d, st => (st == 1 || st == 2) && fin r d 0
  | .s :: _, _, _ => false
def py1 (t : Str) : Nat := if kw t = false then 0 else if t = Str.ofString "with" then 1 else if t = Str.ofString "or" then 1 else if t = Str.ofString "and" then 2 else if t = Str.ofString "(" then 3 else 4
theorem py1_lt (t : Str) : py1 t < 5 := by unfold py1; repeat' split <;> first | decide | skip
theorem kw_cases {t : Str} (h : kw t = true) : t = Str.ofString "or" ∨ t = Str.ofString "and" ∨ t = Str.ofString "with" ∨ t = Str.ofString "(" ∨ t = Str.ofString ")" := by
  simp only [kw, Bool.or_eq_true, decide_eq_true_eq, Bool.false_eq_true, false_or] at h
  rcases h with (((h | h) | h) | h) | h <;> simp [h]
theorem py_step {acc : List Str} {t : Str} (h : pyStep acc t ≠ none) : pyStep acc t = some (acc ++ [encS (py1 t)]) := by
  cases hk : kw t
  · rw [step_a hk]; simp [py1, hk, encS]
  · rcases kw_cases hk with e | e | e | e | e
    · subst e; rw [step_c1 hk (by decide) (by decide) (by decide)]; rfl
    · subst e; rw [step_c1 hk (by decide) (by decide) (by decide)]; rfl
    · subst e; rw [step_b hk (by decide)]; rfl
    · have hp : encS (py1 t) = t := by subst e; decide +kernel
      rw [hp]
      unfold pyStep at h ⊢
      rw [if_neg (by rw [hk]; decide), if_neg (by rw [e]; decide)] at h ⊢
      split
      · rename_i h'; rw [if_pos h'] at h; exact absurd rfl h
      · rfl
    · have hp : encS (py1 t) = t := by subst e; decide +kernel
      rw [hp]
      unfold pyStep at h ⊢
      rw [if_neg (by rw [hk]; decide), if_neg (by rw [e]; decide)] at h ⊢
      split
      · rename_i h'; rw [if_pos h'] at h; exact absurd rfl h
      · rfl
theorem pyToks_some : ∀ (ts acc py : List Str), pyToks acc ts = some py → py = acc ++ (ts.map py1).map encS
  | [], acc, py, h => by
    have : some acc = some py := h
    simp [(Option.some.inj this)]
  | t :: r, acc, py, h => by
    have h' : (pyStep acc t).bind (fun acc' => pyToks acc' r) = some py := h
    have hne : pyStep acc t ≠ none := by intro e; rw [e] at h'; cases h'
    rw [py_step hne] at h'
    have := pyToks_some r _ py h'
    rw [this]; simp
theorem pyToks_run : ∀ (ts acc : List Str) (d : Nat) (e : Bool), run (ts.map py1) d e = true → (e = false → acc = [] ∨ kw3 (acc.getLast?.getD Str.empty) = true) → (e = true → acc.getLast?.getD Str.empty ≠ Str.ofString "(") →
    pyToks acc ts = some (acc ++ (ts.map py1).map encS)
  | [], acc, _, _, _, _, _ => by show some acc = _; simp
  | t :: r, acc, d, e, h, h0, h1 => by
    have hne : pyStep acc t ≠ none := by
      cases hk : kw t
      · rw [step_a hk]; simp
      · rcases kw_cases hk with e' | e' | e' | e' | e'
        · subst e'; rw [step_c1 hk (by decide) (by decide) (by decide)]; simp
        · subst e'; rw [step_c1 hk (by decide) (by decide) (by decide)]; simp
        · subst e'; rw [step_b hk (by decide)]; simp
        · have : py1 t = 3 := by subst e'; decide +kernel
          rw [List.map_cons, this] at h
          have he : e = false := by cases e with | false => rfl | true => simp [run] at h
          rw [step_c hk (by subst e'; decide) (fun h' => by
            rcases h0 he with h0 | h0
            · exact h'.2.1 h0
            · rw [h'.2.2] at h0; cases h0) (fun h' => by rw [e'] at h'; exact absurd h'.1 (by decide))]
          simp
        · have : py1 t = 4 := by subst e'; decide +kernel
          rw [List.map_cons, this] at h
          have he : e = true := by cases e with | true => rfl | false => simp [run] at h
          rw [step_c hk (by subst e'; decide) (fun h' => by rw [e'] at h'; exact absurd h'.1 (by decide)) (fun h' => h1 he h'.2.2)]
          simp
    have hs := py_step hne
    show (pyStep acc t).bind (fun acc' => pyToks acc' r) = _
    rw [hs]
    show pyToks (acc ++ [encS (py1 t)]) r = _
    have hlast : (acc ++ [encS (py1 t)]).getLast?.getD Str.empty = encS (py1 t) := by simp
    have hc := py1_lt t
    simp only [List.map_cons] at h ⊢
    generalize py1 t = c at h hlast hc ⊢
    have hcc : c = 0 ∨ c = 1 ∨ c = 2 ∨ c = 3 ∨ c = 4 := by omega
    have fini : ∀ d' e', run (r.map py1) d' e' = true → (e' = false → kw3 (encS c) = true) → (e' = true → encS c ≠ Str.ofString "(") → pyToks (acc ++ [encS c]) r = some (acc ++ [encS c] ++ (r.map py1).map encS) := by
      intro d' e' hr' a b
      exact pyToks_run r _ d' e' hr' (fun he => .inr (by rw [hlast]; exact a he)) (fun he => by rw [hlast]; exact b he)
    have goal : pyToks (acc ++ [encS c]) r = some (acc ++ [encS c] ++ (r.map py1).map encS) := by
      rcases hcc with rfl | rfl | rfl | rfl | rfl
      · refine fini d true (by simp [run] at h; exact h.2) (fun h => by cases h) (fun _ => by decide)
      · refine fini d false (by simp [run] at h; exact h.2) (fun _ => by decide) (fun h => by cases h)
      · refine fini d false (by simp [run] at h; exact h.2) (fun _ => by decide) (fun h => by cases h)
      · refine fini (d + 1) false (by simp [run] at h; exact h.2) (fun _ => by decide) (fun h => by cases h)
      · refine fini (d - 1) true (by simp [run] at h; exact h.2) (fun h => by cases h) (fun _ => by decide)
    rw [goal]; simp
theorem canonT_eq (ws : List Str) : canonT ws = if run ((ws.map Txt.lower).map py1) 0 false = true then (nmRun (putAll PyData.str Txt.lower refValP (ws.filter isRefP)) (ws.map Txt.lower) [] false).map finishP else none := by
  unfold canonT
  generalize ws.map Txt.lower = ts
  generalize nmRun _ ts [] false = nm
  have h5 : ∀ t ∈ ts.map py1, t < 5 := by intro t ht; obtain ⟨u, _, rfl⟩ := List.mem_map.mp ht; exact py1_lt u
  have hri := red_iff h5
  by_cases hr : run (ts.map py1) 0 false = true
  · rw [if_pos hr, pyToks_run ts [] 0 false hr (fun _ => .inl rfl) (fun h => by cases h)]
    show (if redN (([] : List Str) ++ (ts.map py1).map encS).length (Txt.join _ ([] ++ (ts.map py1).map encS)) = _ then _ else _) = _
    rw [List.nil_append, List.length_map, if_pos (hri.mpr hr)]
  · rw [if_neg hr]
    cases hp : pyToks [] ts with
    | none => rfl
    | some py =>
      have := pyToks_some _ _ _ hp
      rw [List.nil_append] at this
      show (if redN py.length (Txt.join _ py) = _ then _ else none) = none
      rw [if_neg]
      rw [this, List.length_map]
      exact fun h => hr (hri.mp h)
/-! the third loop -/
def licStep (D : List (PyData × PyData)) (t : Str) : Option Str :=
  if Txt.startswith (finP t) (Str.ofString "licenseref-") = true then
    if Txt.endswith t (Str.ofString "+") = true ∨ okRef (Txt.slice (finP t) (some 11) none) = false then none else lookT D (finP t)
  else (tabP licT (finP t)).map fun e => e ++ sufP t
def clS (D : List (PyData × PyData)) (t : Str) : Lt :=
  if kw t = true then (if t = Str.ofString "with" then .w else if t = Str.ofString "(" then .p else if t = Str.ofString ")" then .q else .o)
  else if (tabP excT t).isSome = true then .x else if (licStep D t).isSome = true then .l else .s
def toldS (D : List (PyData × PyData)) (t : Str) : Str :=
  if kw t = true then Txt.upper t else (tabP excT t).getD ((licStep D t).getD Str.empty)
/-- a token of which the third loop can tell one thing alone -/
def clear (D : List (PyData × PyData)) (t : Str) : Bool :=
  kw t || (!((tabP excT t).isSome && (licStep D t).isSome) && ((tabP excT t).getD ((licStep D t).getD Str.empty) != Str.ofString "WITH"))
theorem nmStep_lic {D : List (PyData × PyData)} {t : Str} {r norm : List Str} {lls : Bool} (hk : kw t = false) (hn : ¬ (norm ≠ [] ∧ norm.getLast?.getD Str.empty = Str.ofString "WITH")) :
    nmStep D t r norm lls = (licStep D t).map fun e => (norm ++ [e], true) := by
  unfold nmStep licStep
  rw [if_neg (by rw [hk]; decide), if_neg hn]
  split
  · split
    · rfl
    · rfl
  · cases tabP licT (finP t) <;> rfl
theorem nmStep_exc {D : List (PyData × PyData)} {t : Str} {r norm : List Str} {lls : Bool} (hk : kw t = false) (hn : norm ≠ [] ∧ norm.getLast?.getD Str.empty = Str.ofString "WITH") :
    nmStep D t r norm lls = (tabP excT t).map fun e => (norm ++ [e], false) := by
  unfold nmStep
  rw [if_neg (by rw [hk]; decide), if_pos hn]
theorem nmStep_kw {D : List (PyData × PyData)} {t : Str} {r norm : List Str} {lls : Bool} (hk : kw t = true) (h : t = Str.ofString "with" → lls = true ∧ r ≠ [] ∧ kw (r.head?.getD Str.empty) = false) :
    nmStep D t r norm lls = some (norm ++ [Txt.upper t], false) := by
  unfold nmStep
  rw [if_pos hk, if_neg]
  rintro ⟨h1, h2⟩
  obtain ⟨a, b, c⟩ := h h1
  rcases h2 with h2 | h2 | h2
  · rw [a] at h2; cases h2
  · exact b h2
  · rw [c] at h2; cases h2
theorem nmStep_with {D : List (PyData × PyData)} {t : Str} {r norm : List Str} {lls : Bool} (hk : kw t = true) (h1 : t = Str.ofString "with") (h : lls = false ∨ r = [] ∨ kw (r.head?.getD Str.empty) = true) :
    nmStep D t r norm lls = none := by
  unfold nmStep
  rw [if_pos hk, if_pos ⟨h1, h⟩]
def StOk (st : Nat) (norm : List Str) (lls : Bool) : Prop :=
  (lls = (st == 1)) ∧ (if st = 3 then norm ≠ [] ∧ norm.getLast?.getD Str.empty = Str.ofString "WITH" else ¬ (norm ≠ [] ∧ norm.getLast?.getD Str.empty = Str.ofString "WITH"))
theorem stOk_snoc {st : Nat} {norm : List Str} {lls : Bool} {y : Str} (h1 : lls = (st == 1)) (h2 : st = 3 ↔ y = Str.ofString "WITH") : StOk st (norm ++ [y]) lls := by
  refine ⟨h1, ?_⟩
  have hl : (norm ++ [y]).getLast?.getD Str.empty = y := by simp
  rw [hl]
  split
  · rename_i h; exact ⟨by simp, h2.mp h⟩
  · rename_i h; exact fun h' => h (h2.mpr h'.2)
/-- the two loops take the row just when it is right, and tell its told words -/
theorem sim (D : List (PyData × PyData)) : ∀ (ts : List Str) (d st : Nat) (norm : List Str) (lls : Bool), st < 4 → (∀ t ∈ ts, clear D t = true) → StOk st norm lls → (st = 3 → kw (ts.head?.getD Str.empty) = false) →
    (fin (ts.map (clS D)) d st = true → run (ts.map py1) d (st == 1 || st == 2) = true ∧ nmRun D ts norm lls = some (norm ++ ts.map (toldS D))) ∧
    (fin (ts.map (clS D)) d st = false → run (ts.map py1) d (st == 1 || st == 2) = false ∨ nmRun D ts norm lls = none)
  | [], d, st, norm, lls, _, _, _, _ => by
    constructor
    · intro h; exact ⟨h, by show some norm = _; simp⟩
    · intro h; exact .inl h
  | t :: r, d, st, norm, lls, hst, hcl, hok, h3k => by
    have hct := hcl t (.head _)
    have hcr : ∀ t ∈ r, clear D t = true := fun t h => hcl t (.tail _ h)
    have ih := fun d' st' norm' lls' h h' h3 => sim D r d' st' norm' lls' h hcr h' h3
    obtain ⟨hl1, hl2⟩ := hok
    have hrun : nmRun D (t :: r) norm lls = (nmStep D t r norm lls).bind fun p => nmRun D r p.1 p.2 := rfl
    -- one step that goes on
    have go : ∀ (d' st' : Nat) (y : Str) (lls' : Bool), (st' = 3 → kw (r.head?.getD Str.empty) = false) → st' < 4 → lls' = (st' == 1) → (st' = 3 ↔ y = Str.ofString "WITH") → nmStep D t r norm lls = some (norm ++ [y], lls') → toldS D t = y →
        run ((t :: r).map py1) d (st == 1 || st == 2) = run (r.map py1) d' (st' == 1 || st' == 2) → fin ((t :: r).map (clS D)) d st = fin (r.map (clS D)) d' st' →
        (fin ((t :: r).map (clS D)) d st = true → run ((t :: r).map py1) d (st == 1 || st == 2) = true ∧ nmRun D (t :: r) norm lls = some (norm ++ (t :: r).map (toldS D))) ∧
        (fin ((t :: r).map (clS D)) d st = false → run ((t :: r).map py1) d (st == 1 || st == 2) = false ∨ nmRun D (t :: r) norm lls = none) := by
      intro d' st' y lls' h9 h1 h2 h3 h4 h5 h6 h7
      obtain ⟨i1, i2⟩ := ih d' st' (norm ++ [y]) lls' h1 (stOk_snoc h2 h3) h9
      rw [h6, h7, hrun, h4]
      show (_ → _ ∧ nmRun D r (norm ++ [y]) lls' = _) ∧ (_ → _ ∨ nmRun D r (norm ++ [y]) lls' = none)
      refine ⟨fun h => ?_, i2⟩
      obtain ⟨a, b⟩ := i1 h
      exact ⟨a, by rw [b, List.map_cons, h5]; simp⟩
    -- one step at which all end
    have stop : fin ((t :: r).map (clS D)) d st = false → (run ((t :: r).map py1) d (st == 1 || st == 2) = false ∨ nmStep D t r norm lls = none) →
        (fin ((t :: r).map (clS D)) d st = true → run ((t :: r).map py1) d (st == 1 || st == 2) = true ∧ nmRun D (t :: r) norm lls = some (norm ++ (t :: r).map (toldS D))) ∧
        (fin ((t :: r).map (clS D)) d st = false → run ((t :: r).map py1) d (st == 1 || st == 2) = false ∨ nmRun D (t :: r) norm lls = none) := by
      intro h1 h2
      refine ⟨fun h => (by rw [h1] at h; cases h), fun _ => ?_⟩
      rcases h2 with h2 | h2
      · exact .inl h2
      · exact .inr (by rw [hrun, h2]; rfl)
    have hst4 : st = 0 ∨ st = 1 ∨ st = 2 ∨ st = 3 := by omega
    rw [List.map_cons, List.map_cons] at go stop ⊢
    cases hk : kw t with
    | true =>
      have htold : toldS D t = Txt.upper t := by simp [toldS, hk]
      rcases kw_cases hk with e | e | e | e | e
      · have hc : clS D t = .o := by unfold clS; rw [if_pos hk, if_neg (by rw [e]; decide), if_neg (by rw [e]; decide), if_neg (by rw [e]; decide)]
        have hp : py1 t = 1 := by rw [e]; decide
        have hs := nmStep_kw (D := D) (r := r) (norm := norm) (lls := lls) hk (fun h => by rw [e] at h; exact absurd h (by decide))
        rw [hc, hp] at go stop ⊢
        rcases hst4 with rfl | rfl | rfl | rfl
        · exact stop (by simp [fin]) (.inl (by simp [run]))
        · exact go d 0 _ false (fun h => by cases h) (by decide) (by decide) (by rw [e]; decide +kernel) hs htold (by simp [run]) (by simp [fin])
        · exact go d 0 _ false (fun h => by cases h) (by decide) (by decide) (by rw [e]; decide +kernel) hs htold (by simp [run]) (by simp [fin])
        · exact stop (by simp [fin]) (.inl (by simp [run]))
      · have hc : clS D t = .o := by unfold clS; rw [if_pos hk, if_neg (by rw [e]; decide), if_neg (by rw [e]; decide), if_neg (by rw [e]; decide)]
        have hp : py1 t = 2 := by rw [e]; decide
        have hs := nmStep_kw (D := D) (r := r) (norm := norm) (lls := lls) hk (fun h => by rw [e] at h; exact absurd h (by decide))
        rw [hc, hp] at go stop ⊢
        rcases hst4 with rfl | rfl | rfl | rfl
        · exact stop (by simp [fin]) (.inl (by simp [run]))
        · exact go d 0 _ false (fun h => by cases h) (by decide) (by decide) (by rw [e]; decide +kernel) hs htold (by simp [run]) (by simp [fin])
        · exact go d 0 _ false (fun h => by cases h) (by decide) (by decide) (by rw [e]; decide +kernel) hs htold (by simp [run]) (by simp [fin])
        · exact stop (by simp [fin]) (.inl (by simp [run]))
      · have hc : clS D t = .w := by unfold clS; rw [if_pos hk, if_pos e]
        have hp : py1 t = 1 := by rw [e]; decide
        rw [hc, hp] at go stop ⊢
        rcases hst4 with rfl | rfl | rfl | rfl
        · exact stop (by simp [fin]) (.inl (by simp [run]))
        · cases r with
          | nil => exact stop (by simp [fin]) (.inr (nmStep_with hk e (.inr (.inl rfl))))
          | cons u r =>
            cases hu : kw u with
            | true =>
              refine stop ?_ (.inr (nmStep_with hk e (.inr (.inr hu))))
              have : clS D u = .w ∨ clS D u = .p ∨ clS D u = .q ∨ clS D u = .o := by
                unfold clS; rw [if_pos hu]
                split; simp; split; simp; split; simp; simp
              rcases this with h | h | h | h <;> simp [fin, h]
            | false =>
              exact go d 3 _ false (fun _ => hu) (by decide) (by decide) (by rw [e]; decide +kernel) (nmStep_kw hk fun _ => ⟨by rw [hl1]; rfl, by simp, hu⟩) htold (by simp [run]) (by simp [fin])
        · exact stop (by simp [fin]) (.inr (nmStep_with hk e (.inl (by rw [hl1]; rfl))))
        · exact stop (by simp [fin]) (.inl (by simp [run]))
      · have hc : clS D t = .p := by unfold clS; rw [if_pos hk, if_neg (by rw [e]; decide), if_pos e]
        have hp : py1 t = 3 := by rw [e]; decide
        have hs := nmStep_kw (D := D) (r := r) (norm := norm) (lls := lls) hk (fun h => by rw [e] at h; exact absurd h (by decide))
        rw [hc, hp] at go stop ⊢
        rcases hst4 with rfl | rfl | rfl | rfl
        · exact go (d + 1) 0 _ false (fun h => by cases h) (by decide) (by decide) (by rw [e]; decide +kernel) hs htold (by simp [run]) (by simp [fin])
        · exact stop (by simp [fin]) (.inl (by simp [run]))
        · exact stop (by simp [fin]) (.inl (by simp [run]))
        · have := h3k rfl
          rw [show (t :: r).head?.getD Str.empty = t from rfl, hk] at this; cases this
      · have hc : clS D t = .q := by unfold clS; rw [if_pos hk, if_neg (by rw [e]; decide), if_neg (by rw [e]; decide), if_pos e]
        have hp : py1 t = 4 := by rw [e]; decide
        have hs := nmStep_kw (D := D) (r := r) (norm := norm) (lls := lls) hk (fun h => by rw [e] at h; exact absurd h (by decide))
        rw [hc, hp] at go stop ⊢
        rcases hst4 with rfl | rfl | rfl | rfl
        · exact stop (by simp [fin]) (.inl (by simp [run]))
        · by_cases hd : 1 ≤ d
          · exact go (d - 1) 2 _ false (fun h => by cases h) (by decide) (by decide) (by rw [e]; decide +kernel) hs htold (by simp [run, hd]) (by simp [fin, hd])
          · exact stop (by simp [fin, hd]) (.inl (by simp [run, hd]))
        · by_cases hd : 1 ≤ d
          · exact go (d - 1) 2 _ false (fun h => by cases h) (by decide) (by decide) (by rw [e]; decide +kernel) hs htold (by simp [run, hd]) (by simp [fin, hd])
          · exact stop (by simp [fin, hd]) (.inl (by simp [run, hd]))
        · exact stop (by simp [fin]) (.inl (by simp [run]))
    | false =>
      have hp : py1 t = 0 := by simp [py1, hk]
      rw [hp] at go stop ⊢
      simp only [clear, hk, Bool.false_or, Bool.and_eq_true, Bool.not_eq_true', bne_iff_ne] at hct
      obtain ⟨hc1, hc2⟩ := hct
      cases hx : tabP excT t with
      | some y =>
        have hc : clS D t = .x := by unfold clS; rw [if_neg (by rw [hk]; decide), hx]; rfl
        have hlic : licStep D t = none := by
          rw [hx] at hc1
          cases h : licStep D t with
          | none => rfl
          | some _ => rw [h] at hc1; cases hc1
        have htold : toldS D t = y := by simp [toldS, hk, hx]
        rw [hx] at hc2
        rw [hc] at go stop ⊢
        rcases hst4 with rfl | rfl | rfl | rfl
        · exact stop (by simp [fin]) (.inr (by rw [nmStep_lic hk (by simpa using hl2), hlic]; rfl))
        · exact stop (by simp [fin]) (.inl (by simp [run]))
        · exact stop (by simp [fin]) (.inl (by simp [run]))
        · exact go d 2 y false (fun h => by cases h) (by decide) (by decide) ⟨fun h => (by cases h), fun h => absurd h hc2⟩ (by rw [nmStep_exc hk (by simpa using hl2), hx]; rfl) htold (by simp [run]) (by simp [fin])
      | none =>
        cases hlic : licStep D t with
        | some y =>
          have hc : clS D t = .l := by unfold clS; rw [if_neg (by rw [hk]; decide), hx, hlic]; rfl
          have htold : toldS D t = y := by simp [toldS, hk, hx, hlic]
          rw [hx, hlic] at hc2
          rw [hc] at go stop ⊢
          rcases hst4 with rfl | rfl | rfl | rfl
          · exact go d 1 y true (fun h => by cases h) (by decide) (by decide) ⟨fun h => (by cases h), fun h => absurd h hc2⟩ (by rw [nmStep_lic hk (by simpa using hl2), hlic]; rfl) htold (by simp [run]) (by simp [fin])
          · exact stop (by simp [fin]) (.inl (by simp [run]))
          · exact stop (by simp [fin]) (.inl (by simp [run]))
          · exact stop (by simp [fin]) (.inr (by rw [nmStep_exc hk (by simpa using hl2), hx]; rfl))
        | none =>
          have hc : clS D t = .s := by unfold clS; rw [if_neg (by rw [hk]; decide), hx, hlic]; rfl
          rw [hc] at go stop ⊢
          rcases hst4 with rfl | rfl | rfl | rfl
          · exact stop (by simp [fin]) (.inr (by rw [nmStep_lic hk (by simpa using hl2), hlic]; rfl))
          · exact stop (by simp [fin]) (.inl (by simp [run]))
          · exact stop (by simp [fin]) (.inl (by simp [run]))
          · exact stop (by simp [fin]) (.inr (by rw [nmStep_exc hk (by simpa using hl2), hx]; rfl))
end Mine
end
section
open PySem PySem.W PyProof.Rows PySem.Calls PySem.Spec PySem.Builtin PySem.Builtin.Str PySem.StrLaws
namespace Mine
def refsT (ws : List Str) : List (PyData × PyData) := putAll PyData.str Txt.lower refValP (ws.filter isRefP)
theorem canonT_fin {ws : List Str} (hc : ∀ w ∈ ws, clear (refsT ws) (Txt.lower w) = true) :
    canonT ws = if fin (ws.map fun w => clS (refsT ws) (Txt.lower w)) 0 0 = true then some (finishP (ws.map fun w => toldS (refsT ws) (Txt.lower w))) else none := by
  rw [canonT_eq]
  have h := sim (refsT ws) (ws.map Txt.lower) 0 0 [] false (by decide) (by intro t ht; obtain ⟨w, hw, rfl⟩ := List.mem_map.mp ht; exact hc w hw) ⟨rfl, by simp⟩ (fun h => by cases h)
  simp only [List.map_map, List.nil_append] at h ⊢
  change (fin (ws.map fun w => clS (refsT ws) (Txt.lower w)) 0 0 = true → run _ 0 false = true ∧ _ = some (ws.map fun w => toldS (refsT ws) (Txt.lower w))) ∧ (fin (ws.map fun w => clS (refsT ws) (Txt.lower w)) 0 0 = false → run _ 0 false = false ∨ _ = none) at h
  show (if _ then Option.map _ (nmRun (refsT ws) _ _ _) else _) = _
  cases hf : fin (ws.map fun w => clS (refsT ws) (Txt.lower w)) 0 0 with
  | true =>
    obtain ⟨a, b⟩ := h.1 hf
    rw [if_pos a, if_pos rfl, b]; rfl
  | false =>
    rw [if_neg (by decide : ¬ false = true)]
    rcases h.2 hf with a | b
    · rw [if_neg (by rw [a]; decide)]
    · rw [b]; split <;> rfl
end Mine
end
section
open PySem PySem.W PyProof.Rows PySem.Calls PySem.Spec PySem.Builtin PySem.Builtin.Str PySem.StrLaws
namespace Mine
def rvS (a : Str) : Str := Str.ofString "LicenseRef-" ++ Txt.slice a (some ((11 : Nat) : Int)) none
/-- the own names of a row agree where they are one in small letters -/
def Agree (ws : List Str) : Prop := ∀ a ∈ ws, ∀ b ∈ ws, isRefP a = true → isRefP b = true → Txt.lower a = Txt.lower b → rvS a = rvS b
theorem refs_look {ws : List Str} (hS : Agree ws) {w : Str} (hw : w ∈ ws) (hr : isRefP w = true) : lookT (refsT ws) (Txt.lower w) = some (rvS w) := by
  obtain ⟨b, hb, h1, h2⟩ := lookup_one (kf := Txt.lower) (d := refValP) (a := w) (ws.filter isRefP) (List.mem_filter.mpr ⟨hw, hr⟩)
  have hb' := List.mem_filter.mp hb
  unfold lookT refsT
  rw [h2, hS w hw b hb'.1 hr hb'.2 h1.symm]
  rfl
def licW (w : Str) : Option Str :=
  if Txt.startswith (finP (Txt.lower w)) (Str.ofString "licenseref-") = true then
    if Txt.endswith (Txt.lower w) (Str.ofString "+") = true ∨ okRef (Txt.slice (finP (Txt.lower w)) (some 11) none) = false then none else some (rvS w)
  else (tabP licT (finP (Txt.lower w))).map fun e => e ++ sufP (Txt.lower w)
theorem lic_same {ws : List Str} (hS : Agree ws) {w : Str} (hw : w ∈ ws) : licStep (refsT ws) (Txt.lower w) = licW w := by
  unfold licStep licW
  split
  · rename_i h
    split
    · rfl
    · rename_i h2
      have he : Txt.endswith (Txt.lower w) (Str.ofString "+") ≠ true := fun e => h2 (.inl e)
      have hf : finP (Txt.lower w) = Txt.lower w := by unfold finP; rw [if_neg he]
      rw [hf] at h ⊢
      refine refs_look hS hw ?_
      unfold isRefP
      rw [show Txt.lower (Str.ofString "LicenseRef-") = Str.ofString "licenseref-" from by decide +kernel]
      exact h
  · rfl
def clW (w : Str) : Lt :=
  if kw (Txt.lower w) = true then (if Txt.lower w = Str.ofString "with" then .w else if Txt.lower w = Str.ofString "(" then .p else if Txt.lower w = Str.ofString ")" then .q else .o)
  else if (tabP excT (Txt.lower w)).isSome = true then .x else if (licW w).isSome = true then .l else .s
def toldW (w : Str) : Str :=
  if kw (Txt.lower w) = true then Txt.upper (Txt.lower w) else (tabP excT (Txt.lower w)).getD ((licW w).getD Str.empty)
def clearW (w : Str) : Bool :=
  kw (Txt.lower w) || (!((tabP excT (Txt.lower w)).isSome && (licW w).isSome) && ((tabP excT (Txt.lower w)).getD ((licW w).getD Str.empty) != Str.ofString "WITH"))
/-- what the def tells of a row of clear words -/
theorem canonT_W {ws : List Str} (hS : Agree ws) (hc : ∀ w ∈ ws, clearW w = true) : canonT ws = if fin (ws.map clW) 0 0 = true then some (finishP (ws.map toldW)) else none := by
  have e1 : ws.map (fun w => clS (refsT ws) (Txt.lower w)) = ws.map clW := by
    apply List.map_congr_left
    intro w hw
    unfold clS clW
    rw [lic_same hS hw]
  have e2 : ws.map (fun w => toldS (refsT ws) (Txt.lower w)) = ws.map toldW := by
    apply List.map_congr_left
    intro w hw
    unfold toldS toldW
    rw [lic_same hS hw]
  rw [canonT_fin, e1, e2]
  intro w hw
  unfold clear
  rw [lic_same hS hw]
  exact hc w hw
/-- what the def tells of a text whose tokens are clear words -/
theorem canon_text {x : Str} {ws : List Str} (h : ∀ c ∈ chs x, c < 128) (ht : tk [] (chs x) = ws.map chs) (hS : Agree ws) (hc : ∀ w ∈ ws, clearW w = true) :
    canonP x = if fin (ws.map clW) 0 0 = true then some (finishP (ws.map toldW)) else none := by
  rw [canonP_eq h ht, canonT_W hS hc]
end Mine
end
section
open PySem PySem.W PyProof.Rows PySem.Calls PySem.Spec
namespace Mine
/-- the words of the second law -/
def V2 : List Str := [Str.ofString "mit", Str.ofString "MIT", Str.ofString "gPl-2.0+", Str.ofString "apache-2.0", Str.ofString "LicenseRef-My.1", Str.ofString "licenseref-b", Str.ofString "classpath-Exception-2.0", Str.ofString "unknown-1", Str.ofString "and", Str.ofString "OR", Str.ofString "with", Str.ofString "(", Str.ofString ")"]
def names2 : List Str := [Str.ofString "mit", Str.ofString "gpl-2.0+", Str.ofString "apache-2.0", Str.ofString "licenseref-my.1", Str.ofString "licenseref-b"]
def isName (w : Str) : Bool := names2.contains (Txt.lower w)
/-- one item of the plain reader: row is what reads a row at a place -/
def itemG (ws : List Str) (row : Nat → Option Nat) (p : Nat) : Option Nat :=
  match ws[p]? with
  | none => none
  | some w =>
    if isName w = true then
      (if ws[p + 1]? = some (Str.ofString "with") then (if (ws[p + 2]?).map Txt.lower = some (Str.ofString "classpath-exception-2.0") then some (p + 3) else none) else some (p + 1))
    else if Txt.lower w = Str.ofString "(" then
      (match row (p + 1) with
      | none => none
      | some q => if ws[q]? = some (Str.ofString ")") then some (q + 1) else none)
    else none
def joins (ws : List Str) (q : Nat) : Bool := match ws[q]? with | none => false | some w => Txt.lower w == Str.ofString "and" || Txt.lower w == Str.ofString "or"
/-- the loop of a row -/
def rowL (ws : List Str) (item : Nat → Option Nat) : Nat → Option Nat → Option Nat
  | 0, r => r
  | _ + 1, none => none
  | g + 1, some q => if joins ws q = true then rowL ws item g (item (q + 1)) else some q
def itemN (ws : List Str) : Nat → Nat → Option Nat
  | 0, _ => none
  | f + 1, p => itemG ws (fun q => rowL ws (itemN ws f) (ws.length + 1) (itemN ws f q)) p
def rowN (ws : List Str) (f p : Nat) : Option Nat := rowL ws (itemN ws f) (ws.length + 1) (itemN ws f p)
def optV (r : Option Nat) (t : Tok) : Value := match r with | none => .none | some q => .int (q : Int) t
def namesD : List (PyData × PyData) := [(.str (Str.ofString "mit"), .str (Str.ofString "MIT")), (.str (Str.ofString "gpl-2.0+"), .str (Str.ofString "GPL-2.0+")), (.str (Str.ofString "apache-2.0"), .str (Str.ofString "Apache-2.0")), (.str (Str.ofString "licenseref-my.1"), .str (Str.ofString "LicenseRef-My.1")), (.str (Str.ofString "licenseref-b"), .str (Str.ofString "LicenseRef-b"))]
theorem isName_of {y : Str} {b : Bool} (h : (Spec.lookup (PyData.str (Txt.lower y)) namesD).isSome = b) : isName y = b := by
  rw [← h]
  unfold isName names2 namesD
  generalize Txt.lower y = k
  simp only [Spec.lookup, List.contains_cons, List.contains_nil, Spec.same]
  by_cases h1 : k = Str.ofString "mit"
  · subst h1; decide
  by_cases h2 : k = Str.ofString "gpl-2.0+"
  · subst h2; decide
  by_cases h3 : k = Str.ofString "apache-2.0"
  · subst h3; decide
  by_cases h4 : k = Str.ofString "licenseref-my.1"
  · subst h4; decide
  by_cases h5 : k = Str.ofString "licenseref-b"
  · subst h5; decide
  simp [h1, h2, h3, h4, h5, Ne.symm h1, Ne.symm h2, Ne.symm h3, Ne.symm h4, Ne.symm h5, List.find?]
section
variable {ws : List Str} {f p q : Nat} {y : Str}
theorem drop_oneP {α : Type} (l : List α) (p : Nat) : (l.drop p).take 1 = match l[p]? with | none => [] | some y => [y] := by
  have e : l[p]? = (l.drop p)[0]? := by rw [List.getElem?_drop, Nat.add_zero]
  rw [e]
  cases l.drop p <;> rfl
theorem one_is {z : Str} (h : (ws.drop p).take (p + 1 - p) = [z]) : ws[p]? = some z := by
  rw [show p + 1 - p = 1 from by omega, drop_oneP] at h
  cases hp : ws[p]? with
  | none => rw [hp] at h; cases h
  | some y => rw [hp] at h; simpa using h
theorem one_not {z : Str} (h : ¬ (ws.drop p).take (p + 1 - p) = [z]) : ws[p]? ≠ some z := by
  intro e
  rw [show p + 1 - p = 1 from by omega, drop_oneP, e] at h
  exact h rfl
theorem it_out (h : ws.length ≤ p) : itemN ws f p = none := by
  cases f with
  | zero => rfl
  | succ f =>
    unfold itemN itemG
    rw [List.getElem?_eq_none h]
theorem it_name0 (hy : ws[p]? = some y) (hn : isName y = true) (hw : ws[p + 1]? = some (Str.ofString "with")) (h2 : ws[p + 2]? = none) : itemN ws (f + 1) p = none := by
  unfold itemN itemG
  rw [hy]; simp only [hn, hw, h2, if_true]; rfl
theorem it_name1 {z : Str} (hy : ws[p]? = some y) (hn : isName y = true) (hw : ws[p + 1]? = some (Str.ofString "with")) (h2 : ws[p + 2]? = some z) (h3' : [Txt.lower z] = [Str.ofString "classpath-exception-2.0"]) : itemN ws (f + 1) p = some (p + 3) := by
  have h3 : Txt.lower z = Str.ofString "classpath-exception-2.0" := by simpa using h3'
  unfold itemN itemG
  rw [hy]; simp only [hn, hw, h2, if_true, Option.map_some, h3]
theorem it_name2 {z : Str} (hy : ws[p]? = some y) (hn : isName y = true) (hw : ws[p + 1]? = some (Str.ofString "with")) (h2 : ws[p + 2]? = some z) (h3' : ¬ [Txt.lower z] = [Str.ofString "classpath-exception-2.0"]) : itemN ws (f + 1) p = none := by
  have h3 : Txt.lower z ≠ Str.ofString "classpath-exception-2.0" := fun e => h3' (by rw [e])
  unfold itemN itemG
  rw [hy]; simp only [hn, hw, h2, if_true, Option.map_some, Option.some.injEq, h3, if_false]
theorem it_name3 (hy : ws[p]? = some y) (hn : isName y = true) (hw : ws[p + 1]? ≠ some (Str.ofString "with")) : itemN ws (f + 1) p = some (p + 1) := by
  unfold itemN itemG
  rw [hy]; simp only [hn, hw, if_true, if_false]
theorem it_row0 (hy : ws[p]? = some y) (hn : isName y = false) (hl : Txt.lower y = Str.ofString "(") (hr : rowN ws f (p + 1) = none) : itemN ws (f + 1) p = none := by
  unfold itemN itemG
  unfold rowN at hr
  rw [hy]; simp only [hn, hl, if_true, hr]; rfl
theorem it_row1 (hy : ws[p]? = some y) (hn : isName y = false) (hl : Txt.lower y = Str.ofString "(") (hr : rowN ws f (p + 1) = some q) (hq : ws[q]? = some (Str.ofString ")")) : itemN ws (f + 1) p = some (q + 1) := by
  unfold itemN itemG
  unfold rowN at hr
  rw [hy]; simp only [hn, hl, if_true, hr, hq]; rfl
theorem it_row2 (hy : ws[p]? = some y) (hn : isName y = false) (hl : Txt.lower y = Str.ofString "(") (hr : rowN ws f (p + 1) = some q) (hq : ws[q]? ≠ some (Str.ofString ")")) : itemN ws (f + 1) p = none := by
  unfold itemN itemG
  unfold rowN at hr
  rw [hy]; simp only [hn, hl, if_true, hr, hq, if_false]; rfl
theorem it_else (hy : ws[p]? = some y) (hn : isName y = false) (hl : (Txt.lower y == Str.ofString "(") = false) : itemN ws (f + 1) p = none := by
  unfold itemN itemG
  rw [hy]; simp only [hn, ne_of_beqF hl, if_false]; rfl
end
/-- the loop of a row, as a relation -/
inductive RowR (ws : List Str) (item : Nat → Option Nat) : Option Nat → Option Nat → Prop
  | out : RowR ws item none none
  | stop {q : Nat} : joins ws q = false → RowR ws item (some q) (some q)
  | step {q : Nat} {R : Option Nat} : joins ws q = true → RowR ws item (item (q + 1)) R → RowR ws item (some q) R
theorem joins_lt {ws : List Str} {q : Nat} (h : joins ws q = true) : q < ws.length := by
  unfold joins at h
  cases e : ws[q]? with
  | none => rw [e] at h; cases h
  | some y => exact (List.getElem?_eq_some_iff.mp e).1
theorem rowL_rel {ws : List Str} {item : Nat → Option Nat} (hi : ∀ p q, item p = some q → p < q) : ∀ (g : Nat) (r : Option Nat), (∀ q, r = some q → ws.length ≤ g + q) → RowR ws item r (rowL ws item g r)
  | 0, none, _ => .out
  | 0, some q, h => .stop (by
    have := h q rfl
    cases hj : joins ws q with
    | false => rfl
    | true => have := joins_lt hj; omega)
  | g + 1, none, _ => .out
  | g + 1, some q, h => by
    unfold rowL
    cases hj : joins ws q with
    | false => rw [if_neg (by decide)]; exact .stop hj
    | true =>
      rw [if_pos rfl]
      refine .step hj (rowL_rel hi g _ fun q' e => ?_)
      have := hi _ _ e
      have := h q rfl
      omega
theorem rowL_gt {ws : List Str} {item : Nat → Option Nat} (hi : ∀ p q, item p = some q → p < q) : ∀ (g : Nat) (r : Option Nat) (a q : Nat), (∀ q, r = some q → a < q) → rowL ws item g r = some q → a < q
  | 0, r, a, q, h, e => h q e
  | g + 1, none, a, q, h, e => by cases e
  | g + 1, some q', a, q, h, e => by
    unfold rowL at e
    have h1 := h q' rfl
    split at e
    · exact rowL_gt hi g _ a q (fun q2 e2 => by have := hi _ _ e2; omega) e
    · cases e; exact h1
theorem itemN_gt (ws : List Str) : ∀ (f p q : Nat), itemN ws f p = some q → p < q
  | 0, _, _, h => by cases h
  | f + 1, p, q, h => by
    have ih := itemN_gt ws f
    unfold itemN itemG at h
    split at h
    · cases h
    · split at h
      · split at h
        · split at h
          · cases h; omega
          · cases h
        · cases h; omega
      · split at h
        · split at h
          · cases h
          · rename_i q' hq'
            have := rowL_gt ih _ _ (p + 1) q' (fun q2 e2 => ih _ _ e2) hq'
            split at h
            · cases h; omega
            · cases h
        · cases h
theorem rowN_rel (ws : List Str) (f p : Nat) : RowR ws (itemN ws f) (itemN ws f p) (rowN ws f p) :=
  rowL_rel (itemN_gt ws f) _ _ fun q h => by have := itemN_gt ws f p q h; omega
theorem RowR.none_eq {ws : List Str} {item : Nat → Option Nat} {R : Option Nat} (h : RowR ws item none R) : R = none := by cases h; rfl
theorem RowR.stop_eq {ws : List Str} {item : Nat → Option Nat} {q : Nat} {R : Option Nat} (h : RowR ws item (some q) R) (hj : joins ws q = false) : R = some q := by
  cases h with
  | stop _ => rfl
  | step h' _ => rw [hj] at h'; cases h'
theorem RowR.step_of {ws : List Str} {item : Nat → Option Nat} {q : Nat} {R : Option Nat} (h : RowR ws item (some q) R) (hj : joins ws q = true) : RowR ws item (item (q + 1)) R := by
  cases h with
  | stop h' => rw [hj] at h'; cases h'
  | step _ h' => exact h'
theorem joins_eq {ws : List Str} {q : Nat} {y : Str} (hy : ws[q]? = some y) : joins ws q = ([Str.ofString "and", Str.ofString "or"].any fun x => x == Txt.lower y) := by
  unfold joins; rw [hy]
  simp only [List.any_cons, List.any_nil, Bool.or_false]
  rw [Bool.eq_iff_iff]; simp only [Bool.or_eq_true, beq_iff_eq]
  constructor
  · rintro (h | h) <;> simp [h]
  · rintro (h | h) <;> simp [← h]
theorem joins_no {ws : List Str} {q : Nat} {y : Str} (hy : ws[q]? = some y) (h : ([Str.ofString "and", Str.ofString "or"].any fun x => x == Txt.lower y) = false) : joins ws q = false := (joins_eq hy).trans h
theorem joins_yes {ws : List Str} {q : Nat} {y : Str} (hy : ws[q]? = some y) (h : ([Str.ofString "and", Str.ofString "or"].any fun x => x == Txt.lower y) = true) : joins ws q = true := (joins_eq hy).trans h
theorem joins_out {ws : List Str} {q : Nat} (h : ws.length ≤ q) : joins ws q = false := by
  unfold joins; rw [List.getElem?_eq_none h]
end Mine
end
section
open PySem PySem.W PyProof.Rows PySem.Calls PySem.Spec PySem.Builtin PySem.Builtin.Str PySem.StrLaws
namespace Mine
/-! the plain reader against the machine -/
section
variable {ws : List Str}
theorem cl_name : ∀ w ∈ V2, (isName w = true ↔ clW w = .l) := by decide +kernel
theorem cl_with : ∀ w ∈ V2, (w = Str.ofString "with" ↔ clW w = .w) := by decide +kernel
theorem cl_exc : ∀ w ∈ V2, (Txt.lower w = Str.ofString "classpath-exception-2.0" ↔ clW w = .x) := by decide +kernel
theorem cl_p : ∀ w ∈ V2, (Txt.lower w = Str.ofString "(" ↔ clW w = .p) := by decide +kernel
theorem cl_q : ∀ w ∈ V2, (w = Str.ofString ")" ↔ clW w = .q) := by decide +kernel
theorem cl_o : ∀ w ∈ V2, ((Txt.lower w == Str.ofString "and" || Txt.lower w == Str.ofString "or") = true ↔ clW w = .o) := by decide +kernel
abbrev LL (ws : List Str) (p : Nat) : List Lt := (ws.map clW).drop p
theorem LL_some {p : Nat} {y : Str} (h : ws[p]? = some y) : LL ws p = clW y :: LL ws (p + 1) := by
  have hl := (List.getElem?_eq_some_iff.mp h).1
  unfold LL
  rw [List.drop_eq_getElem_cons (by simpa using hl)]
  congr 1
  rw [List.getElem_map]
  rw [(List.getElem?_eq_some_iff.mp h).2]
theorem LL_none {p : Nat} (h : ws[p]? = none) : LL ws p = [] := by
  unfold LL
  rw [List.drop_eq_nil_iff, List.length_map]
  exact List.getElem?_eq_none_iff.mp h
theorem fin12 {L : List Lt} {d : Nat} (h : L.head? ≠ some .w) : fin L d 1 = fin L d 2 := by
  cases L with
  | nil => rfl
  | cons a r => cases a <;> first | rfl | exact absurd rfl h
def GoodR (ws : List Str) (p : Nat) (r : Option Nat) : Prop :=
  match r with
  | none => ∀ d, fin (LL ws p) d 0 = false
  | some q => q ≤ ws.length ∧ ∀ d, fin (LL ws p) d 0 = fin (LL ws q) d 2
theorem rowR_good (hV : ∀ w ∈ ws, w ∈ V2) {item : Nat → Option Nat} {p : Nat} (hi : ∀ q, p < q → GoodR ws q (item q)) {r R : Option Nat} (h : RowR ws item r R) : (∀ q, r = some q → p < q) → (∀ p q, item p = some q → p < q) → GoodR ws p r →
    GoodR ws p R ∧ ∀ q, R = some q → (LL ws q).head? ≠ some .o := by
  induction h with
  | out => exact fun _ _ g => ⟨g, fun q e => nomatch e⟩
  | stop hj =>
    rename_i q
    intro _ _ g
    refine ⟨g, fun q' e => ?_⟩
    cases e
    unfold joins at hj
    cases hy : ws[q]? with
    | none => rw [LL_none hy]; simp
    | some y =>
      rw [hy] at hj
      have hyV := hV y (List.mem_of_getElem? hy)
      rw [LL_some hy]
      intro e
      have e' : clW y = .o := by simpa using e
      have := (cl_o y hyV).mpr e'
      have hj' : (Txt.lower y == Str.ofString "and" || Txt.lower y == Str.ofString "or") = false := hj
      rw [hj'] at this; cases this
  | step hj hr ih =>
    rename_i q R
    intro h1 h2 g
    have hq := h1 q rfl
    refine ih (fun q' e => ?_) h2 ?_
    · have := h2 _ _ e; omega
    · have gi := hi (q + 1) (by omega)
      unfold joins at hj
      cases hy : ws[q]? with
      | none => rw [hy] at hj; cases hj
      | some y =>
        rw [hy] at hj
        have hyV := hV y (List.mem_of_getElem? hy)
        have hc := (cl_o y hyV).mp hj
        obtain ⟨g1, g2⟩ := g
        have e : ∀ d, fin (LL ws p) d 0 = fin (LL ws (q + 1)) d 0 := fun d => by rw [g2 d, LL_some hy, hc]; simp [fin]
        cases hit : item (q + 1) with
        | none => rw [hit] at gi; exact fun d => (e d).trans (gi d)
        | some q' => rw [hit] at gi; exact ⟨gi.1, fun d => (e d).trans (gi.2 d)⟩
theorem item_good (hV : ∀ w ∈ ws, w ∈ V2) : ∀ (f p : Nat), ws.length - p ≤ f → GoodR ws p (itemN ws f p)
  | 0, p, h => by
    have : ws[p]? = none := by rw [List.getElem?_eq_none_iff]; omega
    show ∀ d, fin (LL ws p) d 0 = false
    intro d; rw [LL_none this]; rfl
  | f + 1, p, h => by
    have ih := item_good hV f
    unfold itemN itemG
    cases hy : ws[p]? with
    | none => intro d; rw [LL_none hy]; rfl
    | some y =>
      have hyV := hV y (List.mem_of_getElem? hy)
      have hpl := (List.getElem?_eq_some_iff.mp hy).1
      dsimp only
      by_cases hn : isName y = true
      · rw [if_pos hn]
        have hc := (cl_name y hyV).mp hn
        by_cases hw : ws[p + 1]? = some (Str.ofString "with")
        · rw [if_pos hw]
          have hwc : clW (Str.ofString "with") = .w := by decide +kernel
          cases h2 : ws[p + 2]? with
          | none =>
            rw [if_neg (by simp)]
            intro d
            rw [LL_some hy, LL_some hw, LL_none h2, hc, hwc]; simp [fin]
          | some z =>
            have hzV := hV z (List.mem_of_getElem? h2)
            by_cases hz : Txt.lower z = Str.ofString "classpath-exception-2.0"
            · rw [if_pos (by simp [hz])]
              refine ⟨by have := (List.getElem?_eq_some_iff.mp h2).1; omega, fun d => ?_⟩
              rw [LL_some hy, LL_some hw, LL_some h2, hc, hwc, (cl_exc z hzV).mp hz]; simp [fin]
            · rw [if_neg (by simpa using hz)]
              intro d
              rw [LL_some hy, LL_some hw, LL_some h2, hc, hwc]
              have : clW z ≠ .x := fun e => hz ((cl_exc z hzV).mpr e)
              cases hcz : clW z <;> first | exact absurd hcz this | simp [fin]
        · rw [if_neg hw]
          refine ⟨hpl, fun d => ?_⟩
          rw [LL_some hy, hc]
          have : (LL ws (p + 1)).head? ≠ some .w := by
            cases h1 : ws[p + 1]? with
            | none => rw [LL_none h1]; simp
            | some z =>
              have hzV := hV z (List.mem_of_getElem? h1)
              rw [LL_some h1]
              intro e
              exact hw (by rw [h1, (cl_with z hzV).mpr (by simpa using e)])
          simp only [fin, beq_self_eq_true, Bool.true_and]
          exact fin12 this
      · rw [if_neg hn]
        by_cases hl : Txt.lower y = Str.ofString "("
        · rw [if_pos hl]
          have hc := (cl_p y hyV).mp hl
          have hrel := rowN_rel ws f (p + 1)
          have hstart := ih (p + 1) (by omega)
          have hgo : GoodR ws (p + 1) (rowN ws f (p + 1)) ∧ ∀ q, rowN ws f (p + 1) = some q → (LL ws q).head? ≠ some .o :=
            rowR_good hV (p := p + 1) (fun q hq => ih q (by omega)) hrel (fun q e => itemN_gt ws f _ _ e) (itemN_gt ws f) hstart
          show GoodR ws p (match rowN ws f (p + 1) with | none => none | some q => if ws[q]? = some (Str.ofString ")") then some (q + 1) else none)
          have he : ∀ d, fin (LL ws p) d 0 = fin (LL ws (p + 1)) (d + 1) 0 := fun d => by rw [LL_some hy, hc]; simp [fin]
          cases hr : rowN ws f (p + 1) with
          | none => rw [hr] at hgo; intro d; rw [he]; exact hgo.1 _
          | some q =>
            rw [hr] at hgo
            obtain ⟨⟨g1, g2⟩, g3⟩ := hgo
            have g3 := g3 q rfl
            dsimp only
            by_cases hq : ws[q]? = some (Str.ofString ")")
            · rw [if_pos hq]
              refine ⟨(List.getElem?_eq_some_iff.mp hq).1, fun d => ?_⟩
              rw [he, g2, LL_some hq, show clW (Str.ofString ")") = .q from by decide +kernel]
              simp [fin]
            · rw [if_neg hq]
              intro d
              rw [he, g2]
              cases hz : ws[q]? with
              | none => rw [LL_none hz]; simp [fin]
              | some z =>
                have hzV := hV z (List.mem_of_getElem? hz)
                rw [LL_some hz] at g3 ⊢
                have h4 : clW z ≠ .q := fun e => hq (by rw [hz, (cl_q z hzV).mpr e])
                have h5 : clW z ≠ .o := fun e => g3 (by simp [e])
                cases hcz : clW z <;> first | exact absurd hcz h4 | exact absurd hcz h5 | simp [fin]
        · rw [if_neg hl]
          intro d
          rw [LL_some hy]
          have h4 : clW y ≠ .l := fun e => hn ((cl_name y hyV).mpr e)
          have h5 : clW y ≠ .p := fun e => hl ((cl_p y hyV).mpr e)
          cases hcz : clW y <;> first | exact absurd hcz h4 | exact absurd hcz h5 | simp [fin]
theorem row_fin (hV : ∀ w ∈ ws, w ∈ V2) (hl : ws.length ≤ 9) : rowN ws 9 0 = some ws.length ↔ fin (ws.map clW) 0 0 = true := by
  have hgo : GoodR ws 0 (rowN ws 9 0) ∧ ∀ q, rowN ws 9 0 = some q → (LL ws q).head? ≠ some .o :=
    rowR_good hV (p := 0) (fun q hq => item_good hV 9 q (by omega)) (rowN_rel ws 9 0) (fun q e => itemN_gt ws 9 _ _ e) (itemN_gt ws 9) (item_good hV 9 0 (by omega))
  have h0 : LL ws 0 = ws.map clW := by simp [LL]
  cases hr : rowN ws 9 0 with
  | none =>
    rw [hr] at hgo
    have := hgo.1 0
    rw [h0] at this
    rw [this]; simp
  | some q =>
    rw [hr] at hgo
    obtain ⟨⟨g1, g2⟩, g3⟩ := hgo
    have g3 := g3 q rfl
    rw [← h0, g2 0]
    constructor
    · intro e
      cases e
      rw [LL_none (by rw [List.getElem?_eq_none_iff]; omega)]; rfl
    · intro e
      cases hz : ws[q]? with
      | none => rw [List.getElem?_eq_none_iff] at hz; congr 1; omega
      | some z =>
        rw [LL_some hz] at g3 e
        have h5 : clW z ≠ .o := fun e => g3 (by simp [e])
        cases hcz : clW z <;> rw [hcz] at e <;> first | exact absurd hcz h5 | simp [fin] at e
end
end Mine
end
section
open PySem PySem.W PyProof.Rows PySem.Calls PySem.Spec PySem.Builtin PySem.Builtin.Str PySem.StrLaws
namespace Mine
/-! the second law's texts -/
def K2 : List Str := V2.filter fun w => clW w != .s
def T2 : List Str := K2.map toldW
def W2 : List Str := V2.map Txt.lower
/-- what the law tells of a word -/
def dueW (w : Str) : Str := match (Spec.lookup (PyData.str (Txt.lower w)) namesD) with
  | some (.str y) => y
  | _ => if Txt.lower w = Str.ofString "classpath-exception-2.0" then Str.ofString "Classpath-exception-2.0" else Txt.upper w
def myW (w : Str) : Str := if w = Str.ofString "LicenseRef-My.1" then Str.ofString "LicenseRef-my.1" else w
def acc (ws : List Str) : Bool := fin (ws.map clW) 0 0
abbrev jw (ws : List Str) : Str := Txt.join (Str.ofString " ") ws
theorem fin_noS : ∀ (L : List Lt) (d st : Nat), fin L d st = true → ∀ a ∈ L, a ≠ .s
  | [], _, _, _, a, h => nomatch h
  | b :: r, d, st, h, a, ha => by
    rcases List.mem_cons.mp ha with rfl | ha'
    · intro e; rw [e] at h; cases h
    · clear ha
      cases b <;> simp only [fin, Bool.and_eq_true] at h
      all_goals first | exact fin_noS r _ _ h.2 a ha' | cases h
theorem acc_K2 {ws : List Str} (hV : ∀ w ∈ ws, w ∈ V2) (ha : acc ws = true) : ∀ w ∈ ws, w ∈ K2 := fun w hw => by
  refine List.mem_filter.mpr ⟨hV w hw, ?_⟩
  have := fin_noS _ _ _ ha (clW w) (List.mem_map_of_mem hw)
  simpa using this
theorem agree_of {S ws : List Str} (hS : ∀ a ∈ S, ∀ b ∈ S, isRefP a = true → isRefP b = true → Txt.lower a = Txt.lower b → rvS a = rvS b) (h : ∀ w ∈ ws, w ∈ S) : Agree ws :=
  fun a ha b hb => hS a (h a ha) b (h b hb)
theorem agV : ∀ a ∈ V2, ∀ b ∈ V2, isRefP a = true → isRefP b = true → Txt.lower a = Txt.lower b → rvS a = rvS b := by decide +kernel
theorem agT : ∀ a ∈ T2, ∀ b ∈ T2, isRefP a = true → isRefP b = true → Txt.lower a = Txt.lower b → rvS a = rvS b := by decide +kernel
theorem agW : ∀ a ∈ W2, ∀ b ∈ W2, isRefP a = true → isRefP b = true → Txt.lower a = Txt.lower b → rvS a = rvS b := by decide +kernel
theorem clV : ∀ w ∈ V2, clearW w = true := by decide +kernel
theorem clT : ∀ w ∈ T2, clearW w = true := by decide +kernel
theorem clWW : ∀ w ∈ W2, clearW w = true := by decide +kernel
theorem okV : ∀ w ∈ V2, okW w = true ∧ atom (chs w) = true ∧ w.length ≤ 40 ∧ ∀ c ∈ chs w, c < 128 := by decide +kernel
theorem okT : ∀ w ∈ T2, okW w = true ∧ atom (chs w) = true ∧ w.length ≤ 40 ∧ ∀ c ∈ chs w, c < 128 := by decide +kernel
theorem okW2 : ∀ w ∈ W2, okW w = true ∧ atom (chs w) = true ∧ w.length ≤ 40 ∧ ∀ c ∈ chs w, c < 128 := by decide +kernel
theorem told_cl : ∀ w ∈ K2, clW (toldW w) = clW w ∧ toldW (toldW w) = toldW w := by decide +kernel
theorem low_cl : ∀ w ∈ V2, clW (Txt.lower w) = clW w := by decide +kernel
theorem low_told : ∀ w ∈ K2, toldW (Txt.lower w) = myW (toldW w) := by decide +kernel
theorem due_told : ∀ w ∈ K2, dueW w = toldW w := by decide +kernel
/-! characters and lengths -/
theorem joinc_asc : ∀ ws : List (List Nat), (∀ w ∈ ws, ∀ c ∈ w, c < 128) → ∀ c ∈ joinc ws, c < 128
  | [], _, c, h => nomatch h
  | [w], h, c, hc => h w (.head _) c hc
  | w :: v :: r, h, c, hc => by
    have hc' : c ∈ w ++ 32 :: joinc (v :: r) := hc
    rcases List.mem_append.mp hc' with hc | hc
    · exact h w (.head _) c hc
    · rcases List.mem_cons.mp hc with rfl | hc
      · decide
      · exact joinc_asc (v :: r) (fun w hw => h w (.tail _ hw)) c hc
theorem joinc_len : ∀ ws : List (List Nat), (∀ w ∈ ws, w.length ≤ 40) → (joinc ws).length ≤ 41 * ws.length
  | [], _ => Nat.le_refl _
  | [w], h => by have := h w (.head _); show w.length ≤ 41 * 1; omega
  | w :: v :: r, h => by
    have h1 := h w (.head _)
    have h2 := joinc_len (v :: r) fun w hw => h w (.tail _ hw)
    show (w ++ 32 :: joinc (v :: r)).length ≤ _
    rw [List.length_append, List.length_cons]
    simp only [List.length_cons] at h2 ⊢
    omega
theorem len_chs (x : Str) : (chs x).length = x.length := by simp [chs, Str.length]
theorem jw_facts {ws S : List Str} (hS : ∀ w ∈ S, okW w = true ∧ atom (chs w) = true ∧ w.length ≤ 40 ∧ ∀ c ∈ chs w, c < 128) (h : ∀ w ∈ ws, w ∈ S) :
    (∀ c ∈ chs (jw ws), c < 128) ∧ tk [] (chs (jw ws)) = ws.map chs ∧ (jw ws).length ≤ 41 * ws.length := by
  have hm : ∀ v ∈ ws.map chs, ∃ w ∈ S, v = chs w := fun v hv => by
    obtain ⟨w, hw, rfl⟩ := List.mem_map.mp hv
    exact ⟨w, h w hw, rfl⟩
  refine ⟨?_, ?_, ?_⟩
  · rw [join_chs]
    exact joinc_asc _ fun v hv => by obtain ⟨w, hw, rfl⟩ := hm v hv; exact (hS w hw).2.2.2
  · rw [join_chs]
    exact tk_joinc _ fun v hv => by obtain ⟨w, hw, rfl⟩ := hm v hv; exact (hS w hw).2.1
  · rw [← len_chs, join_chs]
    have := joinc_len (ws.map chs) fun v hv => by obtain ⟨w, hw, rfl⟩ := hm v hv; rw [len_chs]; exact (hS w hw).2.2.1
    simpa using this
/-- all that is asked of a text -/
structure Says (x : Str) (r : Option Str) : Prop where
  tame : Tame x
  told : canonP x = r
theorem says_of {x : Str} {ws S : List Str} (hS : ∀ w ∈ S, okW w = true ∧ atom (chs w) = true ∧ w.length ≤ 40 ∧ ∀ c ∈ chs w, c < 128) (hA : ∀ a ∈ S, ∀ b ∈ S, isRefP a = true → isRefP b = true → Txt.lower a = Txt.lower b → rvS a = rvS b) (hC : ∀ w ∈ S, clearW w = true)
    (h : ∀ w ∈ ws, w ∈ S) (hn : ws.length ≤ 2000) (hl : x.length ≤ 2000) (ha : ∀ c ∈ chs x, c < 128) (ht : tk [] (chs x) = ws.map chs) : Says x (if fin (ws.map clW) 0 0 = true then some (finishP (ws.map toldW)) else none) :=
  ⟨tame_of hl ha ht hn fun w hw => (hS w (h w hw)).1, canon_text ha ht (agree_of hA h) fun w hw => hC w (h w hw)⟩
def toldT (ws : List Str) : Option Str := if acc ws = true then some (finishP (ws.map toldW)) else none
section
variable {ws : List Str} (hV : ∀ w ∈ ws, w ∈ V2) (hl : ws.length ≤ 9)
include hV hl
theorem f1 : Says (jw ws) (toldT ws) := by
  obtain ⟨a, b, c⟩ := jw_facts okV hV
  exact says_of okV agV clV hV (by omega) (by omega) a b
theorem f3 : Says (Txt.replace (Txt.replace (jw ws) (Str.ofString "( ") (Str.ofString "(")) (Str.ofString " )") (Str.ofString ")")) (toldT ws) := by
  obtain ⟨a, b, c⟩ := jw_facts okV hV
  refine says_of okV agV clV hV (by omega) ?_ ?_ ?_
  · have h1 := replace_len_le (jw ws) (Str.ofString "( ") (Str.ofString "(") (by decide)
    have h2 := replace_len_le (Txt.replace (jw ws) (Str.ofString "( ") (Str.ofString "(")) (Str.ofString " )") (Str.ofString ")") (by decide)
    omega
  · rw [replace_chs (by decide), replace_chs (by decide)]
    intro c hc
    rcases repA_mem _ _ hc with hc | hc
    · exact (by decide : ∀ c ∈ chs (Str.ofString ")"), c < 128) c hc
    · rcases repA_mem _ _ hc with hc | hc
      · exact (by decide : ∀ c ∈ chs (Str.ofString "("), c < 128) c hc
      · exact a c hc
  · rw [replace_chs (by decide), replace_chs (by decide)]
    show tk [] (repA [32, 41] [41] 0 (repA [40, 32] [40] 0 _)) = _
    rw [tk_rep_rp _ _ _ (Nat.le_refl _), tk_rep_lp _ _ _ (Nat.le_refl _), b]
theorem f2 : Says (Str.ofString "  " ++ Txt.replace (jw ws) (Str.ofString " ") (Str.ofString "   ") ++ Str.ofString " ") (toldT ws) := by
  obtain ⟨a, b, c⟩ := jw_facts okV hV
  have hr : chs (Str.ofString "  " ++ Txt.replace (jw ws) (Str.ofString " ") (Str.ofString "   ") ++ Str.ofString " ") = 32 :: 32 :: (repA [32] [32, 32, 32] 0 (chs (jw ws)) ++ [32]) := by
    rw [chs_append, chs_append, replace_chs (by decide)]; rfl
  refine says_of okV agV clV hV (by omega) ?_ ?_ ?_
  · have h1 := replace_len (jw ws) (Str.ofString " ") (Str.ofString "   ")
    rw [Str.length_append, Str.length_append]
    rw [show (Str.ofString "   ").length = 3 from by decide] at h1
    have : (Str.ofString "  ").length = 2 := by decide
    have : (Str.ofString " ").length = 1 := by decide
    have : ((jw ws).length + 1) * 3 ≤ 370 * 3 := Nat.mul_le_mul_right _ (by omega)
    omega
  · rw [hr]
    intro c hc
    rcases List.mem_cons.mp hc with rfl | hc
    · decide
    · rcases List.mem_cons.mp hc with rfl | hc
      · decide
      · rcases List.mem_append.mp hc with hc | hc
        · rcases repA_mem _ _ hc with hc | hc
          · exact (by decide : ∀ c ∈ [32, 32, 32], c < 128) c hc
          · exact a c hc
        · rw [List.mem_singleton.mp hc]; decide
  · rw [hr, tk_space sp32, tk_space sp32, tk_app_sp, tk_rep_sp, b]
    simp [flush, tk]
theorem f7 (ha : acc ws = true) : Says (jw ws ++ Str.ofString " and") none := by
  obtain ⟨a, b, c⟩ := jw_facts okV hV
  have hr : chs (jw ws ++ Str.ofString " and") = chs (jw ws) ++ 32 :: chs (Str.ofString "and") := by rw [chs_append]; rfl
  have hfin : ∀ (L : List Lt) (d st : Nat), fin (L ++ [.o]) d st = false := by
    intro L
    induction L with
    | nil => intro d st; simp [fin]
    | cons x r ih => intro d st; cases x <;> simp [fin, ih]
  have := says_of (x := jw ws ++ Str.ofString " and") (ws := ws ++ [Str.ofString "and"]) okV agV clV (fun w hw => by
      rcases List.mem_append.mp hw with hw | hw
      · exact hV w hw
      · rw [List.mem_singleton.mp hw]; decide +kernel) (by simp; omega) (by
      rw [Str.length_append]
      have : (Str.ofString " and").length = 4 := by decide
      omega) (by
      rw [chs_append]
      intro c hc
      rcases List.mem_append.mp hc with hc | hc
      · exact a c hc
      · exact (by decide : ∀ c ∈ chs (Str.ofString " and"), c < 128) c hc) (by
      rw [hr, tk_app_sp, b, List.map_append, tk_atom_end (by decide +kernel)]; rfl)
  rw [List.map_append, show [Str.ofString "and"].map clW = [.o] from by decide +kernel, hfin] at this
  simpa using this
end
theorem toldT_acc {ws : List Str} (ha : acc ws = true) : toldT ws = some (finishP (ws.map toldW)) := by unfold toldT; rw [if_pos ha]
theorem finish_len {norm : List Str} : (finishP norm).length ≤ (jw norm).length := by
  unfold finishP
  have h1 := replace_len_le (jw norm) (Str.ofString "( ") (Str.ofString "(") (by decide)
  have h2 := replace_len_le (Txt.replace (jw norm) (Str.ofString "( ") (Str.ofString "(")) (Str.ofString " )") (Str.ofString ")") (by decide)
  exact Nat.le_trans h2 h1
theorem finish_asc {norm : List Str} (a : ∀ c ∈ chs (jw norm), c < 128) : ∀ c ∈ chs (finishP norm), c < 128 := by
  unfold finishP
  rw [replace_chs (by decide), replace_chs (by decide)]
  intro c hc
  rcases repA_mem _ _ hc with hc | hc
  · exact (by decide : ∀ c ∈ chs (Str.ofString ")"), c < 128) c hc
  · rcases repA_mem _ _ hc with hc | hc
    · exact (by decide : ∀ c ∈ chs (Str.ofString "("), c < 128) c hc
    · exact a c hc
section
variable {ws : List Str} (hK : ∀ w ∈ ws, w ∈ K2) (hl : ws.length ≤ 9)
include hK hl
theorem f4 (ha : acc ws = true) : Says (finishP (ws.map toldW)) (some (finishP (ws.map toldW))) := by
  have hT : ∀ w ∈ ws.map toldW, w ∈ T2 := fun w hw => by
    obtain ⟨v, hv, rfl⟩ := List.mem_map.mp hw
    exact List.mem_map_of_mem (hK v hv)
  obtain ⟨a, b, c⟩ := jw_facts okT hT
  rw [List.length_map] at c
  have key := says_of (x := finishP (ws.map toldW)) okT agT clT hT (by rw [List.length_map]; omega) (Nat.le_trans finish_len (by omega)) (finish_asc a) (tk_finish fun w hw => (okT w (hT w hw)).2.1)
  have e1 : (ws.map toldW).map clW = ws.map clW := by
    rw [List.map_map]; exact List.map_congr_left fun w hw => (told_cl w (hK w hw)).1
  have e2 : (ws.map toldW).map toldW = ws.map toldW := by
    rw [List.map_map]; exact List.map_congr_left fun w hw => (told_cl w (hK w hw)).2
  rw [e1, e2, if_pos (show fin (ws.map clW) 0 0 = true from ha)] at key
  exact key
end
/-! small letters -/
def nopB (p : List Nat) : List Nat → Bool
  | [] => true
  | c :: s => !(p.isPrefixOf (c :: s)) && !((c :: s).isPrefixOf p) && nopB p s
theorem rep_nop {p r : List Nat} : ∀ (w l : List Nat), nopB p w = true → repA p r 0 (w ++ l) = w ++ repA p r 0 l
  | [], _, _ => rfl
  | c :: s, l, h => by
    simp only [nopB, Bool.and_eq_true, Bool.not_eq_true'] at h
    obtain ⟨⟨h1, h2⟩, h3⟩ := h
    rw [List.cons_append, repA_miss, rep_nop s l h3]
    · rfl
    · intro hp
      have h4 : (c :: s) <+: (c :: s) ++ l := List.prefix_append _ _
      rcases List.prefix_or_prefix_of_prefix hp h4 with h5 | h5
      · rw [List.isPrefixOf_iff_prefix.mpr h5] at h1; cases h1
      · rw [List.isPrefixOf_iff_prefix.mpr h5] at h2; cases h2
def pMy : Str := Str.ofString "LicenseRef-My.1"
def rMy : Str := Str.ofString "LicenseRef-my.1"
theorem nopT : ∀ w ∈ T2, w = pMy ∨ nopB (chs pMy) (chs w) = true := by decide +kernel
theorem rep_word {w : Str} (hw : w ∈ T2) (l : List Nat) : repA (chs pMy) (chs rMy) 0 (chs w ++ l) = chs (myW w) ++ repA (chs pMy) (chs rMy) 0 l := by
  rcases nopT w hw with rfl | h
  · rw [repA_hit (by decide)]; rfl
  · rw [rep_nop _ _ h]
    have : w ≠ pMy := by rintro rfl; revert h; decide +kernel
    rw [show myW w = w from if_neg this]
theorem my40 : ∀ w ∈ T2, (chs (myW w) = [40] ↔ chs w = [40]) ∧ (chs (myW w) = [41] ↔ chs w = [41]) := by decide +kernel
theorem no32 (l : List Nat) : ¬ chs pMy <+: 32 :: l := by
  have : chs pMy = 76 :: (chs pMy).tail := by decide +kernel
  rw [this, List.cons_prefix_cons]
  exact fun h => absurd h.1 (by decide)
theorem rep_lay : ∀ ts : List Str, (∀ w ∈ ts, w ∈ T2) → repA (chs pMy) (chs rMy) 0 (lay (ts.map chs)) = lay ((ts.map myW).map chs)
  | [], _ => rfl
  | [w], h => by
    have := rep_word (h w (.head _)) []
    simpa [repA, lay] using this
  | w :: v :: r, h => by
    have ih := rep_lay (v :: r) fun w hw => h w (.tail _ hw)
    have hw := h w (.head _)
    have hv := h v (.tail _ (.head _))
    show repA _ _ 0 (chs w ++ (if chs w = [40] ∨ chs v = [41] then [] else [32]) ++ lay ((v :: r).map chs)) = chs (myW w) ++ (if chs (myW w) = [40] ∨ chs (myW v) = [41] then [] else [32]) ++ lay (((v :: r).map myW).map chs)
    rw [List.append_assoc, rep_word hw]
    by_cases hc : chs w = [40] ∨ chs v = [41]
    · rw [if_pos hc, if_pos (hc.imp (my40 w hw).1.mpr (my40 v hv).2.mpr), List.nil_append, ih]; simp
    · rw [if_neg hc, if_neg (fun h => hc (h.imp (my40 w hw).1.mp (my40 v hv).2.mp))]
      show _ ++ repA _ _ 0 (32 :: lay ((v :: r).map chs)) = _
      rw [repA_miss (no32 _), ih]
      simp
theorem fin_q : ∀ (L : List Lt) (d st : Nat), fin L d st = true → fin (L ++ [.q]) (d + 1) st = true
  | [], d, st, h => by
    simp only [fin, Bool.and_eq_true, beq_iff_eq, Bool.or_eq_true] at h
    obtain ⟨h1, rfl⟩ := h
    simp only [List.nil_append, fin]
    rcases h1 with rfl | rfl <;> rfl
  | a :: r, d, st, h => by
    cases a <;> simp only [fin, Bool.and_eq_true, List.cons_append, decide_eq_true_eq] at h ⊢
    all_goals first
      | exact ⟨h.1, fin_q r _ _ h.2⟩
      | (obtain ⟨⟨h1, h2⟩, h3⟩ := h
         refine ⟨⟨h1, by omega⟩, ?_⟩
         have := fin_q r _ _ h3
         rw [show d - 1 + 1 = d + 1 - 1 from by omega] at this
         exact this)
      | cases h
theorem lay_snoc : ∀ (ts : List (List Nat)), ts ≠ [] → lay (ts ++ [[41]]) = lay ts ++ [41]
  | [], h => absurd rfl h
  | [w], _ => by simp [lay]
  | w :: v :: r, _ => by
    have ih := lay_snoc (v :: r) (by simp)
    show w ++ (if w = [40] ∨ v = [41] then [] else [32]) ++ lay ((v :: r) ++ [[41]]) = _
    rw [ih]; simp [lay]
section
variable {ws : List Str} (hV : ∀ w ∈ ws, w ∈ V2) (hl : ws.length ≤ 9)
include hV hl
theorem f5 (ha : acc ws = true) : Says (Txt.lower (jw ws)) (some (Txt.replace (finishP (ws.map toldW)) (Str.ofString "LicenseRef-My.1") (Str.ofString "LicenseRef-my.1"))) := by
  obtain ⟨a, b, c⟩ := jw_facts okV hV
  have hK := acc_K2 hV ha
  have hW : ∀ w ∈ ws.map Txt.lower, w ∈ W2 := fun w hw => by
    obtain ⟨v, hv, rfl⟩ := List.mem_map.mp hw
    exact List.mem_map_of_mem (hV v hv)
  have key := says_of (x := Txt.lower (jw ws)) okW2 agW clWW hW (by rw [List.length_map]; omega) (by rw [lower_ascii a]; show (Array.map _ _).size ≤ _; rw [Array.size_map]; show (jw ws).length ≤ _; omega)
    (by rw [lower_chs a]; intro c hc; obtain ⟨d, hd, rfl⟩ := List.mem_map.mp hc; exact lo1_lt d (a d hd))
    (by rw [lower_chs a]
        have := tk_lower (chs (jw ws)) [] a
        rw [List.map_nil] at this
        rw [this, b, List.map_map, List.map_map]
        exact List.map_congr_left fun w hw => (lower_chs (okV w (hV w hw)).2.2.2).symm)
  have e1 : (ws.map Txt.lower).map clW = ws.map clW := by
    rw [List.map_map]; exact List.map_congr_left fun w hw => low_cl w (hV w hw)
  have e2 : (ws.map Txt.lower).map toldW = (ws.map toldW).map myW := by
    rw [List.map_map, List.map_map]; exact List.map_congr_left fun w hw => low_told w (hK w hw)
  have hT : ∀ w ∈ ws.map toldW, w ∈ T2 := fun w hw => by
    obtain ⟨v, hv, rfl⟩ := List.mem_map.mp hw
    exact List.mem_map_of_mem (hK v hv)
  have hM : ∀ w ∈ T2, atom (chs (myW w)) = true := by decide +kernel
  have e3 : Txt.replace (finishP (ws.map toldW)) (Str.ofString "LicenseRef-My.1") (Str.ofString "LicenseRef-my.1") = finishP ((ws.map toldW).map myW) := by
    apply str_ext
    rw [replace_chs (by decide), finish_chs fun w hw => (okT w (hT w hw)).2.1, finish_chs fun w hw => by
      obtain ⟨v, hv, rfl⟩ := List.mem_map.mp hw
      exact hM v (hT v hv)]
    exact rep_lay _ hT
  rw [e1, e2, ← e3, if_pos (show fin (ws.map clW) 0 0 = true from ha)] at key
  exact key
theorem f6 (ha : acc ws = true) : Says (Str.ofString "(" ++ jw ws ++ Str.ofString ")") (some (Str.ofString "(" ++ finishP (ws.map toldW) ++ Str.ofString ")")) := by
  obtain ⟨a, b, c⟩ := jw_facts okV hV
  have hK := acc_K2 hV ha
  have hne : ws ≠ [] := by rintro rfl; cases ha
  have hr : chs (Str.ofString "(" ++ jw ws ++ Str.ofString ")") = 40 :: (chs (jw ws) ++ [41]) := by rw [chs_append, chs_append]; rfl
  have hT : ∀ w ∈ ws.map toldW, w ∈ T2 := fun w hw => by
    obtain ⟨v, hv, rfl⟩ := List.mem_map.mp hw
    exact List.mem_map_of_mem (hK v hv)
  have key := says_of (x := Str.ofString "(" ++ jw ws ++ Str.ofString ")") (ws := Str.ofString "(" :: (ws ++ [Str.ofString ")"])) okV agV clV (fun w hw => by
      rcases List.mem_cons.mp hw with rfl | hw
      · decide +kernel
      · rcases List.mem_append.mp hw with hw | hw
        · exact hV w hw
        · rw [List.mem_singleton.mp hw]; decide +kernel) (by simp; omega) (by
      rw [← len_chs, hr]; simp only [List.length_cons, List.length_append, List.length_nil]; rw [len_chs]; omega) (by
      rw [hr]
      intro c hc
      rcases List.mem_cons.mp hc with rfl | hc
      · decide
      · rcases List.mem_append.mp hc with hc | hc
        · exact a c hc
        · rw [List.mem_singleton.mp hc]; decide) (by
      rw [hr, tk_lp, tk_app_rp, b]
      simp [flush, tk]
      exact ⟨by decide, by decide⟩)
  have hf : fin ((Str.ofString "(" :: (ws ++ [Str.ofString ")"])).map clW) 0 0 = true := by
    rw [List.map_cons, List.map_append, show clW (Str.ofString "(") = .p from by decide +kernel, show [Str.ofString ")"].map clW = [.q] from by decide +kernel]
    show (0 == 0 && fin (ws.map clW ++ [.q]) (0 + 1) 0) = true
    rw [fin_q _ _ _ ha]; rfl
  rw [if_pos hf] at key
  have e : finishP ((Str.ofString "(" :: (ws ++ [Str.ofString ")"])).map toldW) = Str.ofString "(" ++ finishP (ws.map toldW) ++ Str.ofString ")" := by
    apply str_ext
    have hat : ∀ w ∈ Str.ofString "(" :: (ws.map toldW ++ [Str.ofString ")"]), atom (chs w) = true := fun w hw => by
      rcases List.mem_cons.mp hw with rfl | hw
      · decide +kernel
      · rcases List.mem_append.mp hw with hw | hw
        · exact (okT w (hT w hw)).2.1
        · rw [List.mem_singleton.mp hw]; decide +kernel
    rw [List.map_cons, List.map_append, show toldW (Str.ofString "(") = Str.ofString "(" from by decide +kernel, show [Str.ofString ")"].map toldW = [Str.ofString ")"] from by decide +kernel,
      finish_chs hat, chs_append, chs_append, finish_chs fun w hw => (okT w (hT w hw)).2.1, List.map_cons, List.map_append]
    have hne2 : (ws.map toldW).map chs ≠ [] := by simpa using hne
    show lay ([40] :: ((ws.map toldW).map chs ++ [[41]])) = [40] ++ lay _ ++ [41]
    obtain ⟨v, r, hvr⟩ := List.exists_cons_of_ne_nil hne2
    have hs := lay_snoc _ hne2
    rw [hvr] at hs ⊢
    show [40] ++ (if [40] = [40] ∨ v = [41] then [] else [32]) ++ lay ((v :: r) ++ [[41]]) = _
    rw [hs, if_pos (.inl rfl)]; simp
  rw [e] at key
  exact key
end
end Mine
end
section
open PySem PySem.W PyProof.Rows
set_option maxRecDepth 100000
set_option maxHeartbeats 8000000
namespace Mine
open_top hd for PySem.Challenge.rw_ez0219_02
end Mine
end
section
open PySem PySem.W PyProof.Rows
set_option maxRecDepth 100000
set_option maxHeartbeats 8000000
namespace Mine
theorem lic_rows (w : World) : ∀ p ∈ licT, RowAt (hd.heap_39 w.params) w.params p.2.1 p.2.2 := by
  simp only [licT, List.forall_mem_cons]
  refine ⟨?_,?_,?_,?_,?_,?_,?_,?_,?_,?_,?_,?_,?_,?_,?_,?_,?_,?_,?_,?_,?_,?_,?_,?_,?_,?_, fun _ h => nomatch h⟩ <;> exact ⟨_, _, _, rfl, by k_keys, rfl⟩
theorem exc_rows (w : World) : ∀ p ∈ excT, RowAt (hd.heap_39 w.params) w.params p.2.1 p.2.2 := by
  simp only [excT, List.forall_mem_cons]
  refine ⟨?_,?_,?_,?_,?_,?_,?_,?_, fun _ h => nomatch h⟩ <;> exact ⟨_, _, _, rfl, by k_keys, rfl⟩
def TabAtK (w : World) (base : Addr) (T : List (Str × Addr × Str)) : Prop := ∃ es n, (hd.heap_39 w.params).lookup base = some ⟨.type "dict", none, .dict es n, #[]⟩ ∧ KeysLit w.params es.toList ∧ es.toList.map (fun e => (keyOf e.key, e.val)) = T.map (fun p => (some p.1, Value.ref p.2.1))
theorem lic_at (w : World) : TabAtK w 39 licT := ⟨_, _, rfl, by k_keys, rfl⟩
theorem exc_at (w : World) : TabAtK w 67 excT := ⟨_, _, rfl, by k_keys, rfl⟩
theorem pat_at (w : World) : ∃ fs sl c dd items n2 sl2, (hd.heap_39 w.params).lookup 80 = some ⟨.type "re.Pattern", none, .fields fs, sl⟩ ∧ PySem.Builtin.Re.reRawNat (fs.getD 2 .none) = 0 ∧ PySem.Builtin.Re.reRawNat (fs.getD 6 .none) = 0 ∧ fs.getD 5 .none = .ref c ∧
    (hd.heap_39 w.params).lookup c = some ⟨.type "tuple", dd, .seq items n2, sl2⟩ ∧ (items.map PySem.Builtin.Re.reRawOf).map (·.toNat) = reCode := ⟨_, _, _, _, _, _, _, rfl, rfl, rfl, rfl, rfl, by decide +kernel⟩
section
variable {w : World} {A : Around} {E : Value → Shared → Prop} {s : Shared} {h₀ : Heap} {L a : Addr} {m : Str → Option Value} {news : List (Addr × Obj)} {f : Str} {tf : Tok}
theorem notin_lic {Q : Value → Shared → Prop} (F : Fr h₀ L s.heap m) (X : (hd.heap_39 w.params).In h₀) (h0 : tabP licT f = none → Q (.bool true) { s with toks := s.toks + 1 })
    (h1 : ∀ r a, tabP licT f = some r → nsIn (hd.heap_39 w.params) 39 f = some (some (.ref a)) → RowAt (hd.heap_39 w.params) w.params a r → Q (.bool false) { s with toks := s.toks + 1 }) : wpAny (model PySem.Challenge.rw_ez0219_02.row.prog w) A (compareOp .NotIn (.str f tf) (.ref 39)) Q E s := by
  obtain ⟨es, n, hl, hk, hm⟩ := lic_at w
  exact notin_tab F X hl hk hm (lic_rows w) (by decide) h0 h1
theorem notin_exc {Q : Value → Shared → Prop} (F : Fr h₀ L s.heap m) (X : (hd.heap_39 w.params).In h₀) (h0 : tabP excT f = none → Q (.bool true) { s with toks := s.toks + 1 })
    (h1 : ∀ r a, tabP excT f = some r → nsIn (hd.heap_39 w.params) 67 f = some (some (.ref a)) → RowAt (hd.heap_39 w.params) w.params a r → Q (.bool false) { s with toks := s.toks + 1 }) : wpAny (model PySem.Challenge.rw_ez0219_02.row.prog w) A (compareOp .NotIn (.str f tf) (.ref 67)) Q E s := by
  obtain ⟨es, n, hl, hk, hm⟩ := exc_at w
  exact notin_tab F X hl hk hm (exc_rows w) (by decide) h0 h1
theorem item_lic {value slice : Expr} {Q : Value → Shared → Prop} (F : Fr h₀ L s.heap m) (X : (hd.heap_39 w.params).In h₀) (e : nsIn (hd.heap_39 w.params) 39 f = some (some (.ref a))) (h : Q (.ref a) { s with toks := s.toks + 1 })
    (hs : subscripted slice false (.ref 39) (.str f tf) = operate [.ref 39, .str f tf] (getItem (.ref 39) (.str f tf)) := by with_unfolding_all rfl) : wpAny (model PySem.Challenge.rw_ez0219_02.row.prog w) A (subscriptTail value slice (.ref 39) (.str f tf)) Q E s := by
  obtain ⟨es, n, hl, hk, hm⟩ := lic_at w
  exact topItem_K F X hl hk e h hs
theorem item_exc {value slice : Expr} {Q : Value → Shared → Prop} (F : Fr h₀ L s.heap m) (X : (hd.heap_39 w.params).In h₀) (e : nsIn (hd.heap_39 w.params) 67 f = some (some (.ref a))) (h : Q (.ref a) { s with toks := s.toks + 1 })
    (hs : subscripted slice false (.ref 67) (.str f tf) = operate [.ref 67, .str f tf] (getItem (.ref 67) (.str f tf)) := by with_unfolding_all rfl) : wpAny (model PySem.Challenge.rw_ez0219_02.row.prog w) A (subscriptTail value slice (.ref 67) (.str f tf)) Q E s := by
  obtain ⟨es, n, hl, hk, hm⟩ := exc_at w
  exact topItem_K F X hl hk e h hs
theorem method_K {pl : Sem Bool} {Q : Value × List Value → Shared → Prop} (F : Fr h₀ L s.heap m) (X : (hd.heap_39 w.params).In h₀) (h : Q (.builtin "re.Pattern.match", [.ref 80]) s) : wpAny (model PySem.Challenge.rw_ez0219_02.row.prog w) A (getMethod (.ref 80) (Str.ofString "match") pl) Q E s := by
  obtain ⟨fs, sl, c, dd, items, n2, sl2, hp, hg, h6, h5, hc, hcode⟩ := pat_at w
  exact method_pat F X hp h
theorem match_K {Q : Value → Shared → Prop} (F : Fr h₀ L s.heap m) (N : News h₀ L s.heap news) (X : (hd.heap_39 w.params).In h₀) (hy : f ∈ six) (h0 : okRef f = false → Q .none s)
    (h1 : okRef f = true → ∀ r o h', isMatch o → Fr h₀ L h' m → News h₀ L h' ((r, o) :: news) → (∀ q ∈ news, q.1 < r) → Q (.ref r) { s with heap := h' }) : wpAny (model PySem.Challenge.rw_ez0219_02.row.prog w) A (call (.builtin "re.Pattern.match") [.ref 80, .str f tf]) Q E s := by
  obtain ⟨fs, sl, c, dd, items, n2, sl2, hp, hg, h6, h5, hc, hcode⟩ := pat_at w
  exact match_rule F N X hp hg h6 h5 hc hcode hy h0 h1
end
local macro_rules | `(tactic| walk_at "call builtin:str.replace") => `(tactic| (k_here; (first
  | refine replace_ruleS (by omega) (by omega) (by omega) (by decide) (by decide) (by decide) ?_
  | refine replace_rule 3 (by omega) (by omega) (by omega) (by decide) (by decide) (by decide) ?_
  | refine replace_rule 2 (by omega) (by omega) (by omega) (by decide) (by decide) (by decide) ?_); intro t' k' hk' hl'; (try dsimp only at hk'); (try simp only [Nat.reduceMul, Nat.reduceAdd] at hl')))
local macro_rules | `(tactic| walk_at "pyReprObj str") => `(tactic| (k_here; refine repr_rule (by assumption) ?_; intro y' hy'))
local macro_rules | `(tactic| walk_at "call builtin:str.split") => `(tactic| (k_here; (with_reducible show wpAny _ _ (call (Value.builtin "str.split") [Value.str _ _]) _ _ _); refine split_rule (by k_asm) (by k_asm) (by omega) ?_; intro D' vs' h' k' hvs' hwl' hk' F' N' l1; (try dsimp only at hk'); (try k_lt l1)))
local macro_rules | `(tactic| walk_at "le") => `(tactic| (k_here; (try simp only [Str.length_append, sizeLine_eq]); (try dsimp only [Str.empty, Str.length, Str.ofString]); (first | omega | (simp; omega))))
local macro_rules | `(tactic| walk_at "DictPack") => `(tactic| (refine DictPack.intro ?_; (rename Fr _ _ _ _ => dpF); (rename News _ _ _ _ => dpN); (rename StrsAre _ _ => dpS); (with_unfolding_all refine ⟨_, _, _, rfl, News.isList dpN (.head _), StrsAre.areOf dpS, ?dps, dpF, (fun q hq => dpN q (.tail _ hq)), ?_⟩); (case dps => (rw [sizeLine_eq]; omega)); (with_unfolding_all refine DictLeavesA.of (knd := strKind _ _) (enc := PyData.str) (kf := Txt.lower) (pz := isRefP) (d := refValP) ?key PyProof.V.same_str ?tests ?val ?cont); (case' key => (intros; (rename ItemKind.is _ _ _ => i'); (obtain ⟨_, e'⟩ := ItemKind.str_is i'; subst e'); (with_reducible refine wpAny_dictKey ?_))); (case' tests => (intros; (rename ItemKind.is _ _ _ => i'); (obtain ⟨_, e'⟩ := ItemKind.str_is i'; subst e'); (with_reducible refine wpAny_leafK ?_))); (case' val => (intros; (rename ItemKind.is _ _ _ => i'); (obtain ⟨_, e'⟩ := ItemKind.str_is i'; subst e'); (with_reducible refine wpAny_leafK ?_))); (case' cont => (intro D9 kvs9 h9 tk9 F9 N9 hD9 hd9 hf9; obtain ⟨oD, hoD, N9'⟩ := dict_led (y := Str.ofString "license_refs") F9 rfl (fun q hq => N9 q hq) hD9 hd9 hf9; clear N9 hd9))))
local macro_rules | `(tactic| walk_at "exec Raise some none") => `(tactic| (k_here; (with_reducible show wpAny _ _ (exec (Stmt.Raise (some (Expr.Call (Expr.Name _ _) (_ :: _) [] _)) none _) _) _ _ _); k_dflt (refine' raise_C ?F ?X ?T ?ey ?q PySem.F.excBase_ValueError ?hh ?_ ?a ?b ?c ?d ?e; (case F => k_asm); (case X => k_asm); (case T => k_asm); (case ey => k_is); (case q => k_exc); (case hh => first | rfl | assumption); (case a => rfl); (case b => rfl); (case c => rfl); (case d => rfl); (case e => decide); k_whole)))
local macro_rules | `(tactic| walk_at "leaving ref") => `(tactic| (k_here; (refine' leave_raiseX ?k1 ?k0 ?k2 ?k3 ?k4 ?_; (case k0 => assumption); (case k1 => assumption); (case k2 => assumption); (case k3 => exact rfl); (case k4 => exact rfl); k_whole; intro h' t' R' U'; (try dsimp only at R' U' ⊢))))
local macro_rules | `(tactic| walk_at "exec For Name Name cons nil") => `(tactic| (k_here; k_dflt (refine wpAny_For ?_)))
local macro_rules | `(tactic| walk_at "subscriptTail Name Slice str ref") => `(tactic| (k_here; (first
  | (refine' slice_fr_sn (s := ⟨_, _, _, _, _⟩) ?F ?N ?_ ?hs ?ht ?hz; (case F => k_asm); (case N => k_asm); (case hs => with_unfolding_all rfl); (case ht => intro _; with_unfolding_all rfl); (case hz => omega); intro h' t' k' hk' F' N' hl'; (try dsimp only at hk'); (try k_sweep))
  | (refine' slice_fr_ns (s := ⟨_, _, _, _, _⟩) ?F ?N ?_ ?hs ?ht ?hz; (case F => k_asm); (case N => k_asm); (case hs => with_unfolding_all rfl); (case ht => intro _; with_unfolding_all rfl); (case hz => omega); intro h' t' k' hk' F' N' hl'; (try dsimp only at hk'); (try k_sweep))
  | ((rename _ ∈ Txt.words _ => hmw); (have hmw' := word_short hmw); refine' slice_keep_sn (s := ⟨_, _, _, _, _⟩) ?_ ?hs ?ht ?hz; (case hs => with_unfolding_all rfl); (case ht => intro _; with_unfolding_all rfl); (case hz => omega); intro h' t' k' hp' hl'; (try dsimp only at hp')))))
local macro_rules | `(tactic| walk_at "call builtin:list.append") => `(tactic| (k_here; (with_reducible show wpAny _ _ (call (Value.builtin _) [Value.ref _, _]) _ _ _); k_dflt (refine' append_K ?k1 ?k2 ?k3 ?_ ?z; (case k1 => k_asm); (case k2 => k_asm); (case k3 => k_upd); (case z => (rw [sizeLine_eq]; simp only [List.size_toArray, Array.size_push]; omega)); k_whole); intro h' F' N'; (try simp only [List.push_toArray] at N'); (try k_sweep)))
local macro_rules | `(tactic| walk_at "truthy ref") => `(tactic| (k_here; k_dflt (refine' truthy_strs (ys := _) ?N ?m ?S ?b ?_; (case N => k_asm); (case m => k_mem); (case S => assumption); (case b => omega); k_whole)))
local macro_rules | `(tactic| walk_at "subscriptTail Name UnaryOp ref int") => `(tactic| (k_here; (with_reducible show wpAny _ _ (subscriptTail _ _ (Value.ref _) (Value.int _ _)) _ _ _); k_dflt (refine' last_strs ?N ?m ?S ?b ?e ?_ ?hs; (case N => k_asm); (case m => k_mem); (case S => assumption); (case b => omega); (case e => (simp only [decide_eq_true_eq] at *; assumption)); (case hs => with_unfolding_all rfl); k_whole); intro t'))
local macro_rules | `(tactic| walk_at "call builtin:str.join") => `(tactic| (k_here; (with_reducible show wpAny _ _ (call (Value.builtin "str.join") [Value.str _ _, Value.ref _]) _ _ _); k_dflt (first | (refine' join_rule 5 ?N ?m ?S ?B ?x ?b5 ?bb ?_; (case N => k_asm); (case m => k_mem); (case S => assumption); (case B => assumption); (case x => decide); (case b5 => decide); (case bb => omega); k_whole) | (refine' join_rule 64 ?N ?m ?S ?B ?x ?b5 ?bb ?_; (case N => k_asm); (case m => k_mem); (case S => assumption); (case B => assumption); (case x => decide); (case b5 => decide); (case bb => omega); k_whole)); intro t' k' hk' hl'; (try dsimp only at hk')))
local macro_rules | `(tactic| walk_at "And") => `(tactic| ((with_reducible show (@LE.le Nat _ (PySem.Str.length _) sizeLine) ∧ _); (first | refine ⟨(by decide), ?_⟩ | refine ⟨cat_fit (by decide) (by assumption), ?_⟩)))
local macro_rules | `(tactic| walk_at "exec For Tuple Call cons nil") => `(tactic| (k_here; k_dflt (refine wpAny_For ?_)))
local macro_rules | `(tactic| walk_at "call builtin:str.lower") => `(tactic| (k_here; dsimp only; (first | refine SCL.lower (by omega) ?_ | refine SCL.lower (by decide) ?_ | ((rename _ ∈ Txt.words _ => hmw); (have hmw' := word_short hmw); refine SCL.lower (by omega) ?_)); intro hlw))
local macro_rules | `(tactic| walk_at "execs cons") => `(tactic| (k_here; (with_reducible refine execs_cons_tok ?_); (try dsimp only)))
local macro_rules | `(tactic| walk_at "execs cons") => `(tactic| (k_here; (with_reducible show wpAny _ _ _ _ _ (Shared.mk _ _ _ (_ + _) _)); refine gen_execs (by omega) ?_; intro tk hpos))
local macro_rules | `(tactic| walk_at "compareOp NotIn str ref") => `(tactic| (k_here; k_dflt (first | refine' notin_lic ?F ?X (fun hno' => ?_) (fun r' a' hr' hn' hw' => ?_) | refine' notin_exc ?F ?X (fun hno' => ?_) (fun r' a' hr' hn' hw' => ?_)); (case F => k_asm); (case X => k_asm)))
local macro_rules | `(tactic| walk_at "subscriptTail Name Name ref str") => `(tactic| (k_here; k_dflt (first | (refine' item_lic ?F ?X ?e ?_ ?hs; (case F => k_asm); (case X => k_asm); (case e => assumption); (case hs => with_unfolding_all rfl)) | (refine' item_exc ?F ?X ?e ?_ ?hs; (case F => k_asm); (case X => k_asm); (case e => assumption); (case hs => with_unfolding_all rfl)) | (refine' item_dict ?N ?m ?d ?f ?l ?_ ?hs; (case N => k_asm); (case m => k_mem); (case d => assumption); (case f => assumption); (case l => exact ‹_ ∧ _ ∧ _›.1); (case hs => with_unfolding_all rfl); intro ti'))))
local macro_rules | `(tactic| walk_at "subscriptTail Name Constant ref str") => `(tactic| (k_here; k_dflt (refine' item_row ?F ?X ?e ?_ ?hs; (case F => k_asm); (case X => k_asm); (case e => assumption); (case hs => with_unfolding_all rfl)); intro ti'))
local macro_rules | `(tactic| walk_at "call builtin:str.upper") => `(tactic| (k_here; dsimp only; refine SCL.upper (by omega) ?_; intro hup))
local macro_rules | `(tactic| walk_at "subscriptTail Name BinOp ref int") => `(tactic| (k_here; k_dflt (refine' next_strs ?N ?m ?S ?b ?e ?_ ?hs; (case N => k_asm); (case m => k_mem); (case S => assumption); (case b => omega); (case e => (simp only [decide_eq_true_eq, decide_eq_false_iff_not] at *; omega)); (case hs => with_unfolding_all rfl)); intro y' t' hy'))
local macro_rules | `(tactic| walk_at "call builtin:len") => `(tactic| (k_here; (with_reducible show wpAny _ _ (call (Value.builtin "len") [Value.ref _]) _ _ _); k_dflt (refine' len_led ?N ?m ?S ?b ?_; (case N => k_asm); (case m => k_mem); (case S => assumption); (case b => omega))))
local macro_rules | `(tactic| walk_at "getMethod ref") => `(tactic| (k_here; (with_reducible show wpAny _ _ (getMethod (Value.ref _) (PySem.Str.ofString "match") _) _ _ _); k_dflt (refine' method_K ?F ?X ?_; (case F => k_asm); (case X => k_asm))))
local macro_rules | `(tactic| walk_at "truthy ref") => `(tactic| (k_here; k_dflt (refine' truthy_match ?N ?m ?S ?_; (case N => k_asm); (case m => exact List.Mem.head _); (case S => assumption))))
local macro_rules | `(tactic| walk_at "call builtin:re.Pattern.match") => `(tactic| (k_here; (obtain ⟨rf', hrf'⟩ := refs_has (by assumption) (by assumption) (by assumption)); k_dflt (refine' match_K ?F ?N ?X (by exact Tame.six (by assumption) (by assumption) (by assumption) (by assumption)) (fun hok' => ?_) (fun hok' r' o' h' ho' F' N' l1 => ?_); (case F => k_asm); (case N => k_asm); (case X => k_asm)); (all_goals (try k_lt l1))))
local macro_rules | `(tactic| walk_at "binaryOp Add str str") => `(tactic| (k_here; k_dflt (refine KXadd.add (K := 40) (L := 40) (lic_len (by assumption)) (by decide) (by decide) ?_); intro t' k' hk'))
local macro_rules | `(tactic| k_steps) => `(tactic| repeat' (first | ((with_reducible show (@LE.le Nat _ _ _) → _); intro hTok; (try dsimp only at hTok ⊢)) | (k_unfold; (try dsimp only)) | (k_end; wrow_close) | walk1 | (dsimp only; walk1) | (leave1; walk_say "STEP leave1"; try dsimp only) | fail "no step"))
noncomputable abbrev looseL := looseW hd.view_39
    [Str.ofString "LICENSES", Str.ofString "EXCEPTIONS", Str.ofString "license_ref_allowed", Str.ofString "_law_words"]
theorem canon (w : World) (mean : ExcName → Option Value) (mg mb : Str → Option Value) (x : Str) (tx : Tok)
  (dp un : Nat) (gd : Option (List Code)) (cn : Str) (cs : Scope) (a : Addr) (ccd : Value) (cl : List (Str × Addr)) (outer : List Env) (A₀ : Around) (base h₀ : Heap) (L : Addr) (m : Str → Option Value) (s : Shared) (Q E : Value → Shared → Prop) (news : List (Addr × Obj))
  (hx : Tame x) (hpos : 0 < s.toks)
  (Bl : Below A₀ base outer h₀) (F : Fr h₀ L s.heap m) (X : (hd.heap_39 w.params).In h₀) (N : News h₀ L s.heap news)
  (T : Top hd.view_39 looseL mean mg mb h₀) (hk : cs.kind = .function) (hdp : dp + 3 < recursionLimit) (hun : un + 20 < cLine)
  (hret : ∀ r, canonP x = some r → ∀ (t : Tok) (h' : Heap) (tk' : Nat), 0 < tk' → Fr h₀ L h' m → (∀ b o, s.heap.get? b = some o → h'.get? b = some o) → Q (.str r t) { s with heap := h', toks := tk' })
  (hraise : canonP x = none → ∀ e t vs h' tk', RaisedS base s.heap (envX cn cs L a ccd cl :: outer) e (.ref 90) t vs [] h' → s.heap.UpToSlots h' → E (.ref e) { s with heap := h', toks := tk' }) :
  wpAny (model PySem.Challenge.rw_ez0219_02.row.prog w) (ktrTop dp un gd cn cs L a ccd cl outer) (call (.ref 98) [.str x tx]) Q E s := by
  w_top off
  revert X
  k_fill
  intro X
  refine wpAny_call ?_
  k_dflt (refine' enter0 ?k1 ?k2 ?k3 ?k5 ?kA ?kF ?kK ?k6 ?k7 ?k8 ?k9 ?kB ?kD ?_ ?c2 ?c3 ?c4; (case kA => exact rfl); (case kF => exact rfl); (case kK => assumption); (case k1 => k_asm); (case k2 => k_asm); (case k3 => k_asm); (case k5 => k_asm); (case k6 => k_is); (case k7 => k_is); (case k8 => ktr_room); (case k9 => first | exact BindsTo.of_eq rfl | exact binds_K (by k_in) rfl (by k_is) rfl rfl rfl | fail "k_enter: no rule for these arguments"); (case kB => exact rfl); (case kD => decide +kernel); (case c2 => exact rfl); (case c3 => exact rfl); (case c4 => exact rfl); k_whole; intro g' L' h' tk' cells' hg' htk' F' N' Y' B' X' T'; k_cells Y'; (try simp only [List.cons_append, List.nil_append] at N'); (try dsimp only); (try k_lift B'); (try k_fold))
  have hsm := hx.small
  have hx2 := hx.len
  have hraise' : canonP x = none → ∀ e t vs h' tk', RaisedS base g' (envX cn cs L a ccd cl :: outer) e (.ref 90) t vs [] h' → g'.UpToSlots h' → E (.ref e) { s with heap := h', toks := tk' } := by rw [hg']; exact hraise
  clear hraise
  have hpos' : 0 < tk' := Nat.lt_of_lt_of_le hpos htk'
  k_steps
  case' cont.refine'_4.refine'_4.refine'_4.refine'_4.refine'_5.refine'_4.refine'_4 =>
    (rename Fr _ _ _ _ => lF'); (rename News _ _ _ _ => lN'); (rename StrsAre _ _ => hSt)
    refine for_list (J1 _ _ (Txt.words (Txt.lower (Txt.replace (Txt.replace x (Str.ofString "(") (Str.ofString " ( ")) (Str.ofString ")") (Str.ofString " ) ")))) _) (by rfl) (by rfl) (by rfl) lF' lN' (.tail _ (.head _)) (by omega) ⟨[], 0, [], rfl, .nil, rfl, Nat.le_refl _, fun _ h => (nomatch h), fun _ _ => rfl⟩ ?_ ?_
    · as_aux_lemma =>
      rintro i9 v9 m9 nx9 h9 tk9 I9 o9 hv9 hpos9 hmem9 hoff9 ⟨vsP, nP, acc, rfl, hSP, hpy, haccl, hacc5, hm9⟩ F9 N9
      clear lF' lN'
      obtain ⟨tok9, tt9, rfl, htok9, hdrop9⟩ := strs_at hSt hv9
      have F9' := fr_off F9 hm9
      clear F9
      have hoff9' := hoff9
      simp only [List.forall_mem_cons] at hoff9
      obtain ⟨hI1, hI2, hI3, hI4, -⟩ := hoff9
      replace hI1 := neN hI1
      replace hI2 := neN hI2
      replace hI3 := neN hI3
      replace hI4 := neN hI4
      have hvl := strs_len hSP
      have hal : i9 < (Txt.words (Txt.lower (Txt.replace (Txt.replace x (Str.ofString "(") (Str.ofString " ( ")) (Str.ofString ")") (Str.ofString " ) ")))).length := (List.getElem?_eq_some_iff.mp htok9).1
      have hvl2 : vsP.length ≤ 100000 := by omega
      have hal2 : acc.length ≤ 100000 := by omega
      k_steps
      any_goals (first | refine turned1 (by assumption) (fun q hq => (by assumption : News _ _ _ _) q (by first | exact .tail _ hq | exact .tail _ (.tail _ hq))) (.head _) hI1 (fun q hq => hoff9' q (.tail _ hq)) (by assumption) ?_ hdrop9 hpy haccl hacc5 ?_ | fail)
      any_goals (first | refine kw_len (by assumption) | refine (by decide : (Str.ofString "False").length ≤ 5) | refine (by decide : (Str.ofString "or").length ≤ 5) | fail)
      any_goals (first | refine step_a (by assumption) | refine step_b (by assumption) (by assumption) | refine step_c1 (by assumption) (by assumption) (by assumption) (by assumption) | refine step_c2 (by assumption) (by assumption) (Classical.not_not.mp (by assumption)) | refine step_c3 (by assumption) (by assumption) (by assumption) (by assumption) | refine step_c5 (by assumption) (by assumption) (by assumption) (by assumption) | fail)
      any_goals (first | refine hraise' (canon_none1 hpy hdrop9 ?_) _ _ _ _ _ (by assumption) (by assumption) | fail)
      any_goals (first | refine step_n1 (by assumption) (by assumption) (by assumption) (by assumption) (by assumption) | refine step_n2 (by assumption) (by assumption) (by assumption) (by assumption) (by assumption) | fail)
    · as_aux_lemma =>
      rintro m9 nx9 h9 tk9 hpos9 hmem9 ⟨vsP, nP, py, rfl, hSP, hpy, hpyl, hpy5, hm9⟩ F9 N9
      clear lF' lN'
      obtain ⟨u9, F9'⟩ := fr_out F9 hm9
      clear F9
      have hvl := strs_len hSP
      have hal := strs_len hSt
      rw [hal, List.drop_length] at hpy
      have hpy' : pyToks [] (toksP x) = some py := hpy
      have hvl2 : vsP.length ≤ 100000 := by omega
      have hal2 : py.length ≤ 100000 := by omega
      k_steps
      (rename Fr _ _ _ _ => lF'); (rename News _ _ _ _ => lN')
      refine for_list (J2 _ (Txt.join (Str.ofString " ") py) _) (by rfl) (by rfl) (by rfl) lF' lN' (.head _) (by omega) ⟨rfl, ⟨_, rfl⟩, by show (Txt.join _ _).length ≤ _; omega, fun _ _ _ => rfl⟩ ?_ ?_
      · as_aux_lemma =>
        rintro i9 v9 m9 nx9 h9 tk9 I9 o9 hv9 hpos9 hmem9 hoff9 ⟨rfl, ⟨te9, hme9⟩, hel9, hm9⟩ F9 N9
        clear lF' lN'
        have F9' := fr_off2 F9 hme9 hm9
        clear F9
        k_steps
        refine turned2 (by assumption) (by assumption) (fun q hq => by rw [List.mem_singleton.mp hq]; exact .head _) hoff9 (by rfl) (by omega) (fun z _ h2 => if_neg h2)
      · as_aux_lemma =>
        rintro m9 nx9 h9 tk9 hpos9 hmem9 ⟨rfl, ⟨te9, hme9⟩, hel9, hm9⟩ F9 N9
        clear lF' lN'
        obtain ⟨u9, F9'⟩ := fr_out2 F9 hme9 (by decide) hm9
        clear F9
        rw [hvl] at hel9
        k_steps
        · refine hraise' (canon_none2 hpy' (by rw [← hvl]; simpa using (by assumption : (redN _ _ != _) = true))) _ _ _ _ _ (by assumption) (by assumption)
        (rename Fr _ _ _ _ => lF'); (rename News _ _ _ _ => lN')
        refine for_enum (J3 _ _ (W3 x) _) (by rfl) (by rfl) (by rfl) (by rfl) lF' lN' (.tail _ (.tail _ (.head _))) (by omega) ⟨[], 0, [], false, rfl, .nil, rfl, Nat.le_refl _, fun _ h => (nomatch h), rfl, fun _ _ _ _ _ _ _ => rfl⟩ ?_ ?_
        · as_aux_lemma =>
          rintro i9 v9 ti9 m9 nx9 h9 tk9 e9 I9 oe9 oi9 hv9 hpos9 hei9 hmem9 hoff9 ⟨vsN, nN, norm, lls, rfl, hSN, hW, hnl, hn64, hll9, hm9⟩ F9 N9
          clear lF' lN'
          obtain ⟨tok9, tt9, rfl, htok9, hdrop9⟩ := strs_at hSt hv9
          obtain ⟨ua9, ub9, uc9, F9'⟩ := fr_off3 F9 hll9 hm9
          clear F9
          have hoff9' := hoff9
          simp only [List.forall_mem_cons] at hoff9
          obtain ⟨⟨hI1, hI1'⟩, ⟨hI2, hI2'⟩, ⟨hI3, hI3'⟩, ⟨hI4, hI4'⟩, ⟨hI5, hI5'⟩, -⟩ := hoff9
          replace hI1 := neN hI1
          replace hI2 := neN hI2
          replace hI3 := neN hI3
          replace hI4 := neN hI4
          replace hI5 := neN hI5
          replace hI1' := neN hI1'
          replace hI2' := neN hI2'
          replace hI3' := neN hI3'
          replace hI4' := neN hI4'
          replace hI5' := neN hI5'
          replace hei9 := neN hei9
          have hvl3 := strs_len hSN
          have hal3 : i9 < (Txt.words (Txt.lower (Txt.replace (Txt.replace x (Str.ofString "(") (Str.ofString " ( ")) (Str.ofString ")") (Str.ofString " ) ")))).length := (List.getElem?_eq_some_iff.mp htok9).1
          have hvl32 : vsN.length ≤ 100000 := by omega
          have hal32 : norm.length ≤ 100000 := by omega
          have htm9 : tok9 ∈ toksP x := List.mem_of_getElem? htok9
          have ht40 := hx.short tok9 htm9
          have hsm9 : Small tok9 := ⟨by omega, hx.tasc _ htm9⟩
          have hsmf : Small (Txt.slice tok9 none (some (-1))) := hsm9.slice _ _
          k_steps
          any_goals (first | refine turned3 (by assumption) (fun q hq => (by assumption : News _ _ _ _) q (by first | exact hq | exact .tail _ hq | exact .tail _ (.tail _ hq) | exact .tail _ (.tail _ (.tail _ hq)))) (.tail _ (.head _)) (hoff9' _ (.head _)) (fun q hq => hoff9' q (.tail _ hq)) hSN (W3.step hW hdrop9 ?_) hnl hn64 ?_ (by first | rfl | simp) (by intro z h1 h2 h3 h4 h5 h6; simp [h1, h2, h3, h4, h5, h6]) _ (by first | exact .inl rfl | exact .inr rfl) | fail)
          any_goals (first | refine hraise' (canon_none3 hW hdrop9 ?_) _ _ _ _ _ (by assumption) (by assumption) | fail)
          any_goals (first | with_reducible refine nm_kw1 (by assumption) (by assumption) | with_reducible refine nm_kw2' (by assumption) (by assumption) (by assumption) (by assumption) | with_reducible refine nm_ex2 (by assumption) (by assumption) (by assumption) (by assumption) | with_reducible refine nm_rf3 (by assumption) (notW1 (Classical.not_not.mp (by assumption))) (by assumption) (by assumption) (by assumption) (rf_look (by assumption)) | with_reducible refine nm_rf3 (by assumption) (notW2 (by assumption)) (by assumption) (by assumption) (by assumption) (rf_look (by assumption)) | with_reducible refine nm_li3 (by assumption) (notW1 (Classical.not_not.mp (by assumption))) (by assumption) (by assumption) (by assumption) | with_reducible refine nm_li3 (by assumption) (notW2 (by assumption)) (by assumption) (by assumption) (by assumption) | with_reducible refine nm_li4 (by assumption) (notW1 (Classical.not_not.mp (by assumption))) (by assumption) (by assumption) (by assumption) | with_reducible refine nm_li4 (by assumption) (notW2 (by assumption)) (by assumption) (by assumption) (by assumption) | fail)
          any_goals (first | with_reducible refine upper_len (by assumption) | with_reducible refine Nat.le_trans (exc_len (by assumption)) (by decide) | with_reducible refine lic_len2 (by assumption) (by decide) | with_reducible refine rf_len (by assumption) | fail)
          any_goals (first | with_reducible refine nm_kw3a (by assumption) (by assumption) (by assumption) | with_reducible refine nm_kw3b (by assumption) (by assumption) (by assumption) | with_reducible refine nm_kw3c (by assumption) (by assumption) (by assumption) (by assumption) | with_reducible refine nm_ex1 (by assumption) (by assumption) (by assumption) (by assumption) | with_reducible refine nm_rf1 (by assumption) (notW1 (Classical.not_not.mp (by assumption))) (by assumption) (by assumption) | with_reducible refine nm_rf1 (by assumption) (notW2 (by assumption)) (by assumption) (by assumption) | with_reducible refine nm_rf2 (by assumption) (notW1 (Classical.not_not.mp (by assumption))) (by assumption) (by assumption) (by assumption) | with_reducible refine nm_rf2 (by assumption) (notW2 (by assumption)) (by assumption) (by assumption) (by assumption) | with_reducible refine nm_li1 (by assumption) (notW1 (Classical.not_not.mp (by assumption))) (by assumption) (by assumption) (by assumption) | with_reducible refine nm_li1 (by assumption) (notW2 (by assumption)) (by assumption) (by assumption) (by assumption) | with_reducible refine nm_li2 (by assumption) (notW1 (Classical.not_not.mp (by assumption))) (by assumption) (by assumption) (by assumption) | with_reducible refine nm_li2 (by assumption) (notW2 (by assumption)) (by assumption) (by assumption) (by assumption) | fail)
          any_goals (first | refine nm_kw3a (by assumption) (by assumption) (by assumption) | refine nm_kw3b (by assumption) (by assumption) (by assumption) | refine nm_kw3c (by assumption) (by assumption) (by assumption) (by assumption) | refine nm_kw1 (by assumption) (by assumption) | refine nm_kw2' (by assumption) (by assumption) (by assumption) (by assumption) | refine upper_len (by assumption) | fail)
        · as_aux_lemma =>
          rintro m9 nx9 h9 tk9 hpos9 hmem9 ⟨vsN, nN, norm, lls, rfl, hSN, hW, hnl, hn64, hll9, hm9⟩ F9 N9
          clear lF' lN'
          obtain ⟨ua9, ub9, uc9, ud9, ue9, uf9, F9'⟩ := fr_out3 F9 hm9
          clear F9
          have hvl4 := strs_len hSN
          have hvl5 : norm.length ≤ 2000 := Nat.le_trans hnl (Nat.le_trans (Nat.le_of_eq (strs_len hSt)) hx.cnt)
          k_steps
          refine wpAny_call ?_
          k_dflt (refine' enter0 ?k1 ?k2 ?k3 ?k5 ?kA ?kF ?kK ?k6 ?k7 ?k8 ?k9 ?kB ?kD ?_ ?c2 ?c3 ?c4; (case kA => exact rfl); (case kF => exact rfl); (case kK => exact rfl); (case k1 => k_asm); (case k2 => k_asm); (case k3 => k_asm); (case k5 => k_asm); (case k6 => k_is); (case k7 => k_is); (case k8 => ktr_room); (case k9 => first | exact BindsTo.of_eq rfl | exact binds_K (by k_in) rfl (by k_is) rfl rfl rfl | fail "k_enter: no rule for these arguments"); (case kB => exact rfl); (case kD => decide +kernel); (case c2 => exact rfl); (case c3 => exact rfl); (case c4 => exact rfl); k_whole; intro g2 L2 h2 tk2 cells2 hg2 htk2 F2 N2 Y2 B2 X2 T2; cases Y2; (try dsimp only); (try k_lift B2); (try k_fold))
          k_steps
          refine hret _ (canon_some (lls := false) (len_ne (by assumption)) hpy' (by rw [← hvl]; exact eq_of_bneF (by assumption)) (hW.done (strs_len hSt))) _ _ _ (by omega) (by assumption) (fun b o e => (by assumption : Fr g' L' _ _).keep b o (by rw [hg']; exact e))
  any_goals (first | refine hraise' (canon_none0 (len_zero (by assumption))) _ _ _ _ _ (by assumption) (by assumption) | fail)
  any_goals (first | refine Str.empty | refine (0 : Nat) | refine Value.none | fail)
end Mine
end
section
open PySem PySem.W PyProof.Rows
set_option maxRecDepth 100000
set_option maxHeartbeats 8000000
namespace Mine
local macro_rules | `(tactic| walk_at "call ref") => `(tactic| (k_here; (with_reducible show wpAny _ _ (call (Value.ref 98) [Value.str _ _]) _ _ _); k_dflt (refine' canon _ _ _ _ _ _ _ _ _ _ _ _ _ _ _ _ _ _ _ _ _ _ _ [] ?hx ?hp ?Bl ?F ?X ?N ?T ?hk ?hd ?hu (fun r' hr' t' h' tk' hp' F' hk' => ?_) (fun hn' e' t' vs' h' tk' R' U' => ?_); (case hx => assumption); (case hp => omega); (case Bl => k_asm); (case F => k_asm); (case X => k_asm); (case N => exact News.nil); (case T => k_asm); (case hk => rfl); (case hd => ktr_room); (case hu => ktr_units); (all_goals (try dsimp only)))))
local macro_rules | `(tactic| walk_at "execs cons") => `(tactic| (k_here; (with_reducible refine execs_cons_tok ?_); (try dsimp only)))
local macro_rules | `(tactic| walk_at "execs cons") => `(tactic| (k_here; (with_reducible show wpAny _ _ _ _ _ (Shared.mk _ _ _ (_ + _) _)); refine gen_execs (by omega) ?_; intro tk hpos))
local macro_rules | `(tactic| k_steps) => `(tactic| repeat' (first | ((with_reducible show (@LE.le Nat _ _ _) → _); intro hTok; (try dsimp only at hTok ⊢)) | (k_unfold; (try dsimp only)) | (k_end; wrow_close) | walk1 | (dsimp only; walk1) | (leave1; walk_say "STEP leave1"; try dsimp only) | fail "no step"))
theorem told (w : World) (mean : ExcName → Option Value) (mg mb : Str → Option Value) (x : Str) (tx : Tok)
  (dp un : Nat) (gd : Option (List Code)) (cn : Str) (cs : Scope) (a : Addr) (ccd : Value) (cl : List (Str × Addr)) (A₀ : Around) (base h₀ : Heap) (L : Addr) (m : Str → Option Value) (s : Shared) (Q E : Value → Shared → Prop) (news : List (Addr × Obj))
  (hx : Tame x) (hpos : 0 < s.toks)
  (Bl : Below A₀ base [] h₀) (F : Fr h₀ L s.heap m) (X : (hd.heap_39 w.params).In h₀) (N : News h₀ L s.heap news)
  (T : Top hd.view_39 looseL mean mg mb h₀) (XB : (hd.heap_39 w.params).In base) (TB : Top hd.view_39 looseL mean mg mb base) (hk : cs.kind = .function) (hdp : dp + 4 < recursionLimit) (hun : un + 28 < cLine)
  (hret : ∀ r, canonP x = some r → ∀ (t : Tok) (h' : Heap) (tk' : Nat), 0 < tk' → Fr h₀ L h' m → News h₀ L h' news → Q (.str r t) { s with heap := h', toks := tk' })
  (hnone : canonP x = none → ∀ (h' : Heap) (tk' : Nat), 0 < tk' → Fr h₀ L h' m → News h₀ L h' news → Q .none { s with heap := h', toks := tk' }) :
  wpAny (model PySem.Challenge.rw_ez0219_02.row.prog w) (ktrTop dp un gd cn cs L a ccd cl []) (call (.ref 132) [.str x tx]) Q E s := by
  w_top off
  revert X XB
  k_fill
  intro X XB
  refine wpAny_call ?_
  k_dflt (refine' enterT ?k1 ?k2 ?k3 ?k4 ?k5 ?kA ?kF ?kK ?k6 ?k7 ?k8 ?k9 ?kB ?_ ?c2 ?c3 ?c4 ?c5; (case kA => exact rfl); (case kF => exact rfl); (case kK => assumption); (case k1 => k_asm); (case k2 => k_asm); (case k3 => k_asm); (case k4 => k_asm); (case k5 => k_asm); (case k6 => k_is); (case k7 => k_is); (case k8 => ktr_room); (case k9 => first | exact BindsTo.of_eq rfl | exact binds_K (by k_in) rfl (by k_is) rfl rfl rfl | fail "k_enter: no rule for these arguments"); (case kB => exact locs rfl); (case c2 => exact rfl); (case c3 => exact rfl); (case c4 => exact rfl); (case c5 => decide); k_whole; intro g' L' h' hg' F' B' X' T' D'; (try dsimp only); (try k_lift B'); (try k_fold))
  have hpos1 : 0 < s.toks + 1 := by omega
  change wpAny _ _ (execs _ _) _ _ ⟨h', s.gens, s.drawn, s.toks + 1, s.os⟩
  k_steps
  · refine ⟨g', KtsTurn.refl, fun b o e => (by assumption : Fr g' L' _ _).keep b o e, fun F9 N9 => ?_⟩
    exact hret _ (by assumption) _ _ _ (by omega) F9 N9
  · refine ⟨_, by assumption, fun b o e => (by assumption : Fr _ L' _ _).keep b o e, fun F9 N9 => ?_⟩
    exact hnone (by assumption) _ _ (by omega) F9 N9
end Mine
end
section
open PySem PySem.W PyProof.Rows
set_option maxRecDepth 100000
set_option maxHeartbeats 8000000
namespace Mine
/-- what a def of the reader does, called with the list of words and a place -/
def ReadC (w : World) (mean : ExcName → Option Value) (mg mb : Str → Option Value) (ws : List Str) (vs : List Value) (n : Nat) (Lw : Addr) (f : Addr) (need : Nat) (r : Nat → Option Nat) (ok : Nat → Prop) : Prop :=
  ∀ (dp un : Nat) (gd : Option (List Code)) (cn : Str) (cs : Scope) (a : Addr) (ccd : Value) (cl : List (Str × Addr)) (outer : List Env) (A₀ : Around) (base h₀ : Heap) (L : Addr) (m : Str → Option Value) (s : Shared) (Q E : Value → Shared → Prop) (news : List (Addr × Obj)) (p : Nat) (tp : Tok),
  ok p → (Lw, listOf vs.toArray n) ∈ news → Below A₀ base outer h₀ → Fr h₀ L s.heap m → (hd.heap_39 w.params).In h₀ → News h₀ L s.heap news → Top hd.view_39 looseL mean mg mb h₀ → cs.kind = .function → dp + need < recursionLimit → un + 8 * need + 100 < cLine →
  (∀ t h' tk', Fr h₀ L h' m → News h₀ L h' news → Q (optV (r p) t) { s with heap := h', toks := tk' }) →
  wpAny (model PySem.Challenge.rw_ez0219_02.row.prog w) (ktrTop dp un gd cn cs L a ccd cl outer) (call (.ref f) [.ref Lw, .int (p : Int) tp]) Q E s
local macro_rules | `(tactic| walk_at "call builtin:len") => `(tactic| (k_here; (with_reducible show wpAny _ _ (call (Value.builtin "len") [Value.ref _]) _ _ _); k_dflt (refine' len_led ?N ?m ?S ?b ?_; (case N => k_asm); (case m => first | assumption | exact .tail _ (by assumption) | exact .tail _ (.tail _ (by assumption)) | exact .tail _ (.tail _ (.tail _ (by assumption))) | exact .tail _ (.tail _ (.tail _ (.tail _ (by assumption)))) | k_mem); (case S => assumption); (case b => omega))))
section
variable {prog : Program} {w : World} {A : Around} {E : Value → Shared → Prop} {s : Shared} {h₀ : Heap} {L l : Addr} {m : Str → Option Value} {news : List (Addr × Obj)} {vs : List Value} {ys : List Str} {n : Nat}
theorem at_strs {value slice : Expr} {i : Nat} {u : Tok} {Q : Value → Shared → Prop} (N : News h₀ L s.heap news) (hm : (l, listOf vs.toArray n) ∈ news) (hS : StrsAre vs ys) (hb : ys.length ≤ 1000000) (hi : i < ys.length)
    (h : ∀ y t, ys[i]? = some y → Q (.str y t) s)
    (hs : subscripted slice false (.ref l) (.int (i : Int) u) = operate [.ref l, .int (i : Int) u] (getItem (.ref l) (.int (i : Int) u)) := by with_unfolding_all rfl) :
    wpAny (model prog w) A (subscriptTail value slice (.ref l) (.int (i : Int) u)) Q E s := by
  have hl : s.heap.IsList l vs.toArray := ⟨_, (N _ hm).1, rfl, n, rfl⟩
  obtain ⟨y, hy⟩ : ∃ y, ys[i]? = some y := ⟨_, List.getElem?_eq_getElem hi⟩
  obtain ⟨t, ht⟩ := strs_get hS hy
  refine tail_any hl.typeIs slot_list_getitem.lookup (wpAny_getItem_list hl (by omega) (by omega) ?_ (h y t hy)) hs
  rw [show (i : Int).toNat = i from by omega]
  simpa using ht
end
local macro_rules | `(tactic| walk_at "subscriptTail Name Name ref int") => `(tactic| (k_here; (with_reducible show wpAny _ _ (subscriptTail _ _ (Value.ref _) (Value.int _ _)) _ _ _); k_dflt (refine' at_strs ?N ?m ?S ?b ?e ?_ ?hs; (case N => k_asm); (case m => first | assumption | exact .tail _ (by assumption) | exact .tail _ (.tail _ (by assumption)) | exact .tail _ (.tail _ (.tail _ (by assumption))) | exact .tail _ (.tail _ (.tail _ (.tail _ (by assumption)))) | k_mem); (case S => assumption); (case b => omega); (case e => omega); (case hs => with_unfolding_all rfl)); intro y' t' hy'))
theorem v2_len {ws : List Str} {i : Nat} {y : Str} (hV : ∀ w ∈ ws, w ∈ V2) (h : ws[i]? = some y) : y.length ≤ 40 := by
  exact (by decide +kernel : ∀ y ∈ V2, y.length ≤ 40) y (hV y (List.mem_of_getElem? h))
theorem v2_ok {ws : List Str} (hV : ∀ w ∈ ws, w ∈ V2) (p k : Nat) : ∀ y ∈ (ws.drop p).take k, PyData.strOk y = true := fun y hy =>
  (by decide +kernel : ∀ y ∈ V2, PyData.strOk y = true) y (hV y (List.mem_of_mem_drop (List.mem_of_mem_take hy)))
local macro_rules | `(tactic| walk_at "subscriptTail Name Slice ref ref") => `(tactic| (k_here; (with_reducible show wpAny _ _ (subscriptTail _ (PySem.Expr.Slice _ _ none _) (Value.ref _) (Value.ref _)) _ _ _); k_dflt (first
  | (refine' slice_strs (p := _ + 1) (q := _ + 2) ?F ?N ?m ?S ?b ?pl ?pu ?hi ?hj ?pq ?_ ?hs ?ht; (case F => k_asm); (case N => k_asm); (case m => first | assumption | exact .tail _ (by assumption) | exact .tail _ (.tail _ (by assumption)) | exact .tail _ (.tail _ (.tail _ (by assumption))) | exact .tail _ (.tail _ (.tail _ (.tail _ (by assumption)))) | k_mem); (case S => assumption); (case b => omega); (case pl => exact IsPart.int _ _); (case pu => exact IsPart.int _ _); (case hi => rfl); (case hj => rfl); (case pq => omega); (case hs => with_unfolding_all rfl); (case ht => intro _; with_unfolding_all rfl))
  | (refine' slice_strs ?F ?N ?m ?S ?b ?pl ?pu ?hi ?hj ?pq ?_ ?hs ?ht; (case F => k_asm); (case N => k_asm); (case m => first | assumption | exact .tail _ (by assumption) | exact .tail _ (.tail _ (by assumption)) | exact .tail _ (.tail _ (.tail _ (by assumption))) | exact .tail _ (.tail _ (.tail _ (.tail _ (by assumption)))) | k_mem); (case S => assumption); (case b => omega); (case pl => exact IsPart.int _ _); (case pu => exact IsPart.int _ _); (case hi => rfl); (case hj => rfl); (case pq => omega); (case hs => with_unfolding_all rfl); (case ht => intro _; with_unfolding_all rfl))); intro D' zs' h' S' F' N' l1; (try k_lt l1)))
local macro_rules | `(tactic| walk_at "subscriptTail Name Slice ref ref") => `(tactic| (k_here; (with_reducible show wpAny _ _ (subscriptTail _ (PySem.Expr.Slice _ _ none _) (Value.ref _) (Value.ref _)) _ _ _); k_dflt (first
  | (refine' slice_one (p := _ + 2) ?F ?N ?m ?S ?b ?pl ?pu ?hi ?hj (fun y0 D' h' F' N' l1 => ?_) (fun y' t' y0 D' h' F' N' l1 => ?_) ?hs ?ht; (case F => k_asm); (case N => k_asm); (case m => first | assumption | exact .tail _ (by assumption) | exact .tail _ (.tail _ (by assumption)) | exact .tail _ (.tail _ (.tail _ (by assumption))) | exact .tail _ (.tail _ (.tail _ (.tail _ (by assumption)))) | exact .tail _ (.tail _ (.tail _ (.tail _ (.tail _ (by assumption))))) | k_mem); (case S => assumption); (case b => omega); (case pl => exact IsPart.int _ _); (case pu => exact IsPart.int _ _); (case hi => rfl); (case hj => rfl); (case hs => with_unfolding_all rfl); (case ht => intro _; with_unfolding_all rfl))); (all_goals (try k_lt l1))))
theorem v2_low {ws : List Str} {i : Nat} {y : Str} (hV : ∀ w ∈ ws, w ∈ V2) (h : ws[i]? = some y) : ∀ z ∈ [Txt.lower y], PyData.strOk z = true := by
  intro z hz
  rw [List.mem_singleton.mp hz]
  exact (by decide +kernel : ∀ y ∈ V2, PyData.strOk (Txt.lower y) = true) y (hV y (List.mem_of_getElem? h))
local macro_rules | `(tactic| walk_at "compareOp Eq ref ref") => `(tactic| (k_here; (with_reducible show wpAny _ _ (compareOp CmpOp.Eq (Value.ref _) (Value.ref _)) _ _ _); k_dflt (refine' eq_strs ?N ?a ?b ?i ?j ?oi ?oj ?u ?_; (case N => k_asm); (case a => exact .tail _ (.head _)); (case b => exact .head _); (case i => exact .cons _ _ .nil); (case j => exact .cons _ _ .nil); (case oi => exact v2_low (by assumption) (by assumption)); (case oj => decide +kernel); (case u => ktr_units))))
local macro_rules | `(tactic| walk_at "compareOp Eq ref ref") => `(tactic| (k_here; (with_reducible show wpAny _ _ (compareOp CmpOp.Eq (Value.ref _) (Value.ref _)) _ _ _); k_dflt (refine' eq_strs ?N ?a ?b ?i ?j ?oi ?oj ?u ?_; (case N => k_asm); (case a => k_mem); (case b => k_mem); (case i => assumption); (case j => exact .cons _ _ .nil); (case oi => exact v2_ok (by assumption) _ _); (case oj => decide +kernel); (case u => ktr_units))))
local macro_rules | `(tactic| walk_at "call ref") => `(tactic| (k_here; (with_reducible show wpAny _ _ (call (Value.ref 113) _) _ _ _); refine wpAny_call ?_; k_dflt (refine' code_def ?k1 ?k2 ?k3 ?k4 ?k5 ?kA ?kF ?kK ?k6 ?k7 ?k8 ?k9 ?kB ?_ ?c2 ?c3 ?c4 ?c5; (case kA => exact rfl); (case kF => exact rfl); (case kK => exact rfl); (case k1 => k_asm); (case k2 => k_asm); (case k3 => k_asm); (case k4 => k_asm); (case k5 => k_asm); (case k6 => k_is); (case k7 => k_is); (case k8 => ktr_room); (case k9 => exact BindsTo.of_eq rfl); (case c5 => decide); (case kB => exact locs rfl); (case c2 => exact rfl); (case c3 => exact rfl); (case c4 => exact rfl); k_whole; intro g' L' h' FG' F' N' B' X' T'; (try dsimp only); (try k_lift B'); (try k_fold))))
local macro_rules | `(tactic| walk_at "call builtin:str.lower") => `(tactic| (k_here; dsimp only; (have hlen9 := v2_len (by assumption) (by assumption : (_ : List Str)[_]? = some _)); refine SCL.lower (by omega) ?_; intro hlw))
theorem ReadC.use {w : World} {mean : ExcName → Option Value} {mg mb : Str → Option Value} {ws : List Str} {vs : List Value} {n : Nat} {Lw f : Addr} {need : Nat} {r : Nat → Option Nat} {ok : Nat → Prop} (C : ReadC w mean mg mb ws vs n Lw f need r ok)
    {dp un : Nat} {gd : Option (List Code)} {cn : Str} {cs : Scope} {a : Addr} {ccd : Value} {cl : List (Str × Addr)} {outer : List Env} {A₀ : Around} {base h₀ : Heap} {L : Addr} {m : Str → Option Value} {s : Shared} {Q E : Value → Shared → Prop} {news : List (Addr × Obj)} (p : Nat) {i : Int} {tp : Tok}
    (hi : i = (p : Int)) (ho : ok p) (hm : (Lw, listOf vs.toArray n) ∈ news) (Bl : Below A₀ base outer h₀) (F : Fr h₀ L s.heap m) (X : (hd.heap_39 w.params).In h₀) (N : News h₀ L s.heap news) (T : Top hd.view_39 looseL mean mg mb h₀) (hk : cs.kind = .function) (hdp : dp + need < recursionLimit) (hun : un + 8 * need + 100 < cLine)
    (h0 : r p = none → ∀ h' tk', Fr h₀ L h' m → News h₀ L h' news → Q .none { s with heap := h', toks := tk' })
    (h1 : ∀ q, r p = some q → ∀ t h' tk', Fr h₀ L h' m → News h₀ L h' news → Q (.int (q : Int) t) { s with heap := h', toks := tk' }) :
    wpAny (model PySem.Challenge.rw_ez0219_02.row.prog w) (ktrTop dp un gd cn cs L a ccd cl outer) (call (.ref f) [.ref Lw, .int i tp]) Q E s := by
  subst hi
  refine C dp un gd cn cs a ccd cl outer A₀ base h₀ L m s Q E news p tp ho hm Bl F X N T hk hdp hun fun t h' tk' F' N' => ?_
  cases hr : r p with
  | none => exact h0 hr h' tk' F' N'
  | some q => exact h1 q hr t h' tk' F' N'
local macro_rules | `(tactic| walk_at "CompEnd") => `(tactic| (refine LCg.CompEnd.intro (by assumption) (by assumption) _ (fun _ hp => hp) (by first | assumption | (simp only [LCg.Off3, and_true]; assumption)) (by first | exact Or.inr ⟨_, .head _, rfl, _, rfl⟩ | exact Or.inr ⟨_, .tail _ (.head _), rfl, _, rfl⟩ | exact Or.inr ⟨_, .tail _ (.tail _ (.head _)), rfl, _, rfl⟩ | lcg_src) ?_))
local macro_rules | `(tactic| walk_at "call ref") => `(tactic| (k_here; (with_reducible show wpAny _ _ (call (Value.ref 125) _) _ _ _); k_dflt (refine' ReadC.use (f := 125) ?C (_ + 1) ?i ?ok ?m ?Bl ?F ?X ?N ?T ?hk ?hd ?hu (fun hr9 h' tk' F' N' => ?_) (fun q9 hr9 t' h' tk' F' N' => ?_); (case C => assumption); (case i => rfl); (case ok => omega); (case Bl => k_asm); (case F => k_asm); (case X => k_asm); (case N => k_asm); (case m => first | assumption | exact .tail _ (by assumption) | exact .tail _ (.tail _ (by assumption)) | exact .tail _ (.tail _ (.tail _ (by assumption))) | exact .tail _ (.tail _ (.tail _ (.tail _ (by assumption)))) | exact .tail _ (.tail _ (.tail _ (.tail _ (.tail _ (by assumption))))) | k_mem); (case T => k_asm); (case hk => rfl); (case hd => ktr_room); (case hu => ktr_units); (all_goals (try dsimp only)))))
section
variable {w : World} {mean : ExcName → Option Value} {mg mb : Str → Option Value} {ws : List Str} {vs : List Value} {n : Nat} {Lw : Addr}
theorem item_step (hS : StrsAre vs ws) (hV : ∀ w ∈ ws, w ∈ V2) (hl : ws.length ≤ 9) (f : Nat) (hf : f ≤ 9)
    (hrow : ReadC w mean mg mb ws vs n Lw 125 (2 * f + 2) (rowN ws f) (fun p => ws.length - p ≤ f)) :
    ReadC w mean mg mb ws vs n Lw 118 (2 * f + 3) (itemN ws (f + 1)) (fun p => ws.length - p ≤ f + 1) := by
  intro dp un gd cn cs a ccd cl outer A₀ base h₀ L m s Q E news p tp hp hm Bl F X N T hk hdp hun hret
  w_top off
  revert X
  k_fill
  intro X
  refine wpAny_call ?_
  k_dflt ktr_enter
  have hnone : itemN ws (f + 1) p = none → ∀ h' tk', Fr h₀ L h' m → News h₀ L h' news → Q .none { s with heap := h', toks := tk' } := fun e h' tk' F' N' => by
    have := hret 0 h' tk' F' N'
    rw [e] at this
    exact this
  have hsome : ∀ q, itemN ws (f + 1) p = some q → ∀ t h' tk', Fr h₀ L h' m → News h₀ L h' news → Q (.int (q : Int) t) { s with heap := h', toks := tk' } := fun q e t h' tk' F' N' => by
    have := hret t h' tk' F' N'
    rw [e] at this
    exact this
  clear hret
  k_steps
  any_goals (refine hnone ?_ _ _ (by assumption) (fun q hq => (by assumption : News h₀ L _ _) q (by repeat (first | exact hq | apply List.Mem.tail))))
  any_goals (refine hsome (_ + 1) ?_ _ _ _ (by assumption) (fun q hq => (by assumption : News h₀ L _ _) q (by repeat (first | exact hq | apply List.Mem.tail))))
  any_goals (first | exact it_out (by omega) | exact it_name0 (by assumption) (isName_of (by assumption)) (one_is (by assumption)) (by assumption) | exact it_name1 (by assumption) (isName_of (by assumption)) (one_is (by assumption)) (by assumption) (by assumption) | exact it_name2 (by assumption) (isName_of (by assumption)) (one_is (by assumption)) (by assumption) (by assumption) | exact it_name3 (by assumption) (isName_of (by assumption)) (one_not (by assumption)) | exact it_row0 (by assumption) (isName_of (by assumption)) (eq_of_beq (by assumption)) (by assumption) | exact it_row1 (by assumption) (isName_of (by assumption)) (eq_of_beq (by assumption)) (by assumption) (one_is (by assumption)) | exact it_row2 (by assumption) (isName_of (by assumption)) (eq_of_beq (by assumption)) (by assumption) (one_not (by assumption)) | exact it_else (by assumption) (isName_of (by assumption)) (by assumption))
end
end Mine
end
section
open PySem PySem.W PyProof.Rows
set_option maxRecDepth 100000
set_option maxHeartbeats 8000000
namespace Mine
local macro_rules | `(tactic| walk_at "call builtin:len") => `(tactic| (k_here; (with_reducible show wpAny _ _ (call (Value.builtin "len") [Value.ref _]) _ _ _); k_dflt (refine' len_led ?N ?m ?S ?b ?_; (case N => k_asm); (case m => first | assumption | k_mem); (case S => assumption); (case b => omega))))
local macro_rules | `(tactic| walk_at "subscriptTail Name Name ref int") => `(tactic| (k_here; (with_reducible show wpAny _ _ (subscriptTail _ _ (Value.ref _) (Value.int _ _)) _ _ _); k_dflt (refine' at_strs ?N ?m ?S ?b ?e ?_ ?hs; (case N => k_asm); (case m => first | assumption | k_mem); (case S => assumption); (case b => omega); (case e => omega); (case hs => with_unfolding_all rfl)); intro y' t' hy'))
local macro_rules | `(tactic| walk_at "call builtin:str.lower") => `(tactic| (k_here; dsimp only; (have hlen9 := v2_len (by assumption) (by assumption : (_ : List Str)[_]? = some _)); refine SCL.lower (by omega) ?_; intro hlw))
local macro_rules | `(tactic| walk_at "call ref") => `(tactic| (k_here; (with_reducible show wpAny _ _ (call (Value.ref 118) _) _ _ _); k_dflt (first | (refine' ReadC.use (f := 118) ?C (_ + 1) ?i ?ok ?m ?Bl ?F ?X ?N ?T ?hk ?hd ?hu (fun hr9 h' tk' F' N' => ?_) (fun q9 hr9 t' h' tk' F' N' => ?_); (case C => assumption); (case i => rfl); (case ok => omega); (case Bl => k_asm); (case F => k_asm); (case X => k_asm); (case N => k_asm); (case m => first | assumption | exact .tail _ (by assumption) | exact .tail _ (.tail _ (by assumption))); (case T => k_asm); (case hk => rfl); (case hd => ktr_room); (case hu => ktr_units)) | (refine' ReadC.use (f := 118) ?C _ ?i ?ok ?m ?Bl ?F ?X ?N ?T ?hk ?hd ?hu (fun hr9 h' tk' F' N' => ?_) (fun q9 hr9 t' h' tk' F' N' => ?_); (case C => assumption); (case i => rfl); (case ok => omega); (case Bl => k_asm); (case F => k_asm); (case X => k_asm); (case N => k_asm); (case m => first | assumption | exact .tail _ (by assumption) | exact .tail _ (.tail _ (by assumption))); (case T => k_asm); (case hk => rfl); (case hd => ktr_room); (case hu => ktr_units))); (all_goals (try dsimp only))))
local macro_rules | `(tactic| walk_at "exec While BoolOp cons nil") => `(tactic| (k_here; refine Hold.intro ?_))
def rowMeas (ws : List Str) : Option Nat → Nat
  | none => 0
  | some q => ws.length - q + 1
/-- the loop's word -/
def JR (ws : List Str) (f p : Nat) (R : Option Nat) (news : List (Addr × Obj)) (m₀ : Str → Option Value) (n : Nat) (m : Str → Option Value) (nx : List (Addr × Obj)) : Prop :=
  nx = news ∧ ∃ r t, m (Str.ofString "place") = some (optV r t) ∧ (∀ z, z ≠ Str.ofString "place" → m z = m₀ z) ∧ RowR ws (itemN ws f) r R ∧ (∀ q, r = some q → p < q) ∧ n = rowMeas ws r
theorem fr_set {h₀ h : Heap} {L : Addr} {m m₀ : Str → Option Value} {x : Str} {v : Value} (F : Fr h₀ L h m) (hv : m x = some v) (hm : ∀ z, z ≠ x → m z = m₀ z) : Fr h₀ L h (fun y => if y = x then some v else m₀ y) := by
  have e : m = fun y => if y = x then some v else m₀ y := by
    funext y
    by_cases hy : y = x
    · simp [hy, hv]
    · simp only [if_neg hy]; exact hm y hy
  rw [← e]; exact F
theorem rowTurn {g h' : Heap} {L : Addr} {m m₀ : Str → Option Value} {s : Shared} {ws : List Str} {f p n9 q9 k : Nat} {R r : Option Nat} {news : List (Addr × Obj)} {t : Tok} (F : Fr g L h' m) (N : News g L h' news) (hr : itemN ws f (q9 + 1) = r) (hv : m (Str.ofString "place") = some (optV r t)) (hz : ∀ z, z ≠ Str.ofString "place" → m z = m₀ z)
    (hR : RowR ws (itemN ws f) (some q9) R) (hj : joins ws q9 = true) (hp : p < q9) (hn : n9 = rowMeas ws (some q9)) : WhileStep g L s (JR ws f p R news m₀) n9 .next { s with heap := h', toks := k } := by
  have hlt := joins_lt hj
  have hR' := hR.step_of hj
  rw [hr] at hR'
  have hq : ∀ q, r = some q → q9 + 1 < q := fun q e => itemN_gt ws f _ _ (hr.trans e)
  refine WhileStep.intro (n' := rowMeas ws r) F N ?_ ⟨rfl, r, t, hv, hz, hR', fun q e => by have := hq q e; omega, rfl⟩
  subst hn
  cases r with
  | none => exact Nat.succ_pos _
  | some q => have := hq q rfl; show ws.length - q + 1 < ws.length - q9 + 1; omega
section
variable {w : World} {mean : ExcName → Option Value} {mg mb : Str → Option Value} {ws : List Str} {vs : List Value} {n : Nat} {Lw : Addr}
theorem row_step (hS : StrsAre vs ws) (hV : ∀ w ∈ ws, w ∈ V2) (hl : ws.length ≤ 9) (f : Nat) (hf : f ≤ 9)
    (hitem : ReadC w mean mg mb ws vs n Lw 118 (2 * f + 1) (itemN ws f) (fun p => ws.length - p ≤ f)) :
    ReadC w mean mg mb ws vs n Lw 125 (2 * f + 2) (rowN ws f) (fun p => ws.length - p ≤ f) := by
  intro dp un gd cn cs a ccd cl outer A₀ base h₀ L m s Q E news p tp hp hm Bl F X N T hk hdp hun hret
  w_top off
  revert X
  k_fill
  intro X
  refine wpAny_call ?_
  k_dflt ktr_enter
  have hnone : rowN ws f p = none → ∀ h' tk', Fr h₀ L h' m → News h₀ L h' news → Q .none { s with heap := h', toks := tk' } := fun e h' tk' F' N' => by
    have := hret 0 h' tk' F' N'
    rw [e] at this
    exact this
  have hsome : ∀ q, rowN ws f p = some q → ∀ t h' tk', Fr h₀ L h' m → News h₀ L h' news → Q (.int (q : Int) t) { s with heap := h', toks := tk' } := fun q e t h' tk' F' N' => by
    have := hret t h' tk' F' N'
    rw [e] at this
    exact this
  clear hret
  k_steps
  all_goals (unfold Hold; (rename Fr _ _ _ _ => lF'); (rename News _ _ _ _ => lN'))
  · refine While_inv (JR ws f p (rowN ws f p) news _) (n₀ := 0) lF' lN' ⟨rfl, none, 0, rfl, fun _ _ => rfl, (by assumption : itemN ws f p = none) ▸ rowN_rel ws f p, (fun q hq => nomatch hq), rfl⟩ ?_
    intro n9 m9 nx9 h9 tk9 F9 N9 J9
    obtain ⟨rfl, r9, t9, hm9, hz9, hR9, hp9, hn9⟩ := J9
    clear lF' lN'
    have F9' := fr_set F9 hm9 hz9
    clear F9
    cases r9 with
    | none =>
      dsimp only [optV] at F9'
      k_steps
      exact hnone hR9.none_eq _ _ (by assumption) (by assumption)
    | some q9 =>
      dsimp only [optV] at F9'
      have hp9' := hp9 _ rfl
      k_steps
      any_goals (refine hsome _ ?_ _ _ _ (by assumption) (fun q hq => (by assumption : News h₀ L _ _) q (by repeat (first | exact hq | apply List.Mem.tail))))
      any_goals (first | exact hR9.stop_eq (joins_no (by assumption) (by assumption)) | exact hR9.stop_eq (joins_out (by omega)))
      any_goals (refine rowTurn (t := 0) (by assumption) (fun q hq => (by assumption : News _ _ _ _) q (by repeat (first | exact hq | apply List.Mem.tail))) (by assumption : itemN ws f (q9 + 1) = none) rfl (by intro z hz; simp [hz]) hR9 (joins_yes (by assumption) (by assumption)) hp9' hn9)
      any_goals (refine rowTurn (by assumption) (fun q hq => (by assumption : News _ _ _ _) q (by repeat (first | exact hq | apply List.Mem.tail))) (by assumption : itemN ws f (q9 + 1) = some _) rfl (by intro z hz; simp [hz]) hR9 (joins_yes (by assumption) (by assumption)) hp9' hn9)
  · refine While_inv (JR ws f p (rowN ws f p) news _) (n₀ := _) lF' lN' ⟨rfl, some _, _, rfl, fun _ _ => rfl, (by assumption : itemN ws f p = some _) ▸ rowN_rel ws f p, (fun q hq => by cases hq; exact itemN_gt ws f p _ (by assumption)), rfl⟩ ?_
    intro n9 m9 nx9 h9 tk9 F9 N9 J9
    obtain ⟨rfl, r9, t9, hm9, hz9, hR9, hp9, hn9⟩ := J9
    clear lF' lN'
    have F9' := fr_set F9 hm9 hz9
    clear F9
    cases r9 with
    | none =>
      dsimp only [optV] at F9'
      k_steps
      exact hnone hR9.none_eq _ _ (by assumption) (by assumption)
    | some q9 =>
      dsimp only [optV] at F9'
      have hp9' := hp9 _ rfl
      k_steps
      any_goals (refine hsome _ ?_ _ _ _ (by assumption) (fun q hq => (by assumption : News h₀ L _ _) q (by repeat (first | exact hq | apply List.Mem.tail))))
      any_goals (first | exact hR9.stop_eq (joins_no (by assumption) (by assumption)) | exact hR9.stop_eq (joins_out (by omega)))
      any_goals (refine rowTurn (t := 0) (by assumption) (fun q hq => (by assumption : News _ _ _ _) q (by repeat (first | exact hq | apply List.Mem.tail))) (by assumption : itemN ws f (q9 + 1) = none) rfl (by intro z hz; simp [hz]) hR9 (joins_yes (by assumption) (by assumption)) hp9' hn9)
      any_goals (refine rowTurn (by assumption) (fun q hq => (by assumption : News _ _ _ _) q (by repeat (first | exact hq | apply List.Mem.tail))) (by assumption : itemN ws f (q9 + 1) = some _) rfl (by intro z hz; simp [hz]) hR9 (joins_yes (by assumption) (by assumption)) hp9' hn9)
end
end Mine
end
section
open PySem PySem.W PyProof.Rows
set_option maxRecDepth 100000
set_option maxHeartbeats 8000000
namespace Mine
local macro_rules | `(tactic| walk_at "call builtin:len") => `(tactic| (k_here; (with_reducible show wpAny _ _ (call (Value.builtin "len") [Value.ref _]) _ _ _); k_dflt (refine' len_led ?N ?m ?S ?b ?_; (case N => k_asm); (case m => first | assumption | k_mem); (case S => assumption); (case b => omega))))
local macro_rules | `(tactic| walk_at "execs cons") => `(tactic| (k_here; exfalso; omega))
section
variable {w : World} {mean : ExcName → Option Value} {mg mb : Str → Option Value} {ws : List Str} {vs : List Value} {n : Nat} {Lw : Addr}
theorem item_zero (hS : StrsAre vs ws) (hl : ws.length ≤ 9) : ReadC w mean mg mb ws vs n Lw 118 1 (itemN ws 0) (fun p => ws.length - p ≤ 0) := by
  intro dp un gd cn cs a ccd cl outer A₀ base h₀ L m s Q E news p tp hp hm Bl F X N T hk hdp hun hret
  have hp' : ws.length ≤ p := by have : ws.length - p ≤ 0 := hp; omega
  w_top off
  revert X
  k_fill
  intro X
  refine wpAny_call ?_
  k_dflt ktr_enter
  k_steps
  exact hret 0 _ _ (by assumption) (by assumption)
theorem read_all (hS : StrsAre vs ws) (hV : ∀ w ∈ ws, w ∈ V2) (hl : ws.length ≤ 9) : ∀ f, f ≤ 9 → ReadC w mean mg mb ws vs n Lw 118 (2 * f + 1) (itemN ws f) (fun p => ws.length - p ≤ f)
  | 0, _ => item_zero hS hl
  | f + 1, hf => item_step hS hV hl f (by omega) (row_step hS hV hl f (by omega) (read_all hS hV hl f (by omega)))
theorem row_all (hS : StrsAre vs ws) (hV : ∀ w ∈ ws, w ∈ V2) (hl : ws.length ≤ 9) : ReadC w mean mg mb ws vs n Lw 125 20 (rowN ws 9) (fun p => ws.length - p ≤ 9) :=
  row_step hS hV hl 9 (by omega) (read_all hS hV hl 9 (by omega))
end
end Mine
end
open PySem PySem.W PyProof.Rows
set_option maxRecDepth 100000
set_option maxHeartbeats 8000000
namespace Mine
theorem words_tab (w : World) : ∃ vs n, (hd.heap_39 w.params).lookup 106 = some ⟨.type "list", none, .seq (List.toArray vs) n, #[]⟩ ∧ StrsAre vs V2 := ⟨_, _, rfl, by unfold V2; repeat constructor⟩
theorem getDin {α : Type} {l : List α} {d : α} (hd : d ∈ l) (i : Nat) : l.getD i d ∈ l := by
  rw [List.getD_eq_getElem?_getD]
  cases h : l[i]? with
  | none => exact hd
  | some x => exact List.mem_of_getElem? h
section
variable {prog : Program} {w : World} {A : Around} {E : Value → Shared → Prop} {s : Shared} {h₀ : Heap} {L : Addr} {m : Str → Option Value}
theorem words_item {value slice : Expr} {k : Int} {u : Tok} {Q : Value → Shared → Prop} (F : Fr h₀ L s.heap m) (X : (hd.heap_39 w.params).In h₀) (hk : 0 ≤ k ∧ k < 13) (h : ∀ t, Q (.str (V2.getD k.toNat (Str.ofString "mit")) t) s)
    (hs : subscripted slice false (.ref 106) (.int k u) = operate [.ref 106, .int k u] (getItem (.ref 106) (.int k u)) := by with_unfolding_all rfl) :
    wpAny (model prog w) A (subscriptTail value slice (.ref 106) (.int k u)) Q E s := by
  obtain ⟨vs, n, hl, hS⟩ := words_tab w
  have hL : s.heap.IsList 106 vs.toArray := ⟨_, F.keep _ _ (X _ _ hl), rfl, n, rfl⟩
  have hlen : V2.length = 13 := by decide
  have hy : V2[k.toNat]? = some (V2.getD k.toNat (Str.ofString "mit")) := by
    rw [List.getD_eq_getElem?_getD, List.getElem?_eq_getElem (by rw [hlen]; omega)]; rfl
  obtain ⟨t, ht⟩ := strs_get hS hy
  refine tail_any hL.typeIs slot_list_getitem.lookup (wpAny_getItem_list hL (by omega) (by omega) ?_ (h t)) hs
  simpa using ht
end
section
variable {M : Model} {A : Around} {E : Value → Shared → Prop} {s : Shared} {env : Env} {Q : Flow → Shared → Prop} {h₀ : Heap} {L : Addr} {m : Str → Option Value} {st : Stmt} {rest : List Stmt} {news : List (Addr × Obj)}
/-- behind the law's second statement -/
def EndW (h₀ : Heap) (L : Addr) (m : Str → Option Value) (news : List (Addr × Obj)) (s : Shared) (f : Flow) (s' : Shared) : Prop :=
  f = .next ∧ ∃ h tk D vs ws n, s' = { s with heap := h, toks := tk } ∧ Fr h₀ L h (fun z => if z = Str.ofString "words" then some (.ref D) else m z) ∧ News h₀ L h ((D, listOf (List.toArray vs) n) :: news) ∧ StrsAre vs ws ∧ ws.length ≤ 9 ∧ ∀ w ∈ ws, w ∈ V2
theorem cut_words (_F : Fr h₀ L s.heap m) (_N : News h₀ L s.heap news) (h1 : wpAny M A (exec st env) (EndW h₀ L m news s) E s)
    (h2 : ∀ h tk D vs ws n, Fr h₀ L h (fun z => if z = Str.ofString "words" then some (.ref D) else m z) → News h₀ L h ((D, listOf (List.toArray vs) n) :: news) → StrsAre vs ws → ws.length ≤ 9 → (∀ w ∈ ws, w ∈ V2) → wpAny M A (execs rest env) Q E { s with heap := h, toks := tk }) :
    wpAny M A (execs (st :: rest) env) Q E s := by
  refine wpAny_execs_cons (wpAny_mono h1 (fun f s' h => ?_) fun _ _ e => e)
  obtain ⟨rfl, h, tk, D, vs, ws, n, rfl, F', N', hI, hl, hb⟩ := h
  exact h2 h tk D vs ws n F' N' hI hl hb
end
section
variable {M : Model} {A : Around} {E : Value → Shared → Prop} {s : Shared} {env : Env} {Q : Flow → Shared → Prop} {h₀ : Heap} {L : Addr} {m : Str → Option Value} {st : Stmt} {rest : List Stmt} {news : List (Addr × Obj)} {ws : List Str}
/-- behind the law's fourth statement -/
def EndD (h₀ : Heap) (L : Addr) (m : Str → Option Value) (news : List (Addr × Obj)) (s : Shared) (ws : List Str) (f : Flow) (s' : Shared) : Prop :=
  f = .next ∧ ∃ h tk dv, s' = { s with heap := h, toks := tk } ∧ Fr h₀ L h (fun z => if z = Str.ofString "due" then some dv else m z) ∧ News h₀ L h news ∧ ((acc ws = true ∧ ∃ t, dv = .str (finishP (ws.map toldW)) t) ∨ (acc ws = false ∧ dv = .none))
theorem cut_due (ws : List Str) (_F : Fr h₀ L s.heap m) (_N : News h₀ L s.heap news) (h1 : wpAny M A (exec st env) (EndD h₀ L m news s ws) E s)
    (h2 : ∀ h tk dv, Fr h₀ L h (fun z => if z = Str.ofString "due" then some dv else m z) → News h₀ L h news → ((acc ws = true ∧ ∃ t, dv = .str (finishP (ws.map toldW)) t) ∨ (acc ws = false ∧ dv = .none)) → wpAny M A (execs rest env) Q E { s with heap := h, toks := tk }) :
    wpAny M A (execs (st :: rest) env) Q E s := by
  refine wpAny_execs_cons (wpAny_mono h1 (fun f s' h => ?_) fun _ _ e => e)
  obtain ⟨rfl, h, tk, dv, rfl, F', N', hd⟩ := h
  exact h2 h tk dv F' N' hd
theorem endD_no {h : Heap} {tk : Nat} {news' : List (Addr × Obj)} (F : Fr h₀ L h m) (hm : m (Str.ofString "due") = some .none) (N : News h₀ L h news') (sub : ∀ q ∈ news, q ∈ news') (ha : acc ws = false) : EndD h₀ L m news s ws .next { s with heap := h, toks := tk } :=
  ⟨rfl, h, tk, .none, rfl, fr_set F hm fun _ _ => rfl, fun q hq => N q (sub q hq), .inr ⟨ha, rfl⟩⟩
theorem acc_iff (hV : ∀ w ∈ ws, w ∈ V2) (hl : ws.length ≤ 9) : rowN ws 9 0 = some ws.length ↔ acc ws = true := row_fin hV hl
theorem acc_none (hV : ∀ w ∈ ws, w ∈ V2) (hl : ws.length ≤ 9) (h : rowN ws 9 0 = none) : acc ws = false := by
  cases ha : acc ws with
  | false => rfl
  | true => rw [(acc_iff hV hl).mpr ha] at h; cases h
theorem acc_ne (hV : ∀ w ∈ ws, w ∈ V2) (hl : ws.length ≤ 9) {q : Nat} (h : rowN ws 9 0 = some q) (hq : ¬ (q : Int) = ws.length) : acc ws = false := by
  cases ha : acc ws with
  | false => rfl
  | true => rw [(acc_iff hV hl).mpr ha] at h; cases h; exact absurd rfl hq
theorem acc_yes (hV : ∀ w ∈ ws, w ∈ V2) (hl : ws.length ≤ 9) {q : Nat} (h : rowN ws 9 0 = some q) (hq : (q : Int) = ws.length) : acc ws = true := by
  have : q = ws.length := by omega
  subst this
  exact (acc_iff hV hl).mp h
theorem acc_nil (h : ws = []) : acc ws = false := by subst h; rfl
end
theorem due_all : ∀ y ∈ V2, (Spec.lookup (PyData.str (Txt.lower y)) namesD).getD (.str (if Txt.lower y = Str.ofString "classpath-exception-2.0" then Str.ofString "Classpath-exception-2.0" else Txt.upper y)) = .str (dueW y) := by
  intro y hy
  have h1 : dueW y = (match ((Spec.lookup (PyData.str (Txt.lower y)) namesD).getD (.str (if Txt.lower y = Str.ofString "classpath-exception-2.0" then Str.ofString "Classpath-exception-2.0" else Txt.upper y))) with | .str z => z | _ => Str.empty) ∧ (match ((Spec.lookup (PyData.str (Txt.lower y)) namesD).getD (.str (if Txt.lower y = Str.ofString "classpath-exception-2.0" then Str.ofString "Classpath-exception-2.0" else Txt.upper y))) with | .str _ => true | _ => false) = true := by
    revert y
    decide +kernel
  obtain ⟨h1, h2⟩ := h1
  rw [h1]
  generalize (Spec.lookup (PyData.str (Txt.lower y)) namesD).getD _ = d at h2 ⊢
  cases d <;> first | rfl | cases h2
theorem due_val {v : Value} {y d : Str} (hV : y ∈ V2) (h : PyProof.V.Flat v ((Spec.lookup (PyData.str (Txt.lower y)) namesD).getD (.str d))) (hd : d = if Txt.lower y = Str.ofString "classpath-exception-2.0" then Str.ofString "Classpath-exception-2.0" else Txt.upper y) : ∃ t, v = .str (dueW y) t := by
  subst hd
  rw [due_all y hV] at h
  cases h { objs := #[] }
  exact ⟨_, rfl⟩
theorem due_v1 {v : Value} {y : Str} (hV : y ∈ V2) (hc : (Txt.lower y == Str.ofString "classpath-exception-2.0") = true) (h : PyProof.V.Flat v ((Spec.lookup (PyData.str (Txt.lower y)) namesD).getD (.str (Str.ofString "Classpath-exception-2.0")))) : ∃ t, v = .str (dueW y) t :=
  due_val hV h (by rw [if_pos (eq_of_beq hc)])
theorem due_v2 {v : Value} {y : Str} (hV : y ∈ V2) (hc : (Txt.lower y == Str.ofString "classpath-exception-2.0") = false) (h : PyProof.V.Flat v ((Spec.lookup (PyData.str (Txt.lower y)) namesD).getD (.str (Txt.upper y)))) : ∃ t, v = .str (dueW y) t :=
  due_val hV h (by rw [if_neg (ne_of_beqF hc)])
theorem range_due {vs : List Value} {ws : List Str} (hS : StrsAre vs ws) (hK : ∀ w ∈ ws, w ∈ K2) : (List.range vs.toArray.size).map (fun i => dueW (ws.getD i Str.empty)) = ws.map toldW := by
  rw [List.size_toArray, strs_len hS]
  apply List.ext_getElem?
  intro i
  rw [List.getElem?_map, List.getElem?_map]
  by_cases hi : i < ws.length
  · rw [List.getElem?_range hi, List.getElem?_eq_getElem hi]
    simp only [Option.map_some, List.getD_eq_getElem?_getD, List.getElem?_eq_getElem hi, Option.getD_some]
    rw [due_told _ (hK _ (List.getElem_mem hi))]
  · rw [List.getElem?_eq_none (by simpa using hi), List.getElem?_eq_none (by omega)]; rfl
theorem told_b {ws : List Str} (hK : ∀ w ∈ ws, w ∈ K2) : ∀ y ∈ ws.map toldW, y.length ≤ 64 := fun y hy => by
  obtain ⟨w, hw, rfl⟩ := List.mem_map.mp hy
  exact (by decide +kernel : ∀ w ∈ K2, (toldW w).length ≤ 64) w (hK w hw)
theorem v2_ok1 {ws : List Str} (hV : ∀ w ∈ ws, w ∈ V2) : ∀ y ∈ ws, PyData.strOk y = true := fun y hy =>
  (by decide +kernel : ∀ y ∈ V2, PyData.strOk y = true) y (hV y hy)
theorem replace_ruleL {prog : Program} {w : World} {A : Around} {E : Value → Shared → Prop} {s : Shared} {x y z : Str} {t u v : Tok} {Q : Value → Shared → Prop}
    (hu : @LT.lt Nat _ 0 u) (huv : @LT.lt Nat _ u v) (hx : x.length ≤ 10000) (hyz : (y == z) = false) (hz : z.length ≤ 100)
    (hq : ∀ (t' k : Nat), s.toks ≤ k → Q (.str (Txt.replace x y z) t') { s with toks := k }) : wpAny (model prog w) A (call (.builtin "str.replace") [.str x t, .str y u, .str z v]) Q E s :=
  wpAny_tok (SC.replace (Nat.ne_of_gt hu) (Nat.ne_of_gt (Nat.lt_trans hu huv)) (Nat.ne_of_lt huv) hyz (by
    have : (x.length + 1) * z.length ≤ 10001 * 100 := Nat.mul_le_mul (by omega) hz
    omega) fun t' k hk => hq t' k hk)
theorem told_some {y : Str} {w : World} {mean : ExcName → Option Value} {mg mb : Str → Option Value} {x : Str} {tx : Tok} 
  {dp un : Nat} {gd : Option (List Code)} {cn : Str} {cs : Scope} {a : Addr} {ccd : Value} {cl : List (Str × Addr)} {A₀ : Around} {base h₀ : Heap} {L : Addr} {m : Str → Option Value} {s : Shared} {Q E : Value → Shared → Prop} {news : List (Addr × Obj)}
  (hx : Says x (some y)) (hpos : 0 < s.toks)
  (Bl : Below A₀ base [] h₀) (F : Fr h₀ L s.heap m) (X : (hd.heap_39 w.params).In h₀) (N : News h₀ L s.heap news)
  (T : Top hd.view_39 looseL mean mg mb h₀) (XB : (hd.heap_39 w.params).In base) (TB : Top hd.view_39 looseL mean mg mb base) (hk : cs.kind = .function) (hdp : dp + 4 < recursionLimit) (hun : un + 28 < cLine)
  (hQ : ∀ (t : Tok) (h' : Heap) (tk' : Nat), 0 < tk' → Fr h₀ L h' m → News h₀ L h' news → Q (.str y t) { s with heap := h', toks := tk' }) :
  wpAny (model PySem.Challenge.rw_ez0219_02.row.prog w) (ktrTop dp un gd cn cs L a ccd cl []) (call (.ref 132) [.str x tx]) Q E s := by
  refine told w mean mg mb x tx dp un gd cn cs a ccd cl A₀ base h₀ L m s Q E news hx.tame hpos Bl F X N T XB TB hk hdp hun (fun r' hr t h' tk' hp F' N' => ?_) (fun hr h' tk' hp F' N' => ?_)
  · rw [hx.told] at hr
    cases hr
    exact hQ t h' tk' hp F' N'
  · rw [hx.told] at hr
    cases hr
theorem told_none {w : World} {mean : ExcName → Option Value} {mg mb : Str → Option Value} {x : Str} {tx : Tok} 
  {dp un : Nat} {gd : Option (List Code)} {cn : Str} {cs : Scope} {a : Addr} {ccd : Value} {cl : List (Str × Addr)} {A₀ : Around} {base h₀ : Heap} {L : Addr} {m : Str → Option Value} {s : Shared} {Q E : Value → Shared → Prop} {news : List (Addr × Obj)}
  (hx : Says x none) (hpos : 0 < s.toks)
  (Bl : Below A₀ base [] h₀) (F : Fr h₀ L s.heap m) (X : (hd.heap_39 w.params).In h₀) (N : News h₀ L s.heap news)
  (T : Top hd.view_39 looseL mean mg mb h₀) (XB : (hd.heap_39 w.params).In base) (TB : Top hd.view_39 looseL mean mg mb base) (hk : cs.kind = .function) (hdp : dp + 4 < recursionLimit) (hun : un + 28 < cLine)
  (hQ : ∀ (h' : Heap) (tk' : Nat), 0 < tk' → Fr h₀ L h' m → News h₀ L h' news → Q .none { s with heap := h', toks := tk' }) :
  wpAny (model PySem.Challenge.rw_ez0219_02.row.prog w) (ktrTop dp un gd cn cs L a ccd cl []) (call (.ref 132) [.str x tx]) Q E s := by
  refine told w mean mg mb x tx dp un gd cn cs a ccd cl A₀ base h₀ L m s Q E news hx.tame hpos Bl F X N T XB TB hk hdp hun (fun r' hr t h' tk' hp F' N' => ?_) (fun hr h' tk' hp F' N' => ?_)
  · rw [hx.told] at hr
    cases hr
  · exact hQ h' tk' hp F' N'
theorem add_tok {prog : Program} {w : World} {A : Around} {E : Value → Shared → Prop} {s : Shared} {x y : Str} {t u : Tok} {Q : Value → Shared → Prop} (hx : x.length ≤ 10000) (hy : y.length ≤ 10000)
    (h : ∀ (t' k : Nat), s.toks ≤ k → (x ++ y).length ≤ x.length + y.length → Q (.str (x ++ y) t') { s with toks := k }) : wpAny (model prog w) A (binaryOp .Add (.str x t) (.str y u)) Q E s :=
  wpAny_tok (KXadd.add hx hy (by decide) fun t' k hk ht => h t' k ht hk.2)
theorem jw_len {ws : List Str} (hV : ∀ w ∈ ws, w ∈ V2) (hl : ws.length ≤ 9) : (jw ws).length ≤ 369 := by
  have := (jw_facts okV hV).2.2
  omega
theorem fin_len {ws : List Str} (hK : ∀ w ∈ ws, w ∈ K2) (hl : ws.length ≤ 9) : (finishP (ws.map toldW)).length ≤ 369 := by
  have hT : ∀ w ∈ ws.map toldW, w ∈ T2 := fun w hw => by
    obtain ⟨v, hv, rfl⟩ := List.mem_map.mp hw
    exact List.mem_map_of_mem (hK v hv)
  have h1 := (jw_facts okT hT).2.2
  rw [List.length_map] at h1
  have := finish_len (norm := ws.map toldW)
  omega
theorem ofs_len1 : (Str.ofString "  ").length = 2 := by decide
theorem ofs_len2 : (Str.ofString " ").length = 1 := by decide
theorem ofs_len3 : (Str.ofString "(").length = 1 := by decide
theorem ofs_len4 : (Str.ofString ")").length = 1 := by decide
theorem v40 {ws : List Str} (hV : ∀ w ∈ ws, w ∈ V2) : ∀ y ∈ ws, y.length ≤ 64 := fun y hy => Nat.le_trans (okV y (hV y hy)).2.2.1 (by decide)
theorem lower_len {x : Str} (h : ∀ c ∈ chs x, c < 128) : (Txt.lower x).length = x.length := by rw [lower_ascii h]; show (Array.map _ _).size = _; rw [Array.size_map]; rfl
end Mine
open Mine
local macro_rules | `(tactic| walk_at "subscriptTail Name Name ref int") => `(tactic| (k_here; (with_reducible show wpAny _ _ (subscriptTail _ _ (Value.ref 106) (Value.int _ _)) _ _ _); k_dflt (refine' words_item ?F ?X ?k ?_ ?hs; (case F => k_asm); (case X => k_asm); (case k => assumption); (case hs => with_unfolding_all rfl)); intro t'))
local macro_rules | `(tactic| walk_at "CompSrc") => `(tactic| (k_here; (with_reducible show LCg.CompSrc _ _ _ _ _ _ _ (PySem.Expr.Subscript _ _ _) _ _ _ _ _ _); refine Hold.intro ?_))
local macro_rules | `(tactic| walk_at "exec Assign cons ListComp") => `(tactic| (k_here; (with_reducible show wpAny _ _ (exec (Stmt.Assign [PySem.Expr.Name (PySem.Str.ofString "words") _] _ _) _) _ _ _); k_dflt (refine LCg.Assign_ListComp_U (F₀ := by k_asm) (by rfl) (by with_unfolding_all rfl) (by rfl) (by decide) (by rfl) (by decide) (by rfl) (by rfl) (by rfl) ?_)))
local macro_rules | `(tactic| walk_at "CompSrc") => `(tactic| (k_here; (with_reducible show LCg.CompSrc _ _ _ _ _ _ _ (PySem.Expr.Call _ _ _ _) _ _ _ _ _ _); refine Hold.intro ?_))
local macro_rules | `(tactic| walk_at "eval ListComp") => `(tactic| (k_here; refine wpAny_tok ?_; k_dflt (refine LCg.ListComp_U (F₀ := by k_asm) (by rfl) (by decide) (by rfl) (by decide) (by rfl) ?_)))
local macro_rules | `(tactic| walk_at "compareOp NotEq ref ref") => `(tactic| (k_here; (with_reducible show wpAny _ _ (compareOp CmpOp.NotEq (Value.ref _) (Value.ref _)) _ _ _); k_dflt (refine' ne_strs ?N ?a ?b ?i ?j ?oi ?oj ?u ?_; (case N => k_asm); (case a => k_mem); (case b => k_mem); (case i => assumption); (case j => exact .nil); (case oi => exact v2_ok1 (by assumption)); (case oj => decide +kernel); (case u => ke_room))))
local macro_rules | `(tactic| walk_at "call builtin:len") => `(tactic| (k_here; (with_reducible show wpAny _ _ (call (Value.builtin "len") [Value.ref _]) _ _ _); k_dflt (refine' len_led ?N ?m ?S ?b ?_; (case N => k_asm); (case m => k_mem); (case S => assumption); (case b => omega))))
local macro_rules | `(tactic| walk_at "call ref") => `(tactic| (k_here; (with_reducible show wpAny _ _ (call (Value.ref 125) _) _ _ _); k_dflt (refine' ReadC.use (f := 125) (row_all (vs := _) (n := _) ?S ?V ?l) 0 ?i ?ok ?m ?Bl ?F ?X ?N ?T ?hk ?hd ?hu (fun hr9 h' tk' F' N' => ?_) (fun q9 hr9 t' h' tk' F' N' => ?_); (case S => assumption); (case V => assumption); (case l => omega); (case i => rfl); (case ok => omega); (case Bl => k_asm); (case F => k_asm); (case X => k_asm); (case N => k_asm); (case m => k_mem); (case T => k_asm); (case hk => rfl); (case hd => decide); (case hu => exact Nat.le_of_ble_eq_true rfl); (all_goals (try dsimp only)))))
local macro_rules | `(tactic| walk_at "call builtin:str.replace") => `(tactic| (k_here; (refine replace_ruleL (by omega) (by omega) (by omega) (by first | decide | (with_reducible rfl)) (by decide) ?_); intro t' k' hk'; (try dsimp only at hk')))
local macro_rules | `(tactic| walk_at "call builtin:str.replace") => `(tactic| (k_here; (first
  | refine replace_ruleS (by omega) (by omega) (by omega) (by decide) (by decide) (by decide) ?_
  | refine replace_rule 3 (by omega) (by omega) (by omega) (by decide) (by decide) (by decide) ?_); intro t' k' hk' hl'; (try dsimp only at hk'); (try simp only [Nat.reduceMul, Nat.reduceAdd] at hl')))
local macro_rules | `(tactic| walk_at "call builtin:str.join") => `(tactic| (k_here; (with_reducible show wpAny _ _ (call (Value.builtin "str.join") [Value.str _ _, Value.ref _]) _ _ _); k_dflt (refine' join_rule 64 ?N ?m ?S ?B ?x ?b5 ?bb ?_; (case N => k_asm); (case m => k_mem); (case S => assumption); (case B => first | assumption | exact v40 (by assumption)); (case x => decide); (case b5 => decide); (case bb => omega); k_whole); intro t' k' hk' hl'; (try dsimp only at hk')))
local macro_rules | `(tactic| walk_at "And") => `(tactic| ((with_reducible show (@LE.le Nat _ (PySem.Str.length _) sizeLine) ∧ _); (first | refine ⟨(by decide), ?_⟩)))
local macro_rules | `(tactic| walk_at "execs cons") => `(tactic| (k_here; (with_reducible refine execs_cons_tok ?_); (try dsimp only)))
local macro_rules | `(tactic| walk_at "execs cons") => `(tactic| (k_here; (with_reducible show wpAny _ _ _ _ _ (Shared.mk _ _ _ (_ + _) _)); refine gen_execs (by omega) ?_; intro tk hpos))
local macro_rules | `(tactic| k_steps) => `(tactic| repeat' (first | ((with_reducible show (@LE.le Nat _ _ _) → _); intro hTok; (try dsimp only at hTok ⊢)) | (k_unfold; (try dsimp only)) | (k_end; wrow_close) | walk1 | (dsimp only; walk1) | (leave1; walk_say "STEP leave1"; try dsimp only) | fail "no step"))
local macro_rules | `(tactic| walk_at "compareOp NotEq ref ref") => `(tactic| (k_here; (with_reducible show wpAny _ _ (compareOp CmpOp.NotEq (Value.ref _) (Value.ref _)) _ _ _); k_dflt (refine' ne_strs ?N ?a ?b ?i ?j ?oi ?oj ?u ?_; (case N => k_asm); (case a => k_mem); (case b => k_mem); (case i => assumption); (case j => exact .nil); (case oi => exact v2_ok1 (by assumption)); (case oj => decide +kernel); (case u => ke_room))))
local macro_rules | `(tactic| walk_at "binaryOp Add str str") => `(tactic| (k_here; k_dflt (refine add_tok (by first | omega | decide) (by first | omega | decide) ?_); intro t' k' hk' hl'; (try dsimp only at hk'); (try simp only [ofs_len1, ofs_len2, ofs_len3, ofs_len4] at hl')))
local macro_rules | `(tactic| walk_at "call ref") => `(tactic| (k_here; (with_reducible show wpAny _ _ (call (Value.ref 132) _) _ _ _); k_dflt (first | (refine' told_some ?hx ?hp ?Bl ?F ?X ?N ?T ?XB ?TB ?hk ?hd ?hu (fun t' h' tk' hp' F' N' => ?_); (case hx => assumption); (case hp => first | (dsimp only; omega) | omega); (case Bl => k_asm); (case F => k_asm); (case X => k_asm); (case N => k_asm); (case T => k_asm); (case XB => k_asm); (case TB => k_asm); (case hk => rfl); (case hd => decide); (case hu => exact Nat.le_of_ble_eq_true rfl)) | (refine' told_none ?hx ?hp ?Bl ?F ?X ?N ?T ?XB ?TB ?hk ?hd ?hu (fun h' tk' hp' F' N' => ?_); (case hx => assumption); (case hp => first | (dsimp only; omega) | omega); (case Bl => k_asm); (case F => k_asm); (case X => k_asm); (case N => k_asm); (case T => k_asm); (case XB => k_asm); (case TB => k_asm); (case hk => rfl); (case hd => decide); (case hu => exact Nat.le_of_ble_eq_true rfl))); (try dsimp only)))
local macro_rules | `(tactic| walk_at "execs cons") => `(tactic| (k_here; (with_reducible show wpAny _ _ (execs (Stmt.If (Expr.BoolOp BoolOp.And _ _) _ _ _ :: _) _) _ _ _); refine Hold.intro ?_))

theorem PySem.Challenge.cw_ez0219_02_holds : PySem.Challenge.rw_ez0219_02.Holds :=
  hd (by
  k_go0
  all_goals (try k_fold)
  refine cut_picks (by assumption) (by assumption) ?_ ?_
  · as_aux_lemma =>
    k_steps
    all_goals (refine ⟨rfl, _, _, _, _, _, _, rfl, by assumption, by assumption, by assumption, ?_, ?_⟩)
    all_goals (first | (rw [List.length_map, rangeKs_length]; omega) | (rw [List.length_map, rangeKs_length]; decide) | (intro k9 hk9; obtain ⟨a9, ha9, rfl⟩ := List.mem_map.mp hk9; have hr9 := mem_rangeKs ha9; have e10 : (Int.fmod 7 10 - 0).toNat ≤ 9 := (by decide); repeat' (first | refine fm13 _ | refine P13_ite ?_ ?_ | omega)))
  intro h9 tk9 D9 ys9 ns9 n9 F9 N9 I9 l9 b9
  refine cut_words (by assumption) (by assumption) ?_ ?_
  · as_aux_lemma =>
    k_steps
    unfold Hold
    k_dflt (refine LCg.CompSrc.ledger (by rfl) (by k_asm) (by k_asm) (by k_mem) ?_ ?_)
    · have := I9.length; rw [List.size_toArray, this, sizeLine_eq]; omega
    intro g9
    refine comp_strs (g := fun i => V2.getD (ns9.getD i 0).toNat (Str.ofString "mit")) ?_ ?_ ?_
    · exact Or.inr ⟨_, .head _, rfl, _, rfl⟩
    · intro i v I oI C oC D m₂ h tk E' ys hi hP hC hx F N off ne
      obtain ⟨k, t, rfl, hk⟩ := ints_at I9 (by simpa using hP)
      have hkb := b9 k (List.mem_of_getElem? hk)
      have hg : ns9.getD i 0 = k := by rw [List.getD_eq_getElem?_getD, hk]; rfl
      rw [hg]
      k_steps
      refine ⟨_, _, _, rfl, rfl, by assumption, by assumption⟩
    · intro ys hys D h tk F N o
      refine ⟨rfl, _, _, _, _, _, _, rfl, F, N, hys, ?_, ?_⟩
      · have := I9.length; rw [List.length_map, List.length_range, List.size_toArray, this]; exact l9
      · intro w hw
        obtain ⟨i, _, rfl⟩ := List.mem_map.mp hw
        exact getDin (by decide) _
  intro h10 tk10 D10 vs10 ws10 n10 F10 N10 S10 l10 V10
  k_steps
  unfold Hold
  refine cut_due ws10 (by assumption) (by assumption) ?_ ?_
  · as_aux_lemma =>
    k_steps
    all_goals (first | refine endD_no (by assumption) (by rfl) (by assumption) (fun q hq => by first | exact hq | exact .tail _ hq) (acc_nil (of_decide_eq_true (by assumption))) | refine endD_no (by assumption) (by rfl) (by assumption) (fun q hq => by first | exact hq | exact .tail _ hq) (acc_none V10 l10 (by assumption)) | refine endD_no (by assumption) (by rfl) (by assumption) (fun q hq => by first | exact hq | exact .tail _ hq) (acc_ne V10 l10 (by assumption) (by assumption)) | skip)
    have ha10 : acc ws10 = true := acc_yes V10 l10 (by assumption) (by assumption)
    unfold Hold
    k_dflt (refine LCg.CompSrc.ledger (by rfl) (by k_asm) (by k_asm) (by k_mem) ?_ ?_)
    · have := strs_len S10; rw [List.size_toArray, this, sizeLine_eq]; omega
    intro g11
    refine comp_strs (g := fun i => dueW (ws10.getD i Str.empty)) ?_ ?_ ?_
    · first | exact Or.inr ⟨_, .head _, rfl, _, rfl⟩ | exact Or.inr ⟨_, .tail _ (.head _), rfl, _, rfl⟩ | exact Or.inr ⟨_, .tail _ (.tail _ (.head _)), rfl, _, rfl⟩
    · intro i v I oI C oC D m₂ h tk E' ys hi hP hC hx F N off ne
      obtain ⟨y11, t11, rfl, hy11, hd11⟩ := strs_at S10 (by simpa using hP)
      have hg : ws10.getD i Str.empty = y11 := by rw [List.getD_eq_getElem?_getD, hy11]; rfl
      have hV11 : y11 ∈ V2 := V10 _ (List.mem_of_getElem? hy11)
      have hl11 : y11.length ≤ 40 := v2_len V10 hy11
      rw [hg]
      simp only [LCg.Off3] at off
      k_steps
      all_goals (obtain ⟨td, rfl⟩ : ∃ t, _ = Value.str (dueW y11) t := by first | exact due_v1 hV11 (by assumption) (by assumption) | exact due_v2 hV11 (by assumption) (by assumption))
      all_goals (refine ⟨_, _, _, rfl, rfl, by assumption, fun q hq => (by assumption : News _ _ _ _) q ?_⟩)
      all_goals (repeat (first | exact hq | apply List.Mem.tail))
    · intro ys hys D h tk F N o hT12
      have hK12 := acc_K2 V10 ha10
      rw [range_due S10 hK12] at hys
      have hb12 := told_b hK12
      have hn12 : (ws10.map toldW).length ≤ 9 := by rw [List.length_map]; exact l10
      have hf12 := fin_len (acc_K2 V10 ha10) l10
      k_steps
      refine ⟨rfl, _, _, _, rfl, fr_set (by assumption) (by rfl) (by intro z hz; simp only [if_neg hz]), fun q hq => (by assumption : News _ _ _ _) q ?_, .inl ⟨ha10, _, rfl⟩⟩
      repeat (first | exact hq | apply List.Mem.tail)
  intro h11 tk11 d11 F11 N11 A11
  have hj12 := jw_len V10 l10
  rcases A11 with ⟨ha10, t12, rfl⟩ | ⟨ha10, rfl⟩
  · as_aux_lemma =>
    have S1 := f1 V10 l10
    have S2 := f2 V10 l10
    have S3 := f3 V10 l10
    have S4 := f4 (acc_K2 V10 ha10) l10 ha10
    have S5 := f5 V10 l10 ha10
    have S6 := f6 V10 l10 ha10
    have S7 := f7 V10 l10 ha10
    have hf12 := fin_len (acc_K2 V10 ha10) l10
    rw [toldT_acc ha10] at S1 S2 S3
    k_steps
    refine absurd ha10 (by rw [acc_nil (of_decide_eq_true (by assumption))]; decide)
  · as_aux_lemma =>
    have hn10 : toldT ws10 = none := by unfold toldT; rw [if_neg (by rw [ha10]; decide)]
    have S1 := f1 V10 l10
    have S2 := f2 V10 l10
    have S3 := f3 V10 l10
    rw [hn10] at S1 S2 S3
    k_steps)


