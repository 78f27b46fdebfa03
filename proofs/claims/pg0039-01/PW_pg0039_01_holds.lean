import PyProof.Rows.All
import Wide.All
import OpenK.AllK
import Wide.FinOn
import PySem.Challenge.RW_pg0039_01
open PySem PySem.W PySem.Calls PyProof.Rows
set_option Elab.async false
set_option maxRecDepth 100000
set_option maxHeartbeats 8000000
namespace Mine
open_top hd for PySem.Challenge.rw_pg0039_01
end Mine
namespace Mine

/-- where a body's walk ends: what was made behind the base g, and what the caller is told -/
def BodyEnd (g : Heap) (L' : Addr) (need : List (Addr × Obj)) (Out : List (Addr × Obj) → Value → Prop) (s : Shared) (v : Value) (s' : Shared) : Prop :=
  ∃ m' news' tl h' tk', s' = { s with heap := h', toks := tk' } ∧ Fr g L' h' m' ∧ News g L' h' news' ∧ (∀ p ∈ tl, p ∈ news') ∧ (∀ p ∈ need, p ∈ news') ∧ (∀ q ∈ tl, ∀ p ∈ need, p.1 ≠ q.1) ∧ Out tl v

theorem BodyEnd.intro {g : Heap} {L' : Addr} {need news' tl : List (Addr × Obj)} {Out : List (Addr × Obj) → Value → Prop} {s : Shared} {v : Value} {m' : Str → Option Value} {h' : Heap} {tk' : Nat}
    (F : Fr g L' h' m') (N : News g L' h' news') (h1 : ∀ p ∈ tl, p ∈ news') (h2 : ∀ p ∈ need, p ∈ news') (h3 : ∀ q ∈ tl, ∀ p ∈ need, p.1 ≠ q.1) (h4 : Out tl v) :
    BodyEnd g L' need Out s v { s with heap := h', toks := tk' } := ⟨m', news', tl, h', tk', rfl, F, N, h1, h2, h3, h4⟩

section
variable {prog : Program} {w : World} {A₀ A : Around} {s : Shared} {base h₀ : Heap} {outer : List Env} {L : Addr} {m : Str → Option Value} {env : Env} {news need : List (Addr × Obj)} {K : Frag}
  {p : Program} {loose : List Str} {mean : ExcName → Option Value} {mg mb : Str → Option Value}
  {R : Result → Shared → Prop} {name qual : Str} {params : Arguments} {body : List Stmt} {scope : Scope} {dV kV doc pm cdv ct oc : Value} {an od : Option Addr} {osl : Array (Option Value)} {f : Addr} {args : Args} {binds : List (Str × Value)}
  {Out : List (Addr × Obj) → Value → Prop}

/-- the way back out of a body whose base hid what the call needs -/
theorem back_sub (N : News h₀ L s.heap news) (hneed : ∀ p ∈ need, p ∈ news)
    (lv : ∀ v s', LeaveK h₀ L m (hideAll s.heap (need.map (fun x : Addr × Obj => x.1))) R v s' → R (.ok (.ret v)) s')
    (hR : ∀ v tl h' tk', Fr h₀ L h' m → News h₀ L h' (tl ++ news) → (∀ q ∈ tl, ∀ p ∈ news, p.1 ≠ q.1) → Out tl v → R (.ok (.ret v)) { s with heap := h', toks := tk' })
    {L' : Addr} {v : Value} {s' : Shared} (hl : BodyEnd (hideAll s.heap (need.map (fun x : Addr × Obj => x.1))) L' need Out s v s') : R (.ok (.ret v)) s' := by
  have N' : News h₀ L s.heap need := fun p hp => N p (hneed p hp)
  obtain ⟨m', news', tl, h', tk', rfl, F', NN, h1, h2, h3, h4⟩ := hl
  refine lv _ _ ⟨_, m', news', F', NN, fun F₂ N₂ => ?_⟩
  refine hR _ tl h' tk' F₂ (fun q hq => ?_) (fun q hq r hr => ?_) h4
  · rcases List.mem_append.mp hq with hq | hq
    · exact N₂ q (h1 q hq)
    · refine ⟨?_, (N q hq).2⟩
      by_cases hb : q.1 ∈ need.map (·.1)
      · obtain ⟨r, hr, e⟩ := List.mem_map.mp hb
        have e1 := (N q hq).1
        have e2 := (N' r hr).1
        have : r = q := by
          have : r.2 = q.2 := by
            have h : s.heap.get? r.1 = s.heap.get? q.1 := by rw [e]
            rw [e1, e2] at h; exact Option.some.inj h
          exact Prod.ext e this
        subst this
        exact (N₂ r (h2 r hr)).1
      · exact F'.keep _ _ (hideAll_get _ (N q hq).1 hb)
  · intro e
    by_cases hb : r.1 ∈ need.map (·.1)
    · obtain ⟨r', hr', e'⟩ := List.mem_map.mp hb
      exact h3 q hq r' hr' (e'.trans e)
    · have e1 := hideAll_get _ (N r hr).1 hb
      rw [e] at e1
      rw [(NN q (h1 q hq)).2.2] at e1
      cases e1

theorem code_sub (B : Below A₀ base outer h₀) (F : Fr h₀ L s.heap m) (X₀ : K.In h₀) (N : News h₀ L s.heap news) (T : Top p loose mean mg mb h₀) (hA : A.frames = some (env :: outer)) (hf : env.frame = some L) (hke : env.scope.kind = .function)
    (ho : K.lookup f = some ⟨oc, od, .func (fnOf name qual params body scope dV kV doc pm an cdv ct), osl⟩) (hcd : codeIn K cdv qual = true) (hroom : A.depth < recursionLimit)
    (hbind : BindsTo s (fnOf name qual params body scope dV kV doc pm an cdv ct) args binds) (hloc : ∀ y ∈ binds, scope.names.lookup y.1 = some .local)
    (hneed : ∀ p ∈ need, p ∈ news)
    (h : ∀ g L' h₁, Fr h₀ L g m → Fr g L' h₁ (fun y => binds.reverse.lookup y) → News g L' h₁ need → Below A base (env :: outer) g → K.In g → Top p loose mean mg mb g → (∀ q ∈ need, q.1 < L') →
      (∀ b o, s.heap.get? b = some o → b ∉ need.map (·.1) → g.get? b = some o) →
      wpAny (model prog w) (A.deeper (envOf qual scope L' f cdv)) (execs body (envOf qual scope L' f cdv))
        (fun fl s' => BodyEnd g L' need Out s (match fl with | .ret v => v | _ => .none) s') (fun _ _ => False)
        { s with heap := h₁, toks := s.toks + binds.length })
    (hR : ∀ v tl h' tk', Fr h₀ L h' m → News h₀ L h' (tl ++ news) → (∀ q ∈ tl, ∀ p ∈ news, p.1 ≠ q.1) → Out tl v → R (.ok (.ret v)) { s with heap := h', toks := tk' })
    (hco : scope.isCoroutine = false) (hgen : scope.isGenerator = false) (hk : scope.kind = .function)
    (hcell : ∀ x ∈ scope.names, x.2 ≠ .cell) : codeAny (model prog w) A (.call (.ref f) args) R s := by
  have N' : News h₀ L s.heap need := fun p hp => N p (hneed p hp)
  obtain ⟨FG, BG, st, lv⟩ := groundX (R := R) B F N' hA hf hke
  have X := X₀.keeps F.keep
  refine codeAny_call_def (fd := fnOf name qual params body scope dV kV doc pm an cdv ct) (body := body) (binds := binds) hroom (X _ _ ho) rfl (T.nolimit.keeps F.keep) (codeRec_of X hcd) rfl hbind hcell hloc (fun h₁ hns hk₁ => ?_) hco hgen hk
  refine wpAny_mono (h (hideAll s.heap (need.map (fun x : Addr × Obj => x.1))) s.heap.objs.size h₁ FG ⟨hns, fun b o e => hk₁ b o (of_hideAll _ e), Nat.le_of_eq (hideAll_size _ _)⟩
    (fun p hp => ⟨hk₁ _ _ (N' p hp).1, Nat.ne_of_lt (Heap.lt_size (N' p hp).1), hideAll_none _ (List.mem_map_of_mem hp)⟩) BG (X₀.keeps st) (T.keeps st) (fun p hp => Heap.lt_size (N' p hp).1)
    (fun b o e hb => hideAll_get _ e hb)) (fun fl s' hl => ?_) (fun _ _ y => y.elim)
  exact back_sub N hneed lv hR hl
end

section
variable {prog : Program} {w : World} {A₀ A : Around} {s : Shared} {base h₀ : Heap} {outer : List Env} {L : Addr} {m : Str → Option Value} {env : Env} {news need : List (Addr × Obj)} {K : Frag}
  {p : Program} {loose : List Str} {mean : ExcName → Option Value} {mg mb : Str → Option Value}
  {R : Result → Shared → Prop} {name qual : Str} {params : Arguments} {body : List Stmt} {scope : Scope} {dV kV doc pm cdv ct oc : Value} {an od : Option Addr} {osl : Array (Option Value)} {f : Addr} {args : Args} {binds : List (Str × Value)}
  {Out : List (Addr × Obj) → Value → Prop}

theorem code_subC (B : Below A₀ base outer h₀) (F : Fr h₀ L s.heap m) (X₀ : K.In h₀) (N : News h₀ L s.heap news) (T : Top p loose mean mg mb h₀) (hA : A.frames = some (env :: outer)) (hf : env.frame = some L) (hke : env.scope.kind = .function)
    (ho : K.lookup f = some ⟨oc, od, .func (fnOf name qual params body scope dV kV doc pm an cdv ct), osl⟩) (hcd : codeIn K cdv qual = true) (hroom : A.depth < recursionLimit)
    (hbind : BindsTo s (fnOf name qual params body scope dV kV doc pm an cdv ct) args binds) (hkind : (binds.all fun y => scope.names.lookup y.1 == some .local || scope.names.lookup y.1 == some .cell) = true)
    (hnd : ((cellsFrom 0 scope.names []).map (·.1)).Nodup)
    (hneed : ∀ p ∈ need, p ∈ news)
    (h : ∀ g L' h₁ tk cells, Fr h₀ L g m → Fr g L' h₁ (bindL (envOfC qual scope L' f cdv).kindOf binds fun _ => none) → News g L' h₁ (cells ++ need) →
      CellsAre (bindC (envOfC qual scope L' f cdv).kindOf binds fun _ => none) (cellsFrom (L' + 1) scope.names []) cells → Below A base (env :: outer) g → K.In g → Top p loose mean mg mb g → (∀ p ∈ need, p.1 < L') →
      g.objs.size ≤ L' → (∀ b o, s.heap.get? b = some o → b ∉ need.map (·.1) → g.get? b = some o) →
      wpAny (model prog w) (A.deeper (envOfC qual scope L' f cdv)) (execs body (envOfC qual scope L' f cdv))
        (fun fl s' => BodyEnd g L' need Out s (match fl with | .ret v => v | _ => .none) s') (fun _ _ => False)
        { s with heap := h₁, toks := tk })
    (hR : ∀ v tl h' tk', Fr h₀ L h' m → News h₀ L h' (tl ++ news) → (∀ q ∈ tl, ∀ p ∈ news, p.1 ≠ q.1) → Out tl v → R (.ok (.ret v)) { s with heap := h', toks := tk' })
    (hco : scope.isCoroutine = false) (hgen : scope.isGenerator = false) (hk : scope.kind = .function) : codeAny (model prog w) A (.call (.ref f) args) R s := by
  have N₀ : News h₀ L s.heap need := fun p hp => N p (hneed p hp)
  obtain ⟨FG, BG, st, lv⟩ := groundX (R := R) B F N₀ hA hf hke
  have X := X₀.keeps F.keep
  have hlim := T.nolimit
  refine codeAny_call_function hroom (X _ _ ho) rfl hco hgen rfl (codeRec_of X hcd) (hbind _ _ _ _ ?_)
  refine wpAny_newFunctionEnv_cells hk (kindsX hkind _) fun env' he s' x => ?_
  subst he
  refine ⟨(hlim.keeps F.keep).keeps x.toInCall.keep, codeAny_func ?_⟩
  obtain ⟨h₁, tk, rfl, _⟩ := x.done
  have hk₁ := x.toInCall.keep
  obtain ⟨cells, NC, Y⟩ := Cl.news (h₀ := s.heap) (Nat.le_refl _) fun n c hm => ⟨x.cell n c (lookup_of_mem_nodup (cellsFrom_names scope.names 0 (s.heap.objs.size + 1) [] [] rfl ▸ hnd) hm), x.above n c hm⟩
  refine wpAny_mono (h (hideAll s.heap (need.map (fun x : Addr × Obj => x.1))) s.heap.objs.size h₁ tk cells FG ⟨x.toInCall.ns, fun b o e => hk₁ b o (of_hideAll _ e), Nat.le_of_eq (hideAll_size _ _)⟩ (fun p hp => ?_) Y BG (X₀.keeps st) (T.keeps st) (fun p hp => Heap.lt_size (N₀ p hp).1)
    (Nat.le_of_eq (hideAll_size _ _)) (fun b o e hb => hideAll_get _ e hb)) (fun fl s' hl => back_sub N hneed lv hR hl) fun _ _ y => y.elim
  rcases List.mem_append.mp hp with hp | hp
  · refine ⟨(NC p hp).1, (NC p hp).2.1, ?_⟩
    cases q : (hideAll s.heap (need.map (fun x : Addr × Obj => x.1))).get? p.1 with
    | none => rfl
    | some o => have := of_hideAll _ q; rw [(NC p hp).2.2] at this; cases this
  · exact ⟨hk₁ _ _ (N₀ p hp).1, Nat.ne_of_lt (Heap.lt_size (N₀ p hp).1), hideAll_none _ (List.mem_map_of_mem hp)⟩
end

/-- a def's contract: the objects that it needs, its arguments, what it makes and hands back -/
def Says (w : World) (mean : ExcName → Option Value) (mg mb : Str → Option Value) (lv : Nat) (f : Addr) (need : List (Addr × Obj)) (vs : List Value) (Out : List (Addr × Obj) → Value → Prop) : Prop :=
  ∀ (dp un : Nat) (gd : Option (List Code)) (cn : Str) (cs : Scope) (a : Addr) (ccd : Value) (cl : List (Str × Addr)) (outer : List Env) (A₀ : Around) (base h₀ : Heap) (L : Addr) (m : Str → Option Value) (news : List (Addr × Obj)) (s : Shared) (Q E : Value → Shared → Prop),
    Below A₀ base outer h₀ → Fr h₀ L s.heap m → (Mine.hd.heap_39 w.params).In h₀ → News h₀ L s.heap news → Top Mine.hd.view_39 (looseW Mine.hd.view_39 []) mean mg mb h₀ → cs.kind = .function →
    (∀ p ∈ need, p ∈ news) → dp + lv < recursionLimit → un + 20 * lv < cLine →
    (∀ r tl h' tk', Fr h₀ L h' m → News h₀ L h' (tl ++ news) → (∀ q ∈ tl, ∀ p ∈ news, p.1 ≠ q.1) → Out tl r → Q r { s with heap := h', toks := tk' }) →
    wpAny (model PySem.Challenge.rw_pg0039_01.row.prog w) (ktrTop dp un gd cn cs L a ccd cl outer) (call (.ref f) vs) Q E s

theorem Says.use {w : World} {mean : ExcName → Option Value} {mg mb : Str → Option Value} {lv : Nat} {f : Addr} {need : List (Addr × Obj)} {vs : List Value} {Out : List (Addr × Obj) → Value → Prop}
    {dp un : Nat} {gd : Option (List Code)} {cn : Str} {cs : Scope} {a : Addr} {ccd : Value} {cl : List (Str × Addr)} {outer : List Env} {A₀ : Around} {base h₀ : Heap} {L : Addr} {m : Str → Option Value} {news : List (Addr × Obj)} {s : Shared} {Q E : Value → Shared → Prop}
    (C : Says w mean mg mb lv f need vs Out)
    (B : Below A₀ base outer h₀) (F : Fr h₀ L s.heap m) (X : (Mine.hd.heap_39 w.params).In h₀) (N : News h₀ L s.heap news) (T : Top Mine.hd.view_39 (looseW Mine.hd.view_39 []) mean mg mb h₀) (hk : cs.kind = .function)
    (hneed : ∀ p ∈ need, p ∈ news) (hd : dp + lv < recursionLimit) (hu : un + 20 * lv < cLine)
    (ret : ∀ r tl h' tk', Fr h₀ L h' m → News h₀ L h' (tl ++ news) → (∀ q ∈ tl, ∀ p ∈ news, p.1 ≠ q.1) → Out tl r → Q r { s with heap := h', toks := tk' }) :
    wpAny (model PySem.Challenge.rw_pg0039_01.row.prog w) (ktrTop dp un gd cn cs L a ccd cl outer) (call (.ref f) vs) Q E s :=
  C _ _ _ _ _ _ _ _ _ _ _ _ _ _ _ _ _ _ B F X N T hk hneed hd hu ret

theorem need0 {news : List (Addr × Obj)} : ∀ p ∈ ([] : List (Addr × Obj)), p ∈ news := fun _ h => nomatch h
theorem need1 {news : List (Addr × Obj)} {x : Addr × Obj} (h : x ∈ news) : ∀ p ∈ [x], p ∈ news := by
  intro p hp; rw [List.mem_singleton.mp hp]; exact h
theorem need2 {news : List (Addr × Obj)} {x y : Addr × Obj} (h : x ∈ news) (h' : y ∈ news) : ∀ p ∈ [x, y], p ∈ news := by
  intro p hp
  rcases List.mem_cons.mp hp with rfl | hp
  · exact h
  · exact need1 h' p hp
theorem need3 {news : List (Addr × Obj)} {x y z : Addr × Obj} (h : x ∈ news) (h' : y ∈ news) (h'' : z ∈ news) : ∀ p ∈ [x, y, z], p ∈ news := by
  intro p hp
  rcases List.mem_cons.mp hp with rfl | hp
  · exact h
  · exact need2 h' h'' p hp

theorem ne_lt {d a : Addr} {o : Obj} {l : List (Addr × Obj)} (h : AllLt d l) (hm : (a, o) ∈ l) : @Ne Nat a d := Nat.ne_of_lt (ktn_ltOf h _ hm)
theorem ne_gt {d a : Addr} {o : Obj} {l : List (Addr × Obj)} (h : AllLt d l) (hm : (a, o) ∈ l) : @Ne Nat d a := Nat.ne_of_gt (ktn_ltOf h _ hm)
theorem ne_lt2 {d x a : Nat} {o : Obj} {l : List (Addr × Obj)} (h2 : d < x) (h : AllLt d l) (hm : (a, o) ∈ l) : @Ne Nat a x := Nat.ne_of_lt (Nat.lt_trans (ktn_ltOf h _ hm) h2)
theorem ne_gt2 {d x a : Nat} {o : Obj} {l : List (Addr × Obj)} (h2 : d < x) (h : AllLt d l) (hm : (a, o) ∈ l) : @Ne Nat x a := Nat.ne_of_gt (Nat.lt_trans (ktn_ltOf h _ hm) h2)
theorem ne_offI {I C D a : Addr} {o : Obj} {l : List (Addr × Obj)} (h : LCg.Off3 I C D l) (hm : (a, o) ∈ l) : @Ne Nat a I := (h.mem _ hm).1
theorem ne_offC {I C D a : Addr} {o : Obj} {l : List (Addr × Obj)} (h : LCg.Off3 I C D l) (hm : (a, o) ∈ l) : @Ne Nat a C := (h.mem _ hm).2.1
theorem ne_offD {I C D a : Addr} {o : Obj} {l : List (Addr × Obj)} (h : LCg.Off3 I C D l) (hm : (a, o) ∈ l) : @Ne Nat a D := (h.mem _ hm).2.2
theorem ne_off1 {D a : Addr} {o : Obj} : ∀ {l : List (Addr × Obj)}, LCg.Off1 D l → (a, o) ∈ l → @Ne Nat a D
  | _ :: _, h, .head _ => h.1
  | _ :: _, h, .tail _ m => ne_off1 h.2 m
structure Ne3 (I C D : Nat) : Prop where
  h : I ≠ C ∧ I ≠ D ∧ C ≠ D

/-- a mark at which the walk rests -/
def Halt (P : Prop) : Prop := P
theorem Halt.on {P : Prop} (h : Halt P) : P := h
end Mine
namespace Mine

/-- the letters of a number, the last first; acc stands behind -/
def apL (n : Nat) (acc : List UInt8) : List UInt8 :=
  if h : n = 0 then acc else apL (n / 16) (UInt8.ofNat (65 + n % 16) :: acc)
termination_by n
decreasing_by omega

theorem apL_zero (acc : List UInt8) : apL 0 acc = acc := by rw [apL]; simp
theorem apL_pos (n : Nat) (acc : List UInt8) (h : n ≠ 0) : apL n acc = apL (n / 16) (UInt8.ofNat (65 + n % 16) :: acc) := by rw [apL]; simp [h]

abbrev APb : Array UInt8 := #[65, 66, 67, 68, 69, 70, 71, 72, 73, 74, 75, 76, 77, 78, 79, 80]

theorem ap_cut (m : Nat) (h : m < 16) : KBy.whole APb (some (m : Int)) (some ((m : Int) + 1)) = false ∧ KBy.picked APb (some (m : Int)) (some ((m : Int) + 1)) = #[UInt8.ofNat (65 + m)] := by
  have : ∀ m : Fin 16, KBy.whole APb (some ((m.1 : Nat) : Int)) (some (((m.1 : Nat) : Int) + 1)) = false ∧ KBy.picked APb (some ((m.1 : Nat) : Int)) (some (((m.1 : Nat) : Int) + 1)) = #[UInt8.ofNat (65 + m.1)] := by decide +kernel
  exact this ⟨m, h⟩
theorem ap_cutI (m : Int) (h0 : 0 ≤ m) (h : m < 16) : KBy.whole APb (some m) (some (m + 1)) = false ∧ KBy.picked APb (some m) (some (m + 1)) = #[UInt8.ofNat (65 + m.toNat)] := by
  obtain ⟨k, rfl⟩ := Int.eq_ofNat_of_zero_le h0
  exact ap_cut k (by omega)

theorem slice_ap {prog : Program} {w : World} {A : Around} {E : Value → Shared → Prop} {s : Shared} {h₀ : Heap} {L : Addr} {m : Str → Option Value} {news : List (Addr × Obj)} {value slice : Expr} {t t1 t2 : Tok} {i : Int} {Q : Value → Shared → Prop}
    (hF : Fr h₀ L s.heap m) (hN : News h₀ L s.heap news) (h0 : 0 ≤ i) (h1 : i < 16)
    (h : ∀ h' t' k, Fr h₀ L h' m → News h₀ L h' news → Q (.bytes #[UInt8.ofNat (65 + i.toNat)] t') { s with heap := h', toks := k })
    (hs : subscripted slice false (.bytes APb t) (.ref s.heap.objs.size) = operate [.ref s.heap.objs.size, .bytes APb t] (getItem (.bytes APb t) (.ref s.heap.objs.size)) := by with_unfolding_all rfl)
    (ht : ∀ r, letTemporaryGo value (.bytes APb t) r = pure () := by intro _; with_unfolding_all rfl) :
    wpAny (model prog w) A (subscriptTail value slice (.bytes APb t) (.ref s.heap.objs.size)) Q E { s with heap := s.heap.push { cls := .type "slice", data := .fields #[.int i t1, .int (i + 1) t2, .none] } } := by
  obtain ⟨e1, e2⟩ := ap_cutI i h0 h1
  refine KBy.slice_N hF hN (.int i t1) (.int (i + 1) t2) e1 (by rw [e2]; show 1 ≤ 16777216; decide) (fun h' t' k F' N' => ?_) hs ht
  rw [e2]
  exact h h' t' k F' N'

theorem ap_start (n : Int) : 0 ≤ (if n < 0 then -n else n) ∧ (if n < 0 then -n else n) + (((#[] : Array UInt8).size : Nat) : Int) ≤ n.natAbs ∧ apL (if n < 0 then -n else n).toNat (#[] : Array UInt8).toList = apL n.natAbs [] := by
  have : (if n < 0 then -n else n) = (n.natAbs : Int) := by split <;> omega
  rw [this]
  refine ⟨by omega, by simp, ?_⟩
  rw [Int.toNat_natCast]

theorem ap_turn {n num : Int} {val : Array UInt8} (h0 : 0 ≤ num) (h1 : num + val.size ≤ n.natAbs) (h2 : apL num.toNat val.toList = apL n.natAbs []) (h3 : num ≠ 0) :
    0 ≤ num.fdiv 16 ∧ num.fdiv 16 + ((#[UInt8.ofNat (65 + (num.fmod 16).toNat)] ++ val).size : Nat) ≤ n.natAbs ∧ apL (num.fdiv 16).toNat (#[UInt8.ofNat (65 + (num.fmod 16).toNat)] ++ val).toList = apL n.natAbs [] := by
  obtain ⟨k, rfl⟩ := Int.eq_ofNat_of_zero_le h0
  have e1 : (k : Int).fdiv 16 = ((k / 16 : Nat) : Int) := by
    rw [Int.fdiv_eq_ediv_of_nonneg _ (by decide)]; rfl
  have e2 : (k : Int).fmod 16 = ((k % 16 : Nat) : Int) := by
    rw [Int.fmod_eq_emod_of_nonneg _ (by decide)]; rfl
  have hk : k ≠ 0 := by intro e; apply h3; rw [e]; rfl
  rw [e1, e2]
  simp only [Int.toNat_natCast] at *
  refine ⟨by omega, ?_, ?_⟩
  · simp only [Array.size_append, List.size_toArray, List.length_cons, List.length_nil]
    omega
  · rw [← h2, apL_pos k _ hk]
    simp
theorem ap_less {num : Int} (h0 : 0 ≤ num) (h3 : num ≠ 0) : (num.fdiv 16).toNat < num.toNat := by
  rw [Int.fdiv_eq_ediv_of_nonneg _ (by decide)]
  omega
theorem ap_fmod {num : Int} : 0 ≤ num.fmod 16 ∧ num.fmod 16 < 16 := by
  rw [Int.fmod_eq_emod_of_nonneg _ (by decide)]
  omega

theorem ap_out {n num : Int} {val : Array UInt8} {tk : Tok} (h2 : apL num.toNat val.toList = apL n.natAbs []) (h3 : num = 0) : ([] : List (Addr × Obj)) = [] ∧ ∃ t', Value.bytes val tk = .bytes (apL n.natAbs []).toArray t' := by
  subst h3
  rw [← h2]
  refine ⟨rfl, tk, ?_⟩
  show _ = Value.bytes (apL 0 val.toList).toArray tk
  rw [apL_zero]

theorem int2ap (w : World) (mean : ExcName → Option Value) (mg mb : Str → Option Value) (n : Int) (t : Tok) (hn : n.natAbs < 16777216) :
    Says w mean mg mb 1 56 [] [.int n t] (fun tl r => tl = [] ∧ ∃ t', r = .bytes (apL n.natAbs []).toArray t') := by
  unfold Says
  k_fill
  intro dp un gd cn cs a ccd cl outer A₀ base h₀ L m news s Q E B F X N T hk hneed hd hu hret
  w_on
  k_with_none
  refine wpAny_call ?_
  k_dflt (refine' code_sub ?k1 ?k2 ?k3 ?k4 ?k5 ?kA ?kF ?kK ?k6 ?k7 ?k8 ?k9 ?kB ?kn ?_ ?kR ?c2 ?c3 ?c4 ?c5; (case kA => exact rfl); (case kF => exact rfl); (case kK => assumption); (case k1 => k_asm); (case k2 => k_asm); (case k3 => k_asm); (case k4 => k_asm); (case k5 => k_asm); (case k6 => k_is); (case k7 => k_is); (case k8 => ktr_room); (case k9 => exact BindsTo.of_eq rfl); (case c5 => decide); (case kB => exact locs rfl); (case c2 => exact rfl); (case c3 => exact rfl); (case c4 => exact rfl); (case kn => assumption); (case kR => assumption); k_whole; intro g' L' h' FG' F' N' B' X' T' hLt' hOth'; (try dsimp only); (try k_lift B'); (try k_fold))
  k_with "state" => exact ap_start _
  k_with "state" => exact ap_turn (by assumption) (by assumption) (by assumption) (by assumption)
  k_with "measure" => exact ap_less (by assumption) (by assumption)
  (k_with "exec While Name cons nil" => k_while (fun _ num val => 0 ≤ num ∧ num + val.size ≤ n.natAbs ∧ apL num.toNat val.toList = apL n.natAbs []) (fun _ num val => num.toNat) "num" "val")
  (k_with "subscriptTail Name Slice bytes ref" => (k_here; (with_reducible rename Fr _ _ _ _ => F'); (with_reducible rename News _ _ _ _ => N'); (refine slice_ap (s := ⟨_, _, _, _, _⟩) F' N' (ap_fmod.1) (ap_fmod.2) ?_); intro _ _ _ _ _))
  k_steps
  all_goals (try dsimp only)
  k_steps
  exact BodyEnd.intro (tl := []) (by k_asm) (by k_asm) (fun _ h => nomatch h) (fun _ h => nomatch h) (fun _ h => nomatch h) (ap_out (by assumption) (by assumption))
end Mine
namespace Mine

/-- six letters of a number -/
def row6 (n : Nat) : List UInt8 := [UInt8.ofNat (65 + n / 1048576 % 16), UInt8.ofNat (65 + n / 65536 % 16), UInt8.ofNat (65 + n / 4096 % 16), UInt8.ofNat (65 + n / 256 % 16), UInt8.ofNat (65 + n / 16 % 16), UInt8.ofNat (65 + n % 16)]

theorem dig0 {a : Nat} (h : a % 16 = 0) : UInt8.ofNat (65 + a % 16) = 65 := by rw [h]; rfl
theorem ap_fill (n : Nat) (h : n < 16777216) : (apL n []).length ≤ 6 ∧ List.replicate (6 - (apL n []).length) 65 ++ apL n [] = row6 n := by
  have d1 : n / 16 / 16 = n / 256 := by omega
  have d2 : n / 16 / 16 / 16 = n / 4096 := by omega
  have d3 : n / 16 / 16 / 16 / 16 = n / 65536 := by omega
  have d4 : n / 16 / 16 / 16 / 16 / 16 = n / 1048576 := by omega
  have d5 : n / 16 / 16 / 16 / 16 / 16 / 16 = 0 := by omega
  unfold row6
  by_cases h0 : n = 0
  · subst h0; rw [apL_zero]; exact ⟨by decide, by decide⟩
  rw [apL_pos n _ h0]
  by_cases h1 : n / 16 = 0
  · rw [h1, apL_zero, dig0 (a := n / 1048576) (by omega), dig0 (a := n / 65536) (by omega), dig0 (a := n / 4096) (by omega), dig0 (a := n / 256) (by omega), dig0 (a := 0) (by omega)]
    exact ⟨by simp, by simp [List.replicate_succ]⟩
  rw [apL_pos _ _ h1]
  by_cases h2 : n / 16 / 16 = 0
  · rw [h2, apL_zero, dig0 (a := n / 1048576) (by omega), dig0 (a := n / 65536) (by omega), dig0 (a := n / 4096) (by omega), dig0 (a := n / 256) (by omega)]
    exact ⟨by simp, by simp [List.replicate_succ]⟩
  rw [apL_pos _ _ h2]
  by_cases h3 : n / 16 / 16 / 16 = 0
  · rw [h3, apL_zero, dig0 (a := n / 1048576) (by omega), dig0 (a := n / 65536) (by omega), dig0 (a := n / 4096) (by omega), d1]
    exact ⟨by simp, by simp [List.replicate_succ]⟩
  rw [apL_pos _ _ h3]
  by_cases h4 : n / 16 / 16 / 16 / 16 = 0
  · rw [h4, apL_zero, dig0 (a := n / 1048576) (by omega), dig0 (a := n / 65536) (by omega), d2, d1]
    exact ⟨by simp, by simp [List.replicate_succ]⟩
  rw [apL_pos _ _ h4]
  by_cases h5 : n / 16 / 16 / 16 / 16 / 16 = 0
  · rw [h5, apL_zero, dig0 (a := n / 1048576) (by omega), d3, d2, d1]
    exact ⟨by simp, by simp [List.replicate_succ]⟩
  rw [apL_pos _ _ h5, d5, apL_zero, d4, d3, d2, d1]
  exact ⟨by simp, by simp [List.replicate_succ]⟩
theorem pad_flat (k : Nat) : (List.replicate k [(65 : UInt8)]).flatten = List.replicate k 65 := by
  induction k with
  | zero => rfl
  | succ k ih => rw [List.replicate_succ, List.flatten_cons, ih, List.replicate_succ]; rfl
theorem pad_size {x : List UInt8} {k : Int} (hk : k = 6 - (x.toArray.size : Int)) (h : x.toArray.size ≤ 6) : (List.replicate k.toNat [(65 : UInt8)]).flatten.toArray.size + x.toArray.size ≤ 16777216 := by
  rw [pad_flat]
  simp only [List.size_toArray, List.length_replicate] at *
  omega
theorem pad_out {n : Nat} {tk : Tok} (h : n < 16777216) :
    ([] : List (Addr × Obj)) = [] ∧ ∃ t', Value.bytes ((List.replicate ((6 : Int) - ((apL n []).toArray.size : Int)).toNat [(65 : UInt8)]).flatten.toArray ++ (apL n []).toArray) tk = .bytes (row6 n).toArray t' := by
  refine ⟨rfl, tk, ?_⟩
  obtain ⟨h1, h2⟩ := ap_fill n h
  rw [← h2, pad_flat]
  have e : ((6 : Int) - ((apL n []).toArray.size : Int)).toNat = 6 - (apL n []).length := by
    simp only [List.size_toArray]; omega
  rw [e]
  simp

theorem filled (w : World) (mean : ExcName → Option Value) (mg mb : Str → Option Value) (n : Int) (t : Tok) (hn : n.natAbs < 16777216) :
    Says w mean mg mb 2 63 [] [.int n t] (fun tl r => tl = [] ∧ ∃ t', r = .bytes (row6 n.natAbs).toArray t') := by
  have hsz : (apL n.natAbs []).toArray.size ≤ 6 := by simpa using (ap_fill n.natAbs hn).1
  unfold Says
  k_fill
  intro dp un gd cn cs a ccd cl outer A₀ base h₀ L m news s Q E B F X N T hk hneed hd hu hret
  w_on
  k_with_none
  refine wpAny_call ?_
  k_dflt (refine' code_sub ?k1 ?k2 ?k3 ?k4 ?k5 ?kA ?kF ?kK ?k6 ?k7 ?k8 ?k9 ?kB ?kn ?_ ?kR ?c2 ?c3 ?c4 ?c5; (case kA => exact rfl); (case kF => exact rfl); (case kK => assumption); (case k1 => k_asm); (case k2 => k_asm); (case k3 => k_asm); (case k4 => k_asm); (case k5 => k_asm); (case k6 => k_is); (case k7 => k_is); (case k8 => ktr_room); (case k9 => exact BindsTo.of_eq rfl); (case c5 => decide); (case kB => exact locs rfl); (case c2 => exact rfl); (case c3 => exact rfl); (case c4 => exact rfl); (case kn => assumption); (case kR => assumption); k_whole; intro g' L' h' FG' F' N' B' X' T' hLt' hOth'; (try dsimp only); (try k_lift B'); (try k_fold))
  (k_with "call ref" => (k_here; (with_reducible show wpAny _ _ (call (Value.ref 56) _) _ _ _); k_dflt ((refine' Says.use (int2ap _ _ _ _ _ _ hn) ?k1 ?k2 ?k3 ?k4 ?k5 ?kK ?kn ?kd ?ku ?_; (case k1 => k_asm); (case k2 => k_asm); (case k3 => k_asm); (case k4 => k_asm); (case k5 => k_asm); (case kK => first | exact rfl | assumption); (case kn => (first | exact need0 | exact need1 (by k_mem) | exact need2 (by k_mem) (by k_mem) | exact need3 (by k_mem) (by k_mem) (by k_mem))); (case kd => ktr_room); (case ku => ktr_units); intro r9 tl9 h9 tk9 F9 N9 hl9 ho9); obtain ⟨rfl, t9, rfl⟩ := ho9; simp only [List.nil_append] at N9; clear hl9; (try dsimp only); (try k_fold))))
  (k_with "call builtin:len" => (k_here; refine len_bytes (by omega) ?_))
  (k_with "binaryOp Add bytes bytes" => (k_here; refine KBy.add_bytes (pad_size rfl hsz) ?_; intro _ _))
  k_steps
  exact BodyEnd.intro (tl := []) (by k_asm) (by k_asm) (fun _ h => nomatch h) (fun _ h => nomatch h) (fun _ h => nomatch h) (pad_out hn)
end Mine
namespace Mine

open PyProof.V in
def IsTab (w : World) (a : Addr) (o : Obj) (D : List (PyData × PyData)) : Prop :=
  ∃ kvs, o.IsDictOf (PySem.intKind PySem.Challenge.rw_pg0039_01.row.prog w) kvs ∧ FlatPairs PyData.int kvs D ∧ (a == sysModules) = false
abbrev six (x0 x1 x2 x3 x4 x5 : Int) : List (PyData × PyData) := [(.int 0, .int x0), (.int 1, .int x1), (.int 2, .int x2), (.int 3, .int x3), (.int 4, .int x4), (.int 5, .int x5)]
theorem dec_t {b : Bool} {X Y : Prop} (e : b = true) (h : X) : if b = true then X else Y := by rw [if_pos e]; exact h
theorem dec_f {b : Bool} {X Y : Prop} (e : b = false) (h : Y) : if b = true then X else Y := by rw [if_neg (by rw [e]; exact Bool.false_ne_true)]; exact h
def IsNil (w : World) (a : Addr) (o : Obj) : Prop :=
  o.IsDictOf (PySem.strKind PySem.Challenge.rw_pg0039_01.row.prog w) [] ∧ o.IsDictOf (PySem.intKind PySem.Challenge.rw_pg0039_01.row.prog w) [] ∧ (a == sysModules) = false
def tabOut (w : World) (D : List (PyData × PyData)) (ns : List (Addr × Obj)) (r : Value) : Prop := ∃ a o, r = .ref a ∧ ns = [(a, o)] ∧ IsTab w a o D
theorem tab_out {w : World} {a : Addr} {o : Obj} {kvs : List (Int × Value)} {D D' : List (PyData × PyData)} (hd : o.IsDictOf (PySem.intKind PySem.Challenge.rw_pg0039_01.row.prog w) kvs) (hf : PyProof.V.FlatPairs PyData.int kvs D') (lo : (a == sysModules) = false) (e : D' = D) :
    tabOut w D [(a, o)] (.ref a) := by
  subst e
  exact ⟨a, o, rfl, rfl, kvs, hd, hf, lo⟩
theorem off2 {D a b : Addr} {o o1 o2 : Obj} (h : a ≠ D) (h' : b ≠ D) : ∀ q ∈ [(D, o)], ∀ p ∈ [(a, o1), (b, o2)], p.1 ≠ q.1 := by
  intro q hq p hp
  rw [List.mem_singleton.mp hq]
  rcases List.mem_cons.mp hp with rfl | hp
  · exact h
  · rw [List.mem_singleton.mp hp]; exact h'
section
local macro_rules | `(tactic| k_room) => `(tactic| ktr_room)
local macro_rules | `(tactic| k_lt $h:ident) => `(tactic| (replace $h := allLt_of $h))
local macro_rules | `(tactic| k_ne) => `(tactic| (refine neN ?_; (try dsimp only); first
  | with_reducible assumption
  | exact Ne.symm (by with_reducible assumption)
  | exact ne_lt (by with_reducible assumption) (by k_mem)
  | exact ne_gt (by with_reducible assumption) (by k_mem)
  | exact Nat.ne_of_lt (by with_reducible assumption)
  | exact Nat.ne_of_gt (by with_reducible assumption)
  | exact ne_lt2 (by with_reducible assumption) (by with_reducible assumption) (by k_mem)
  | exact ne_gt2 (by with_reducible assumption) (by with_reducible assumption) (by k_mem)
  | exact ne_offI (by with_reducible assumption) (by k_mem)
  | exact ne_offC (by with_reducible assumption) (by k_mem)
  | exact ne_offD (by with_reducible assumption) (by k_mem)
  | exact ne_off1 (by with_reducible assumption) (by k_mem)
  | exact Ne.symm (ne_offI (by with_reducible assumption) (by k_mem))
  | exact Ne.symm (ne_offC (by with_reducible assumption) (by k_mem))
  | exact Ne.symm (ne_offD (by with_reducible assumption) (by k_mem))
  | exact Ne.symm (ne_off1 (by with_reducible assumption) (by k_mem))
  | omega))
local macro_rules | `(tactic| walk_at "CompRest") => `(tactic| (with_unfolding_all first
  | (refine LCg.CompRest.succ ?_; intro v' I' oI' C' oC' D' m' h' tk' E' hv' hC' hx' F' N' off' ne'; (first | lcg_open hv' | (obtain ⟨t9', hv9'⟩ := hv'; subst hv9')); (replace ne' := Ne3.mk ne'))
  | refine LCg.CompRest.zero ?_))
local macro_rules | `(tactic| walk_at "FinE") => `(tactic| ((unfold LCg.FinE); intro D' h' tk' F' N' o1'; (try simp only [List.nil_append, List.cons_append] at N'); (try dsimp only)))
local macro_rules | `(tactic| walk_at "FinA") => `(tactic| ((unfold LCg.FinA); intro D' h' tk' F' N' o1'; (try simp only [List.nil_append, List.cons_append] at N'); (try dsimp only)))
local macro_rules | `(tactic| walk_at "ite") => `(tactic| first | refine dec_t (by with_unfolding_all rfl) ?_ | refine dec_f (by with_unfolding_all rfl) ?_)
theorem addB (w : World) (mean : ExcName → Option Value) (mg mb : Str → Option Value) (a1 a2 : Addr) (o1 o2 : Obj) (x0 x1 x2 x3 x4 x5 y0 y1 y2 y3 y4 y5 : Int) (h1 : IsTab w a1 o1 (six x0 x1 x2 x3 x4 x5)) (h2 : IsTab w a2 o2 (six y0 y1 y2 y3 y4 y5)) :
    Says w mean mg mb 1 49 [(a1, o1), (a2, o2)] [.ref a1, .ref a2] (tabOut w (six (x0 + y0) (x1 + y1) (x2 + y2) (x3 + y3) (x4 + y4) (x5 + y5))) := by
  obtain ⟨kvs1, h1, f1, s1⟩ := h1
  obtain ⟨kvs2, h2, f2, s2⟩ := h2
  unfold Says
  k_fill
  intro dp un gd cn cs a ccd cl outer A₀ base h₀ L m news s Q E B F X N T hk hneed hd hu hret
  w_on
  k_with_none
  refine wpAny_call ?_
  k_dflt (refine' code_sub ?k1 ?k2 ?k3 ?k4 ?k5 ?kA ?kF ?kK ?k6 ?k7 ?k8 ?k9 ?kB ?kn ?_ ?kR ?c2 ?c3 ?c4 ?c5; (case kA => exact rfl); (case kF => exact rfl); (case kK => assumption); (case k1 => k_asm); (case k2 => k_asm); (case k3 => k_asm); (case k4 => k_asm); (case k5 => k_asm); (case k6 => k_is); (case k7 => k_is); (case k8 => ktr_room); (case k9 => exact BindsTo.of_eq rfl); (case c5 => decide); (case kB => exact locs rfl); (case c2 => exact rfl); (case c3 => exact rfl); (case c4 => exact rfl); (case kn => assumption); (case kR => assumption); k_whole; intro g' L' h' FG' F' N' B' X' T' hLt' hOth'; (try dsimp only); (try k_lift B'); (try k_fold))
  k_steps
  all_goals (try dsimp only)
  k_steps
  exact BodyEnd.intro (by k_asm) (by k_asm) (need1 (by k_mem)) (by lcg_sub) (off2 (by k_ne) (by k_ne)) (tab_out (by assumption) (by assumption) (by assumption) (by with_unfolding_all rfl))

theorem addA (w : World) (mean : ExcName → Option Value) (mg mb : Str → Option Value) (a1 a2 : Addr) (o1 o2 : Obj) (y0 y1 y2 y3 y4 y5 : Int) (h1 : IsNil w a1 o1) (h2 : IsTab w a2 o2 (six y0 y1 y2 y3 y4 y5)) :
    Says w mean mg mb 1 49 [(a1, o1), (a2, o2)] [.ref a1, .ref a2] (tabOut w (six y0 y1 y2 y3 y4 y5)) := by
  obtain ⟨h1s, h1, s1⟩ := h1
  have f1s := PyProof.V.FlatPairs.nil (K := Str) (enc := PyData.str)
  have f1 := PyProof.V.FlatPairs.nil (K := Int) (enc := PyData.int)
  obtain ⟨kvs2, h2, f2, s2⟩ := h2
  unfold Says
  k_fill
  intro dp un gd cn cs a ccd cl outer A₀ base h₀ L m news s Q E B F X N T hk hneed hd hu hret
  w_on
  k_with_none
  refine wpAny_call ?_
  k_dflt (refine' code_sub ?k1 ?k2 ?k3 ?k4 ?k5 ?kA ?kF ?kK ?k6 ?k7 ?k8 ?k9 ?kB ?kn ?_ ?kR ?c2 ?c3 ?c4 ?c5; (case kA => exact rfl); (case kF => exact rfl); (case kK => assumption); (case k1 => k_asm); (case k2 => k_asm); (case k3 => k_asm); (case k4 => k_asm); (case k5 => k_asm); (case k6 => k_is); (case k7 => k_is); (case k8 => ktr_room); (case k9 => exact BindsTo.of_eq rfl); (case c5 => decide); (case kB => exact locs rfl); (case c2 => exact rfl); (case c3 => exact rfl); (case c4 => exact rfl); (case kn => assumption); (case kR => assumption); k_whole; intro g' L' h' FG' F' N' B' X' T' hLt' hOth'; (try dsimp only); (try k_lift B'); (try k_fold))
  k_steps
  all_goals (try dsimp only)
  k_steps
  exact BodyEnd.intro (by k_asm) (by k_asm) (need1 (by k_mem)) (by lcg_sub) (off2 (by k_ne) (by k_ne)) (tab_out (by assumption) (by assumption) (by assumption) (by with_unfolding_all rfl))

end
end Mine
namespace Mine

section
variable {prog : Program} {w : World} {A : Around} {E : Value → Shared → Prop} {s : Shared} {h₀ : Heap} {L C : Addr} {m m₂ : Str → Option Value} {news : List (Addr × Obj)} {scope : Scope} {cl : List (Str × Addr)} {env : Env} {n : Nat} {t : Tok} {cA : Addr} {o : Obj}
theorem comp_local {x : Str} {pos : Pos} {v : Value} {Q : Value → Shared → Prop} (hn : s.heap.Ns C m₂) (hm : m₂ x = some v) (hk : (compEnvC scope cl C env).scope.kind = .function) (hx : (compEnvC scope cl C env).kindOf x = some .local) (h : Q v s) (hb : (x == ("__debug__" : Str)) = false := by decide) :
    wpAny (model prog w) A (eval (.Name x pos) (compEnvC scope cl C env)) Q E s := wpAny_Name (wpAny_loadName_local hk hx hn hm h) hb
theorem comp_cell {x : Str} {pos : Pos} {v : Value} {Q : Value → Shared → Prop} (hc : cl.lookup x = some cA) (hd : ∃ o, s.heap.get? cA = some o ∧ o.data = .cell (some v)) (hk : (compEnvC scope cl C env).scope.kind = .function) (hx : (compEnvC scope cl C env).kindOf x = some .cell) (h : Q v s) (hb : (x == ("__debug__" : Str)) = false := by decide) :
    wpAny (model prog w) A (eval (.Name x pos) (compEnvC scope cl C env)) Q E s := wpAny_Name (wpAny_loadName_cell hk hx hc hd h) hb
abbrev placeE (p : Pos) : Expr := .Name (Str.ofString "place") p
abbrev digE (p1 p2 p3 p4 p5 p6 p7 : Pos) : Expr := .BinOp (.Subscript (.Name (Str.ofString "row") p1) (.BinOp (.Constant (.int 5) 0 p2) .Sub (placeE p3) p4) p5) .Sub (.Constant (.int 65) 0 p6) p7
def digOf (n : Nat) (k : Int) : Int := (((row6 n).getD ((5 : Int) - k).toNat 0).toNat : Int) - 65
theorem row6_length (n : Nat) : (row6 n).length = 6 := rfl
theorem dig_leaf {k : Int} {t' : Tok} {p1 p2 p3 p4 p5 p6 p7 : Pos} (h0 : 0 ≤ k) (h1 : k < 6) (hn : s.heap.Ns C m₂) (hm : m₂ (Str.ofString "place") = some (.int k t')) (hc : cl.lookup (Str.ofString "row") = some cA) (hd : ∃ o, s.heap.get? cA = some o ∧ o.data = .cell (some (.bytes (row6 n).toArray t)))
    (hk : (compEnvC scope cl C env).scope.kind = .function) (hx : (compEnvC scope cl C env).kindOf (Str.ofString "place") = some .local) (hy : (compEnvC scope cl C env).kindOf (Str.ofString "row") = some .cell) :
    wpAny (model prog w) A (eval (digE p1 p2 p3 p4 p5 p6 p7) (compEnvC scope cl C env)) (fun y s₃ => (∃ t9, y = .int (digOf n k) t9) ∧ Keeps s s₃) E s := by
  refine wpAny_BinOp (Subscript_ ?_)
  refine comp_cell hc hd hk hy ?_
  refine wpAny_BinOp (wpAny_Constant_int (comp_local hn hm hk hx ?_))
  refine sub_int' ?_
  refine tail_any (typeIs_bytes _ _ t) FB.slot_bytes_getitem.lookup (getItem_bytes (by rw [row6_length]; decide) (by omega) (by rw [row6_length]; show (5 - k) < 6; omega) ?_) (by with_unfolding_all rfl)
  refine wpAny_Constant_int (sub_int' ?_)
  exact ⟨⟨_, rfl⟩, s.heap, _, rfl, fun _ _ e => e⟩
def DcSrc (w : World) (A : Around) (h₀ : Heap) (L : Addr) (m : Str → Option Value) (cA : Addr) (o : Obj) (n : Nat) (Q : Value → Shared → Prop) (xv : Value) (s₁ : Shared) : Prop :=
  ∃ r t u v news, xv = .ref r ∧ A.handled = none ∧ Fr h₀ L s₁.heap m ∧ News h₀ L s₁.heap news ∧ IsRange s₁.heap r 0 6 1 t u v ∧ (cA, o) ∈ news ∧
    ∀ D oo h' tk, Fr h₀ L h' m → News h₀ L h' ((D, oo) :: news) → (∀ p ∈ news, p.1 < D) → IsTab w D oo (six (digOf n 0) (digOf n 1) (digOf n 2) (digOf n 3) (digOf n 4) (digOf n 5)) → Q (.ref D) { s₁ with heap := h', toks := tk }
theorem list_cons {α : Type} {n : Nat} {l : List α} (h : l.length = n + 1) : ∃ a r, l = a :: r ∧ r.length = n := by
  cases l with
  | nil => cases h
  | cons a r => exact ⟨a, r, rfl, Nat.succ.inj h⟩
theorem six_are {P : Nat → Value → Prop} {vs : List Value} (hP : ∀ i v, P i v → i < 6 ∧ ∃ t, v = .int ((0 : Int) + (i : Int) * 1) t) (hl : vs.length = 6) (h : ∀ j v, vs[j]? = some v → P j v) : AreOf ItemKind.int vs [0, 1, 2, 3, 4, 5] := by
  obtain ⟨v0, z5, rfl, l5⟩ := list_cons (n := 5) hl
  obtain ⟨v1, z4, rfl, l4⟩ := list_cons (n := 4) l5
  obtain ⟨v2, z3, rfl, l3⟩ := list_cons (n := 3) l4
  obtain ⟨v3, z2, rfl, l2⟩ := list_cons (n := 2) l3
  obtain ⟨v4, z1, rfl, l1⟩ := list_cons (n := 1) l2
  obtain ⟨v5, z0, rfl, l0⟩ := list_cons (n := 0) l1
  obtain rfl := List.eq_nil_of_length_eq_zero l0
  obtain ⟨_, t0, rfl⟩ := hP _ _ (h 0 v0 rfl)
  obtain ⟨_, t1, rfl⟩ := hP _ _ (h 1 v1 rfl)
  obtain ⟨_, t2, rfl⟩ := hP _ _ (h 2 v2 rfl)
  obtain ⟨_, t3, rfl⟩ := hP _ _ (h 3 v3 rfl)
  obtain ⟨_, t4, rfl⟩ := hP _ _ (h 4 v4 rfl)
  obtain ⟨_, t5, rfl⟩ := hP _ _ (h 5 v5 rfl)
  exact .cons ⟨t0, rfl⟩ (.cons ⟨t1, rfl⟩ (.cons ⟨t2, rfl⟩ (.cons ⟨t3, rfl⟩ (.cons ⟨t4, rfl⟩ (.cons ⟨t5, rfl⟩ .nil)))))
theorem row_dict {iter : Expr} {p0 px p1 p2 p3 p4 p5 p6 p7 : Pos} {pos : Pos} {Q : Value → Shared → Prop} (F₀ : Fr h₀ L s.heap m) (big : h₀.NoLimit) (hd : o.data = .cell (some (.bytes (row6 n).toArray t)))
    (hclos : closureFor scope env = pure cl) (hcell : ∀ y ∈ scope.names, y.2 ≠ .cell) (hkind : scope.kind = .function) (hnames : ∀ y ∈ scope.names, y.2 = .local → scope.names.lookup y.1 = some .local) (hx : scope.names.lookup (Str.ofString "place") = some .local)
    (hc : cl.lookup (Str.ofString "row") = some cA)
    (hk : ∀ C, (compEnvC scope cl C env).scope.kind = .function) (hx' : ∀ C, (compEnvC scope cl C env).kindOf (Str.ofString "place") = some .local) (hy' : ∀ C, (compEnvC scope cl C env).kindOf (Str.ofString "row") = some .cell)
    (h : wpAny (model PySem.Challenge.rw_pg0039_01.row.prog w) A (eval iter env) (DcSrc w A h₀ L m cA o n Q) E s)
    (hs : ∀ x, foldedSetIterable iter env x = pure x := by intro _; rfl) :
    wpAny (model PySem.Challenge.rw_pg0039_01.row.prog w) A (eval (.DictComp (placeE p0) (digE p1 p2 p3 p4 p5 p6 p7) [⟨placeE px, iter, [], 0⟩] scope pos) env) Q E s := by
  rw [arm_eval_DictComp]
  refine wpAny_comprehension_free (use := none) rfl hs hclos hkind hnames (wpAny_mono h (fun xv s₁ h₁ => ?_) fun _ _ e => e)
  obtain ⟨r, t1, u1, v1, news, rfl, hh, F, N, hr, hmm, hQ⟩ := h₁
  refine wpAny_pyIter_range hr (by decide) ?_
  generalize hG : s₁.heap.push { cls := .type "range_iterator", data := .fields #[rawInt 0, rawInt (Builtin.Range.rangeSize 0 6 1), rawInt 1] } = G
  have sG : G.objs.size = s₁.heap.objs.size + 1 := by rw [← hG, Heap.size_push]
  have upG : ∀ b o, s₁.heap.get? b = some o → G.get? b = some o := fun b o e => hG ▸ Heap.get?_push_of_some _ e
  have itG : IsRangeIter G s₁.heap.objs.size (0 + ((0 : Nat) : Int) * 1) (((6 : Nat) : Int) - ((0 : Nat) : Int)) 1 := by
    show G.get? _ = some _
    rw [← hG]; exact Heap.get?_push_size _ rfl
  have W := (Walks.range (prog := PySem.Challenge.rw_pg0039_01.row.prog) (w := w) hh s₁.heap.objs.size 0 1 6).bound
  have big1 : sysModules < s₁.heap.objs.size := Nat.lt_trans (modules_low big) (Nat.lt_of_le_of_lt F.above F.ns.lt)
  have hL : L < s₁.heap.objs.size := F.ns.lt
  refine wpAny_newObj_type (wpAny_newFunctionEnv hcell (fun y hy => nomatch hy) (fun h₁ ns₁ sb₁ => ?_) hkind)
  dsimp only at ns₁ sb₁ ⊢
  have dG : (G.push { cls := .type "dict", dict := none, data := .dict #[] }).DictOf (intKind PySem.Challenge.rw_pg0039_01.row.prog w) G.objs.size [] := Heap.DictOf.new G
  generalize hG2 : G.push { cls := .type "dict", dict := none, data := .dict #[] } = G2 at ns₁ sb₁ dG ⊢
  have sG2 : G2.objs.size = s₁.heap.objs.size + 2 := by rw [← hG2, Heap.size_push, sG]
  have up1 : ∀ b o, b < s₁.heap.objs.size + 2 → G2.get? b = some o → h₁.get? b = some o := fun b o hb e => sb₁.extBut b o (by rw [sG2]; exact Nat.ne_of_lt hb) (Heap.get?_push_of_some _ e)
  have old1 : ∀ b o, G.get? b = some o → h₁.get? b = some o := fun b o e => up1 b o (Nat.lt_succ_of_lt (sG ▸ Heap.lt_size e)) (hG2 ▸ Heap.get?_push_of_some _ e)
  have kept : ∀ {g : Heap}, (∀ b o, b ≠ G2.objs.size → b ∉ [s₁.heap.objs.size] → b ≠ G.objs.size → h₁.get? b = some o → g.get? b = some o) → ∀ b o, s₁.heap.get? b = some o → g.get? b = some o := fun hk₃ b o e => by
    have hb := Heap.lt_size e
    exact hk₃ b o (by rw [sG2]; exact Nat.ne_of_lt (Nat.lt_succ_of_lt (Nat.lt_succ_of_lt hb))) (fun hm => Nat.ne_of_lt hb (List.mem_singleton.mp hm)) (by rw [sG]; exact Nat.ne_of_lt (Nat.lt_succ_of_lt hb)) (old1 b o (upG b o e))
  have st1 : IsRangeIter h₁ s₁.heap.objs.size (0 + ((0 : Nat) : Int) * 1) (((6 : Nat) : Int) - ((0 : Nat) : Int)) 1 := old1 _ _ itG
  have ne1 : G.objs.size ≠ G2.objs.size := by rw [sG, sG2]; exact Nat.ne_of_lt (Nat.lt_succ_self _)
  have loop : codeAny (model PySem.Challenge.rw_pg0039_01.row.prog w) A (.compLoop (.DictComp (placeE p0) (digE p1 p2 p3 p4 p5 p6 p7) [⟨placeE px, iter, [], 0⟩] scope pos) 0 (.ref s₁.heap.objs.size) (.ref G.objs.size) (compEnvC scope cl G2.objs.size env))
      (compPost (model PySem.Challenge.rw_pg0039_01.row.prog w) A E none Q (.ref G.objs.size) G2.objs.size) { s₁ with heap := h₁, toks := s₁.toks + ([] : List (Str × Value)).length } := by
    refine codeAny_compLoop_walkD (hsz := by rw [sizeLine_eq]; decide) (knd := intKind _ w) (cenv := compEnvC scope cl G2.objs.size env) W (ItemKind.int.lift fun _ => true) (fun v k => ∃ a, ItemKind.int.is a v ∧ k = id a) (fun v y => ∃ a, ItemKind.int.is a v ∧ Carried y (.int (digOf n a)))
      (lookup_relabel_local hx) (by simp [compEnvC, relabel, hkind]) ne1 (fun hm => ?_) (fun hm => ?_) st1 (dG.at fun o e => sb₁.extBut _ _ ne1 (Heap.get?_push_of_some _ e)) ns₁ ?_ ?_ ?_ ?_
    · have := List.mem_singleton.mp hm; rw [sG] at this; exact Nat.ne_of_gt (Nat.lt_succ_self _) this
    · have := List.mem_singleton.mp hm; rw [show (compEnvC scope cl G2.objs.size env).locals = G2.objs.size from rfl, sG2] at this; exact Nat.ne_of_gt (Nat.lt_succ_of_lt (Nat.lt_succ_self _)) this
    · rintro i v s₃ m₃ ⟨_, t', rfl⟩ hn hm hk₃
      exact wpAny_pure ⟨rfl, s₃.heap, _, rfl, fun _ _ e => e⟩
    · rintro i v s₃ m₃ ⟨_, t', rfl⟩ _ hn hm hk₃
      refine comp_local hn hm (hk _) (hx' _) ?_
      exact ⟨⟨_, intKind_is _ _ _ _, _, ⟨_, rfl⟩, rfl⟩, s₃.heap, _, rfl, fun _ _ e => e⟩
    · rintro i v s₃ m₃ ⟨hi, t', rfl⟩ _ hn hm hk₃
      refine wpAny_mono (dig_leaf (by omega) (by omega) hn hm hc ⟨o, kept hk₃ _ _ (N _ hmm).1, hd⟩ (hk _) (hx' _) (hy' _)) (fun y s₄ h₄ => ?_) fun _ _ e => e
      obtain ⟨⟨t9, rfl⟩, h₄⟩ := h₄
      exact ⟨⟨_, ⟨_, rfl⟩, .int _ _⟩, h₄⟩
    · intro h' tk m' kvs vs hn hlD hlen hP hF hk₃
      refine ⟨m', hn, fun h'' hs'' => ?_⟩
      have keep : ∀ b o, s₁.heap.get? b = some o → h''.get? b = some o := fun b o e =>
        hs''.extBut b o (by rw [sG2]; exact Nat.ne_of_lt (Nat.lt_succ_of_lt (Nat.lt_succ_of_lt (Heap.lt_size e)))) (kept hk₃ b o e)
      obtain ⟨oo, ho, hoo⟩ := Heap.dictOf_iff.mp (hlD.extBut hs''.extBut ne1)
      have hDs : s₁.heap.objs.size < G.objs.size := by rw [sG]; exact Nat.lt_succ_self _
      refine hQ G.objs.size oo h'' tk (F.keeps keep) (fun p hp => ?_) (fun p hp => Nat.lt_trans (Heap.lt_size (N p hp).1) hDs) ⟨kvs, hoo, ?_, ?_⟩
      · rcases List.mem_cons.mp hp with rfl | hp
        · refine ⟨ho, Nat.ne_of_gt (Nat.lt_trans hL hDs), ?_⟩
          cases e : h₀.get? G.objs.size with
          | none => rfl
          | some o' => exact absurd (Heap.lt_size (F.keep _ o' e)) (Nat.lt_asymm hDs)
        · exact N.grown keep p hp
      · have := storedAll_flat (enc := PyData.int) PyProof.V.same_int hF _ ((six_are (fun i v h => h) hlen hP).filter fun _ => true)
        exact this
      · exact beq_eq_false_iff_ne.mpr (Nat.ne_of_gt (Nat.lt_trans big1 hDs))
  exact codeAny_compStart_dict loop (W.self 0 _ _ _ st1 loop)
end
end Mine
namespace Mine

/-- a table of six columns, or the empty one for noughts -/
def Tab0 (w : World) (a : Addr) (o : Obj) (x0 x1 x2 x3 x4 x5 : Int) : Prop := (IsNil w a o ∧ x0 = 0 ∧ x1 = 0 ∧ x2 = 0 ∧ x3 = 0 ∧ x4 = 0 ∧ x5 = 0) ∨ IsTab w a o (six x0 x1 x2 x3 x4 x5)
theorem add0 (w : World) (mean : ExcName → Option Value) (mg mb : Str → Option Value) (a1 a2 : Addr) (o1 o2 : Obj) (x0 x1 x2 x3 x4 x5 y0 y1 y2 y3 y4 y5 : Int) (h1 : Tab0 w a1 o1 x0 x1 x2 x3 x4 x5) (h2 : IsTab w a2 o2 (six y0 y1 y2 y3 y4 y5)) :
    Says w mean mg mb 1 49 [(a1, o1), (a2, o2)] [.ref a1, .ref a2] (tabOut w (six (x0 + y0) (x1 + y1) (x2 + y2) (x3 + y3) (x4 + y4) (x5 + y5))) := by
  rcases h1 with ⟨h1, rfl, rfl, rfl, rfl, rfl, rfl⟩ | h1
  · simp only [Int.zero_add]
    exact addA w mean mg mb a1 a2 o1 o2 y0 y1 y2 y3 y4 y5 h1 h2
  · exact addB w mean mg mb a1 a2 o1 o2 x0 x1 x2 x3 x4 x5 y0 y1 y2 y3 y4 y5 h1 h2
abbrev Bd6 (c : Int) : Prop := 0 ≤ c ∧ c < 1000000
theorem subL_more {x y : Addr × Obj} {keep : List (Addr × Obj)} {news : List (Addr × Obj)} : SubL keep news → SubL keep (x :: y :: news) := by
  induction keep with
  | nil => exact fun h => h
  | cons p r ih => exact fun h => ⟨.tail _ (.tail _ h.1), ih h.2⟩
/-- a turn of the sheet's loop ends -/
def SheetTurn (w : World) (h₀ : Heap) (L : Addr) (s : Shared) (I : Addr) (oI : Obj) (cA : Addr) (news : List (Addr × Obj)) (J : (Str → Option Value) → Prop) (y : Str) (x0 x1 x2 x3 x4 x5 : Int) (f : Flow) (s' : Shared) : Prop :=
  f = .next ∧ ∃ h' tk' m' a o oc, s' = { s with heap := h', toks := tk' } ∧ Fr h₀ L h' m' ∧ News h₀ L h' ((I, oI) :: (a, o) :: (cA, oc) :: news) ∧ IsTab w a o (six x0 x1 x2 x3 x4 x5) ∧ a ≠ cA ∧ a ≠ I ∧ (∀ p ∈ news, p.1 ≠ a) ∧ (∃ v, oc.data = .cell v) ∧ m' y = some (.ref a) ∧ J m'
section
variable {prog : Program} {w : World} {A : Around} {E : Value → Shared → Prop} {s : Shared} {env : Env} {h₀ : Heap} {body : List Stmt} {Q : Flow → Shared → Prop} {m0 : Str → Option Value} {news : List (Addr × Obj)} {I : Addr}
theorem fr_at {L : Addr} {h : Heap} {x y : Str} {v : Value} {m : Str → Option Value} (F : Fr h₀ L h m) (hy : m y = some v) (hm : ∀ z, z ≠ x → z ≠ y → m z = m0 z) :
    Fr h₀ L h (fun z => if z = x then m x else if z = y then some v else m0 z) := by
  have e : (fun z => if z = x then m x else if z = y then some v else m0 z) = m := by
    funext z
    by_cases h1 : z = x
    · rw [if_pos h1, h1]
    · rw [if_neg h1]
      by_cases h2 : z = y
      · rw [if_pos h2, h2, hy]
      · rw [if_neg h2, hm z h1 h2]
  rw [e]; exact F
def sumD (k x : Int) (cs : List (Int × Tok)) : Int := cs.foldl (fun s c => s + digOf (-c.1).natAbs k) x
theorem sheet_turns {target : Expr} {x y : Str} {cA : Addr} {keep : List (Addr × Obj)} {cls : String} (off : ∀ p ∈ news, p.1 ≠ I) (hcI : cA ≠ I) (hk : SubL keep news)
    (turn : ∀ (c : Int) (u : Tok) (a : Addr) (o oc oI : Obj) (x0 x1 x2 x3 x4 x5 : Int) (u0 v0 : Option Value) h tk, Bd6 c → oc.data = .cell v0 → Tab0 w a o x0 x1 x2 x3 x4 x5 → a ≠ cA → a ≠ I → (∀ p ∈ news, p.1 ≠ a) → Fr h₀ env.locals h (fun z => if z = x then u0 else if z = y then some (.ref a) else m0 z) → News h₀ env.locals h ((I, oI) :: (a, o) :: (cA, oc) :: news) →
      wpAny (model prog w) A (assign target env (.int c u)) (fun _ s₂ => wpAny (model prog w) A (execs body env) (SheetTurn w h₀ env.locals { s with heap := h, toks := tk } I oI cA news (fun m' => ∀ z, z ≠ x → z ≠ y → m' z = m0 z) y (x0 + digOf (-c).natAbs 0) (x1 + digOf (-c).natAbs 1) (x2 + digOf (-c).natAbs 2) (x3 + digOf (-c).natAbs 3) (x4 + digOf (-c).natAbs 4) (x5 + digOf (-c).natAbs 5)) E s₂) E { s with heap := h, toks := tk })
    (all : Int → Int)
    (done : ∀ (a : Addr) (o oc : Obj) (u0 : Option Value) h tk, IsTab w a o (six (all 0) (all 1) (all 2) (all 3) (all 4) (all 5)) → a ≠ cA → (∀ p ∈ news, p.1 ≠ a) → Fr h₀ env.locals h (fun z => if z = x then u0 else if z = y then some (.ref a) else m0 z) → News h₀ env.locals h ((a, o) :: (cA, oc) :: news) → Q .next { s with heap := h, toks := tk }) :
    ∀ (cs : List (Int × Tok)) (a : Addr) (o oc : Obj) (x0 x1 x2 x3 x4 x5 : Int) (m : Str → Option Value) (_ : ∀ c ∈ cs, Bd6 c.1) (_ : Tab0 w a o x0 x1 x2 x3 x4 x5) (_ : cs ≠ [] ∨ IsTab w a o (six x0 x1 x2 x3 x4 x5)) (_ : all 0 = sumD 0 x0 cs ∧ all 1 = sumD 1 x1 cs ∧ all 2 = sumD 2 x2 cs ∧ all 3 = sumD 3 x3 cs ∧ all 4 = sumD 4 x4 cs ∧ all 5 = sumD 5 x5 cs) (_ : a ≠ cA) (_ : a ≠ I) (_ : ∀ p ∈ news, p.1 ≠ a) (_ : ∃ v, oc.data = .cell v) (_ : m y = some (.ref a)) (_ : ∀ z, z ≠ x → z ≠ y → m z = m0 z),
      ItemsRest prog w A E h₀ env target body Q s [(I, cls)] keep ((cs.map fun c => Value.int c.1 c.2).map .val) m ((a, o) :: (cA, oc) :: news)
  | [], a, o, oc, x0, x1, x2, x3, x4, x5, m, _, _, ht, ⟨e0, e1, e2, e3, e4, e5⟩, hac, _, hna, _, hy, hm => ItemsRest.zero fun h tk F N => done a o oc _ h tk (by
      rcases ht with ht | ht
      · exact absurd rfl ht
      · rw [e0, e1, e2, e3, e4, e5]; exact ht) hac hna (fr_at F hy hm) N
  | c :: cs, a, o, oc, x0, x1, x2, x3, x4, x5, m, hb, ht, _, ⟨e0, e1, e2, e3, e4, e5⟩, hac, haI, hna, ⟨v0, hv0⟩, hy, hm => ItemsRest.val fun h tk F => AllObj.cons fun oI _ => AllObj.nil fun N => by
    refine wpAny_mono (turn c.1 c.2 a o oc oI x0 x1 x2 x3 x4 x5 _ v0 h tk (hb c (.head _)) hv0 ht hac haI hna (fr_at F hy hm) N) (fun _ s₂ h₂ => wpAny_mono h₂ (fun f s' hq => ?_) fun _ _ e => e) fun _ _ e => e
    obtain ⟨rfl, h', tk', m', a', o', oc', rfl, F', N', hT', hac', haI', hna', hv', hy', hm'⟩ := hq
    refine ⟨h', tk', m', (a', o') :: (cA, oc') :: news, rfl, F', N', fun p hp q hq => ?_, subL_more hk, sheet_turns off hcI hk turn all done cs a' o' oc' _ _ _ _ _ _ m' (fun c hc => hb c (.tail _ hc)) (.inr hT') (.inr hT') ⟨e0, e1, e2, e3, e4, e5⟩ hac' haI' hna' hv' hy' hm'⟩
    rw [List.mem_singleton.mp hq]
    rcases List.mem_cons.mp hp with rfl | hp
    · exact haI'
    rcases List.mem_cons.mp hp with rfl | hp
    · exact hcI
    exact off p hp
end
end Mine
namespace Mine

theorem off1_of {a : Addr} {o : Obj} : ∀ {news : List (Addr × Obj)}, (∀ q ∈ [(a, o)], ∀ p ∈ news, p.1 ≠ q.1) → LCg.Off1 a news
  | [], _ => trivial
  | p :: _, h => ⟨h _ (.head _) p (.head _), off1_of fun q hq p hp => h q hq p (.tail _ hp)⟩
theorem off_11 {D rl : Addr} {o o' : Obj} (h : rl ≠ D) : ∀ q ∈ [(D, o)], ∀ p ∈ [(rl, o')], p.1 ≠ q.1 := by
  intro q hq p hp
  rw [List.mem_singleton.mp hq, List.mem_singleton.mp hp]
  exact h
/-- the sum of the six numbers' figures at a place -/
abbrev col (c0 c1 c2 c3 c4 c5 : Int) (k : Int) : Int := digOf (-c0).natAbs k + digOf (-c1).natAbs k + digOf (-c2).natAbs k + digOf (-c3).natAbs k + digOf (-c4).natAbs k + digOf (-c5).natAbs k
theorem one_off {a rl : Addr} {o : Obj} (h : rl ≠ a) : ∀ p ∈ [(rl, o)], p.1 ≠ a := fun p hp => by rw [List.mem_singleton.mp hp]; exact h
theorem SheetTurn.intro {w : World} {h₀ : Heap} {L : Addr} {s : Shared} {I : Addr} {oI : Obj} {cA : Addr} {news all : List (Addr × Obj)} {J : (Str → Option Value) → Prop} {y : Str} {x0 x1 x2 x3 x4 x5 : Int} {h' : Heap} {tk' : Nat} {m' : Str → Option Value} {a : Addr} {o oc : Obj}
    (F : Fr h₀ L h' m') (N : News h₀ L h' all) (sub : ∀ p ∈ (I, oI) :: (a, o) :: (cA, oc) :: news, p ∈ all) (hT : IsTab w a o (six x0 x1 x2 x3 x4 x5)) (h1 : a ≠ cA) (h2 : a ≠ I) (h3 : ∀ p ∈ news, p.1 ≠ a) {v : Option Value} (hv : oc.data = .cell v) (hy : m' y = some (.ref a)) (j : J m') :
    SheetTurn w h₀ L s I oI cA news J y x0 x1 x2 x3 x4 x5 .next { s with heap := h', toks := tk' } := ⟨rfl, h', tk', m', a, o, oc, rfl, F, fun p hp => N p (sub p hp), hT, h1, h2, h3, ⟨v, hv⟩, hy, j⟩
section
local macro_rules | `(tactic| k_room) => `(tactic| ktr_room)
local macro_rules | `(tactic| k_lt $h:ident) => `(tactic| (replace $h := allLt_of $h))
local macro_rules | `(tactic| k_ne) => `(tactic| (refine neN ?_; (try dsimp only); first
  | with_reducible assumption
  | exact Ne.symm (by with_reducible assumption)
  | exact ne_lt (by with_reducible assumption) (by k_mem)
  | exact ne_gt (by with_reducible assumption) (by k_mem)
  | exact Nat.ne_of_lt (by with_reducible assumption)
  | exact Nat.ne_of_gt (by with_reducible assumption)
  | exact ne_lt2 (by with_reducible assumption) (by with_reducible assumption) (by k_mem)
  | exact ne_gt2 (by with_reducible assumption) (by with_reducible assumption) (by k_mem)
  | exact ne_offI (by with_reducible assumption) (by k_mem)
  | exact ne_offC (by with_reducible assumption) (by k_mem)
  | exact ne_offD (by with_reducible assumption) (by k_mem)
  | exact ne_off1 (by with_reducible assumption) (by k_mem)
  | exact Ne.symm (ne_offI (by with_reducible assumption) (by k_mem))
  | exact Ne.symm (ne_offC (by with_reducible assumption) (by k_mem))
  | exact Ne.symm (ne_offD (by with_reducible assumption) (by k_mem))
  | exact Ne.symm (ne_off1 (by with_reducible assumption) (by k_mem))
  | omega))
local macro_rules | `(tactic| walk_at "CompRest") => `(tactic| (with_unfolding_all first
  | (refine LCg.CompRest.succ ?_; intro v' I' oI' C' oC' D' m' h' tk' E' hv' hC' hx' F' N' off' ne'; (first | lcg_open hv' | (obtain ⟨t9', hv9'⟩ := hv'; subst hv9')); (replace ne' := Ne3.mk ne'))
  | refine LCg.CompRest.zero ?_))
local macro_rules | `(tactic| walk_at "FinE") => `(tactic| ((unfold LCg.FinE); intro D' h' tk' F' N' o1'; (try simp only [List.nil_append, List.cons_append] at N'); (try dsimp only)))
local macro_rules | `(tactic| walk_at "FinA") => `(tactic| ((unfold LCg.FinA); intro D' h' tk' F' N' o1'; (try simp only [List.nil_append, List.cons_append] at N'); (try dsimp only)))
local macro_rules | `(tactic| walk_at "exec For Name Name cons nil") => `(tactic| (k_here; (rename Fr _ _ _ _ => lF'); (with_unfolding_all refine' For_turns lF' ?_; k_whole)))
local macro_rules | `(tactic| walk_at "eval DictComp") => `(tactic| (k_here; k_dflt (refine' row_dict ?kf ?kb ?kd ?k1 ?k2 ?k3 ?k4 ?k5 ?k6 ?k7 ?k8 ?k9 ?_; (case k1 => with_unfolding_all rfl); (case k2 => decide); (case k3 => rfl); (case k4 => decide); (case k5 => rfl); (case k6 => exact rfl); (case kf => k_asm); (case kb => exact Top.nolimit (by assumption)); (case kd => assumption); (case k7 => intro _; rfl); (case k8 => intro _; rfl); (case k9 => intro _; rfl); k_whole)))
local macro_rules | `(tactic| walk_at "DcSrc") => `(tactic| (k_here; k_dflt (refine ⟨_, _, _, _, _, rfl, (by rfl), (by k_asm), (by k_asm), (by assumption), (by k_mem), ?_⟩; intro D' oo' h' tk' F' N' l' tab'; k_lt l')))
local macro_rules | `(tactic| walk_at "pyIter ref") => `(tactic| (k_here; refine Halt.on ?_))
theorem sheet (w : World) (mean : ExcName → Option Value) (mg mb : Str → Option Value) (ol : Addr) (c0 c1 c2 c3 c4 c5 : Int) (u0 u1 u2 u3 u4 u5 : Tok) (n : Nat)
    (b0 : 0 ≤ c0 ∧ c0 < 1000000) (b1 : 0 ≤ c1 ∧ c1 < 1000000) (b2 : 0 ≤ c2 ∧ c2 < 1000000) (b3 : 0 ≤ c3 ∧ c3 < 1000000) (b4 : 0 ≤ c4 ∧ c4 < 1000000) (b5 : 0 ≤ c5 ∧ c5 < 1000000) :
    Says w mean mg mb 3 68 [(ol, listOf [.int c0 u0, .int c1 u1, .int c2 u2, .int c3 u3, .int c4 u4, .int c5 u5].toArray n)] [.ref ol] (tabOut w (six (col c0 c1 c2 c3 c4 c5 0) (col c0 c1 c2 c3 c4 c5 1) (col c0 c1 c2 c3 c4 c5 2) (col c0 c1 c2 c3 c4 c5 3) (col c0 c1 c2 c3 c4 c5 4) (col c0 c1 c2 c3 c4 c5 5))) := by
  unfold Says
  k_fill
  intro dp un gd cn cs a ccd cl outer A₀ base h₀ L m news s Q E B F X N T hk hneed hd hu hret
  w_on
  k_with_none
  refine wpAny_call ?_
  k_dflt (refine' code_subC ?k1 ?k2 ?k3 ?k4 ?k5 ?kA ?kF ?kK ?k6 ?k7 ?k8 ?k9 ?kB ?kD ?kn ?_ ?kR ?c2 ?c3 ?c4; (case kA => exact rfl); (case kF => exact rfl); (case kK => assumption); (case k1 => k_asm); (case k2 => k_asm); (case k3 => k_asm); (case k4 => k_asm); (case k5 => k_asm); (case k6 => k_is); (case k7 => k_is); (case k8 => ktr_room); (case k9 => exact BindsTo.of_eq rfl); (case kB => exact rfl); (case kD => decide +kernel); (case c2 => exact rfl); (case c3 => exact rfl); (case c4 => exact rfl); (case kn => assumption); (case kR => assumption); k_whole; intro g' L' h' tk' cells' FG' F' N' Y' B' X' T' l1 hLe' hOth'; (try (replace l1 := allLt_of l1; simp only [AllLt, and_true] at l1)); k_cells Y'; (try simp only [List.cons_append, List.nil_append] at N'); (try dsimp only); (try k_lift B'); (try k_fold))
  (k_with "call ref" => (k_here; (with_reducible show wpAny _ _ (call (Value.ref 63) _) _ _ _); k_dflt ((refine' Says.use (filled _ _ _ _ _ _ ?hb) ?k1 ?k2 ?k3 ?k4 ?k5 ?kK ?kn ?kd ?ku ?_; (case k1 => k_asm); (case k2 => k_asm); (case k3 => k_asm); (case k4 => k_asm); (case k5 => k_asm); (case kK => first | exact rfl | assumption); (case kn => (first | exact need0 | exact need1 (by k_mem) | exact need2 (by k_mem) (by k_mem) | exact need3 (by k_mem) (by k_mem) (by k_mem))); (case kd => ktr_room); (case ku => ktr_units); (case hb => omega); intro r9 tl9 h9 tk9 F9 N9 hl9 ho9); obtain ⟨rfl, t9, rfl⟩ := ho9; simp only [List.nil_append] at N9; clear hl9; (try dsimp only); (try k_sweep); (try k_fold))))
  (k_with "call ref" => (k_here; (with_reducible show wpAny _ _ (call (Value.ref 49) _) _ _ _); k_dflt ((refine' Says.use (add0 _ _ _ _ _ _ _ _ _ _ _ _ _ _ _ _ _ _ _ _ ?t1 ?t2) ?k1 ?k2 ?k3 ?k4 ?k5 ?kK ?kn ?kd ?ku ?_; (case t1 => with_reducible assumption); (case t2 => with_reducible assumption); (case k1 => k_asm); (case k2 => k_asm); (case k3 => k_asm); (case k4 => k_asm); (case k5 => k_asm); (case kK => first | exact rfl | assumption); (case kn => (first | exact need0 | exact need1 (by k_mem) | exact need2 (by k_mem) (by k_mem) | exact need3 (by k_mem) (by k_mem) (by k_mem))); (case kd => ktr_room); (case ku => ktr_units); intro r9 tl9 h9 tk9 F9 N9 hl9 ho9); obtain ⟨a9, o9, rfl, rfl, tab9⟩ := ho9; (have off9 := off1_of hl9); clear hl9; simp only [List.cons_append, List.nil_append] at N9; (try dsimp only); (try k_sweep); (try k_fold))))
  k_steps
  unfold Halt
  rename Fr _ _ _ _ => FF
  rename News _ _ _ _ => NN
  refine iter_listTurns (by rfl) FF NN (.tail _ (.tail _ (.head _))) rfl rfl fun I lI => ?_
  have hcI : @Ne Nat (L' + 1) I := Nat.ne_of_lt (lI _ (.tail _ (.head _)))
  refine sheet_turns (w := w) (x := Str.ofString "cell") (y := Str.ofString "sheet") (cA := L' + 1) ?off hcI ?hk ?turn (fun k => col c0 c1 c2 c3 c4 c5 k) ?done [(c0, u0), (c1, u1), (c2, u2), (c3, u3), (c4, u4), (c5, u5)] _ _ _ 0 0 0 0 0 0 _ ?hb ?hT (.inl (fun h => nomatch h)) ?sum (by k_ne) ?haI (one_off (by k_ne)) ⟨_, by assumption⟩ rfl (fun _ _ _ => rfl)
  case off => exact fun p hp => Nat.ne_of_lt (lI p (.tail _ (.tail _ hp)))
  case hk => exact ⟨.head _, trivial⟩
  case hb =>
    simp only [List.forall_mem_cons]
    exact ⟨b0, b1, b2, b3, b4, b5, fun _ h => nomatch h⟩
  case hT => exact .inl ⟨⟨by assumption, by assumption, by assumption⟩, rfl, rfl, rfl, rfl, rfl, rfl⟩
  case sum =>
    refine ⟨?_, ?_, ?_, ?_, ?_, ?_⟩ <;> simp only [sumD, List.foldl_cons, List.foldl_nil, Int.zero_add]
  case haI => exact Nat.ne_of_lt (lI _ (.head _))
  case turn =>
    clear FF NN lI
    intro c u a8 o8 oc oI x0 x1 x2 x3 x4 x5 u9 v9 h' tk' hbc hoc hTab hac haI hna F' N'
    k_steps
    (try dsimp only)
    exact SheetTurn.intro (by k_asm) (by k_asm) (by lcg_sub) (by with_reducible assumption) (by k_ne) (by k_ne) (one_off (by k_ne)) (by assumption) rfl (by intro z hz1 hz2; simp only [if_neg hz1, if_neg hz2])
  case done =>
    intro a8 o8 oc u9 h' tk' hT hac hna F' N'
    (try dsimp only)
    k_steps
    (try dsimp only)
    exact BodyEnd.intro (by k_asm) (by k_asm) (need1 (by k_mem)) (by lcg_sub) (off_11 (hna _ (.head _))) ⟨_, _, rfl, rfl, hT⟩
end
end Mine
namespace Mine

abbrev cz (v c : Int) : Int := (v + c).fdiv 16
/-- what stands on paper: the carries and the figures of six columns -/
structure Paper (v0 v1 v2 v3 v4 v5 k1 k2 k3 k4 k5 k6 g0 g1 g2 g3 g4 g5 : Int) : Prop where
  e1 : k1 = cz v0 0
  e2 : k2 = cz v1 k1
  e3 : k3 = cz v2 k2
  e4 : k4 = cz v3 k3
  e5 : k5 = cz v4 k4
  e6 : k6 = cz v5 k5
  f0 : g0 = (v0 + 0).fmod 16
  f1 : g1 = (v1 + k1).fmod 16
  f2 : g2 = (v2 + k2).fmod 16
  f3 : g3 = (v3 + k3).fmod 16
  f4 : g4 = (v4 + k4).fmod 16
  f5 : g5 = (v5 + k5).fmod 16
abbrev carrO (k1 k2 k3 k4 k5 k6 : Int) (t0 t1 t2 t3 t4 t5 t6 : Tok) (n : Nat) : Obj := listOf #[.int 0 t0, .int k1 t1, .int k2 t2, .int k3 t3, .int k4 t4, .int k5 t5, .int k6 t6] n
abbrev figO (g0 g1 g2 g3 g4 g5 : Int) (t0 t1 t2 t3 t4 t5 : Tok) (n : Nat) : Obj := listOf #[.int g0 t0, .int g1 t1, .int g2 t2, .int g3 t3, .int g4 t4, .int g5 t5] n
def paperOut (v0 v1 v2 v3 v4 v5 : Int) (ns : List (Addr × Obj)) (r : Value) : Prop :=
  ∃ D l c k1 k2 k3 k4 k5 k6 g0 g1 g2 g3 g4 g5 t0 t1 t2 t3 t4 t5 t6 u0 u1 u2 u3 u4 u5 n1 n2 n3,
    r = .ref D ∧ ns = [(D, { cls := .type "tuple", data := .seq [.ref c, .ref l].toArray n3 }), (l, figO g0 g1 g2 g3 g4 g5 u0 u1 u2 u3 u4 u5 n2), (c, carrO k1 k2 k3 k4 k5 k6 t0 t1 t2 t3 t4 t5 t6 n1)] ∧ Paper v0 v1 v2 v3 v4 v5 k1 k2 k3 k4 k5 k6 g0 g1 g2 g3 g4 g5
theorem paper_out {v0 v1 v2 v3 v4 v5 : Int} {D l c : Addr} {k1 k2 k3 k4 k5 k6 g0 g1 g2 g3 g4 g5 : Int} {t0 t1 t2 t3 t4 t5 t6 u0 u1 u2 u3 u4 u5 : Tok} {n1 n2 n3 : Nat} (h : Paper v0 v1 v2 v3 v4 v5 k1 k2 k3 k4 k5 k6 g0 g1 g2 g3 g4 g5) :
    paperOut v0 v1 v2 v3 v4 v5 [(D, { cls := .type "tuple", data := .seq [.ref c, .ref l].toArray n3 }), (l, figO g0 g1 g2 g3 g4 g5 u0 u1 u2 u3 u4 u5 n2), (c, carrO k1 k2 k3 k4 k5 k6 t0 t1 t2 t3 t4 t5 t6 n1)] (.ref D) :=
  ⟨D, l, c, k1, k2, k3, k4, k5, k6, g0, g1, g2, g3, g4, g5, t0, t1, t2, t3, t4, t5, t6, u0, u1, u2, u3, u4, u5, n1, n2, n3, rfl, rfl, h⟩
theorem sub3 {x y z : Addr × Obj} {news : List (Addr × Obj)} (h : x ∈ news) (h' : y ∈ news) (h'' : z ∈ news) : ∀ p ∈ [x, y, z], p ∈ news := need3 h h' h''
theorem off_31 {D l c rl : Addr} {o o' o'' p' : Obj} (h : rl ≠ D) (h' : rl ≠ l) (h'' : rl ≠ c) : ∀ q ∈ [(D, o), (l, o'), (c, o'')], ∀ p ∈ [(rl, p')], p.1 ≠ q.1 := by
  intro q hq p hp
  rw [List.mem_singleton.mp hp]
  rcases List.mem_cons.mp hq with rfl | hq
  · exact h
  rcases List.mem_cons.mp hq with rfl | hq
  · exact h'
  rw [List.mem_singleton.mp hq]; exact h''
section
local macro_rules | `(tactic| k_room) => `(tactic| ktr_room)
local macro_rules | `(tactic| k_lt $h:ident) => `(tactic| (replace $h := allLt_of $h))
local macro_rules | `(tactic| k_ne) => `(tactic| (refine neN ?_; (try dsimp only); first
  | with_reducible assumption
  | exact Ne.symm (by with_reducible assumption)
  | exact ne_lt (by with_reducible assumption) (by k_mem)
  | exact ne_gt (by with_reducible assumption) (by k_mem)
  | exact Nat.ne_of_lt (by with_reducible assumption)
  | exact Nat.ne_of_gt (by with_reducible assumption)
  | exact ne_lt2 (by with_reducible assumption) (by with_reducible assumption) (by k_mem)
  | exact ne_gt2 (by with_reducible assumption) (by with_reducible assumption) (by k_mem)
  | exact ne_offI (by with_reducible assumption) (by k_mem)
  | exact ne_offC (by with_reducible assumption) (by k_mem)
  | exact ne_offD (by with_reducible assumption) (by k_mem)
  | exact ne_off1 (by with_reducible assumption) (by k_mem)
  | exact Ne.symm (ne_offI (by with_reducible assumption) (by k_mem))
  | exact Ne.symm (ne_offC (by with_reducible assumption) (by k_mem))
  | exact Ne.symm (ne_offD (by with_reducible assumption) (by k_mem))
  | exact Ne.symm (ne_off1 (by with_reducible assumption) (by k_mem))
  | omega))
local macro_rules | `(tactic| walk_at "CompRest") => `(tactic| (with_unfolding_all first
  | (refine LCg.CompRest.succ ?_; intro v' I' oI' C' oC' D' m' h' tk' E' hv' hC' hx' F' N' off' ne'; (first | lcg_open hv' | (obtain ⟨t9', hv9'⟩ := hv'; subst hv9')); (replace ne' := Ne3.mk ne'))
  | refine LCg.CompRest.zero ?_))
local macro_rules | `(tactic| walk_at "FinE") => `(tactic| ((unfold LCg.FinE); intro D' h' tk' F' N' o1'; (try simp only [List.nil_append, List.cons_append] at N'); (try dsimp only)))
local macro_rules | `(tactic| walk_at "FinA") => `(tactic| ((unfold LCg.FinA); intro D' h' tk' F' N' o1'; (try simp only [List.nil_append, List.cons_append] at N'); (try dsimp only)))
local macro_rules | `(tactic| walk_at "call builtin:list.append") => `(tactic| (k_here; (show wpAny _ _ (call (Value.builtin "list.append") [Value.ref _, _]) _ _ _); k_dflt (refine' append_K ?k1 ?k2 ?k3 ?_ ?z; (case k1 => k_asm); (case k2 => k_asm); (case k3 => k_upd); (case z => size_fits); k_whole); intro h' F' N'; (try k_sweep)))
theorem paper (w : World) (mean : ExcName → Option Value) (mg mb : Str → Option Value) (sh : Addr) (o : Obj) (v0 v1 v2 v3 v4 v5 : Int) (hT : IsTab w sh o (six v0 v1 v2 v3 v4 v5)) :
    Says w mean mg mb 1 75 [(sh, o)] [.ref sh] (paperOut v0 v1 v2 v3 v4 v5) := by
  obtain ⟨kvs, h1, f1, s1⟩ := hT
  unfold Says
  k_fill
  intro dp un gd cn cs a ccd cl outer A₀ base h₀ L m news s Q E B F X N T hk hneed hd hu hret
  w_on
  k_with_none
  refine wpAny_call ?_
  k_dflt (refine' code_sub ?k1 ?k2 ?k3 ?k4 ?k5 ?kA ?kF ?kK ?k6 ?k7 ?k8 ?k9 ?kB ?kn ?_ ?kR ?c2 ?c3 ?c4 ?c5; (case kA => exact rfl); (case kF => exact rfl); (case kK => assumption); (case k1 => k_asm); (case k2 => k_asm); (case k3 => k_asm); (case k4 => k_asm); (case k5 => k_asm); (case k6 => k_is); (case k7 => k_is); (case k8 => ktr_room); (case k9 => exact BindsTo.of_eq rfl); (case c5 => decide); (case kB => exact locs rfl); (case c2 => exact rfl); (case c3 => exact rfl); (case c4 => exact rfl); (case kn => assumption); (case kR => assumption); k_whole; intro g' L' h' FG' F' N' B' X' T' hLt' hOth'; (try dsimp only); (try k_lift B'); (try k_fold))
  k_steps
  all_goals (try dsimp only)
  k_steps
  rename News _ _ _ _ => NN
  simp only [List.push_toArray, List.cons_append, List.nil_append] at NN
  refine BodyEnd.intro (by k_asm) NN (sub3 (by k_mem) (by k_mem) (by k_mem)) (by lcg_sub) (off_31 (by k_ne) (by k_ne) (by k_ne)) (paper_out ⟨?_, ?_, ?_, ?_, ?_, ?_, ?_, ?_, ?_, ?_, ?_, ?_⟩)
  all_goals with_reducible rfl
end
end Mine
namespace Mine

/-- what compare tells of two rows by the columns in the list -/
def cmpAt (l r : List UInt8) (d : Int) : List Nat → Int
  | [] => 0
  | i :: is => if ((l.getD i 0).toNat : Int) < ((r.getD i 0).toNat : Int) then -d else if ((r.getD i 0).toNat : Int) < ((l.getD i 0).toNat : Int) then d else cmpAt l r d is
abbrev selO (w : World) (l : Addr) (tk : Tok) : Obj := dictOf [{ hash := PyData.keyHash w.params (Str.ofString "comp_select_list"), key := Value.str (Str.ofString "comp_select_list") tk, val := Value.ref l }] 1
abbrev pairO (c d : Int) (t t' : Tok) : Obj := { cls := .type "tuple", data := .seq #[.int c t, .int d t'] }
/-- a pair's place, its column, its tokens -/
abbrev Pr := Addr × Int × Tok × Tok
abbrev prO (d : Int) (p : Pr) : Addr × Obj := (p.1, pairO p.2.1 d p.2.2.1 p.2.2.2)
abbrev prV (p : Pr) : Value := .ref p.1
abbrev prC (p : Pr) : Nat := p.2.1.toNat
/-- a turn of compare's loop ends -/
def CmpTurn (h₀ : Heap) (L : Addr) (s : Shared) (own news : List (Addr × Obj)) (J : (Str → Option Value) → Prop) (lf rt : List UInt8) (d : Int) (c : Nat) (f : Flow) (s' : Shared) : Prop :=
  ∃ h' tk' m', s' = { s with heap := h', toks := tk' } ∧ Fr h₀ L h' m' ∧ News h₀ L h' (own ++ news) ∧
    ((f = .next ∧ J m' ∧ ¬ ((lf.getD c 0).toNat : Int) < ((rt.getD c 0).toNat : Int) ∧ ¬ ((rt.getD c 0).toNat : Int) < ((lf.getD c 0).toNat : Int)) ∨
     ∃ v t, f = .ret (.int v t) ∧ ((v = -d ∧ ((lf.getD c 0).toNat : Int) < ((rt.getD c 0).toNat : Int)) ∨ (v = d ∧ ¬ ((lf.getD c 0).toNat : Int) < ((rt.getD c 0).toNat : Int) ∧ ((rt.getD c 0).toNat : Int) < ((lf.getD c 0).toNat : Int))))
section
variable {prog : Program} {w : World} {A : Around} {E : Value → Shared → Prop} {s : Shared} {env : Env} {h₀ : Heap} {body : List Stmt} {Q : Flow → Shared → Prop} {m0 : Str → Option Value} {news : List (Addr × Obj)} {I : Addr}
theorem fr4 {L : Addr} {h : Heap} {x y y2 y3 : Str} {m : Str → Option Value} (F : Fr h₀ L h m) (hm : ∀ z, z ≠ x → z ≠ y → z ≠ y2 → z ≠ y3 → m z = m0 z) :
    Fr h₀ L h (fun z => if z = x then m x else if z = y then m y else if z = y2 then m y2 else if z = y3 then m y3 else m0 z) := by
  have e : (fun z => if z = x then m x else if z = y then m y else if z = y2 then m y2 else if z = y3 then m y3 else m0 z) = m := by
    funext z
    by_cases h1 : z = x
    · rw [if_pos h1, h1]
    · rw [if_neg h1]
      by_cases h2 : z = y
      · rw [if_pos h2, h2]
      · rw [if_neg h2]
        by_cases h3 : z = y2
        · rw [if_pos h3, h3]
        · rw [if_neg h3]
          by_cases h4 : z = y3
          · rw [if_pos h4, h4]
          · rw [if_neg h4, hm z h1 h2 h3 h4]
  rw [e]; exact F
theorem news_at {L : Addr} {h : Heap} {x : Addr × Obj} {all : List (Addr × Obj)} (N : News h₀ L h all) (hx : x ∈ all) : News h₀ L h (x :: all) := fun p hp => by
  rcases List.mem_cons.mp hp with rfl | hp
  · exact N _ hx
  · exact N p hp
theorem cmp_turns {target : Expr} {x y y2 y3 : Str} {keep : List (Addr × Obj)} {cls : String} {lf rt : List UInt8} {d : Int} (off : ∀ p ∈ news, p.1 ≠ I) (hk : SubL keep news)
    (turn : ∀ (a : Addr) (c : Int) (t t' : Tok), 0 ≤ c → c < 6 → ∀ (u0 u1 u2 u3 : Option Value) (oI : Obj) h tk, Fr h₀ env.locals h (fun z => if z = x then u0 else if z = y then u1 else if z = y2 then u2 else if z = y3 then u3 else m0 z) → News h₀ env.locals h ((a, pairO c d t t') :: (I, oI) :: news) →
      wpAny (model prog w) A (assign target env (.ref a)) (fun _ s₂ => wpAny (model prog w) A (execs body env) (CmpTurn h₀ env.locals { s with heap := h, toks := tk } [(I, oI)] news (fun m' => ∀ z, z ≠ x → z ≠ y → z ≠ y2 → z ≠ y3 → m' z = m0 z) lf rt d c.toNat) E s₂) E { s with heap := h, toks := tk })
    (all : List Nat)
    (ret : ∀ v t h tk m, v = cmpAt lf rt d all → Fr h₀ env.locals h m → News h₀ env.locals h news → Q (.ret (.int v t)) { s with heap := h, toks := tk })
    (done : ∀ (u0 u1 u2 u3 : Option Value) h tk, 0 = cmpAt lf rt d all → Fr h₀ env.locals h (fun z => if z = x then u0 else if z = y then u1 else if z = y2 then u2 else if z = y3 then u3 else m0 z) → News h₀ env.locals h news → Q .next { s with heap := h, toks := tk }) :
    ∀ (ps : List Pr) (_ : ∀ p ∈ ps, prO d p ∈ news ∧ 0 ≤ p.2.1 ∧ p.2.1 < 6) (_ : cmpAt lf rt d all = cmpAt lf rt d (ps.map prC)) (m : Str → Option Value) (_ : ∀ z, z ≠ x → z ≠ y → z ≠ y2 → z ≠ y3 → m z = m0 z),
      ItemsRest prog w A E h₀ env target body Q s [(I, cls)] keep ((ps.map prV).map .val) m news
  | [], _, ha, m, hm => ItemsRest.zero fun h tk F N => done _ _ _ _ h tk ha.symm (fr4 F hm) N
  | p :: ps, hp, ha, m, hm => ItemsRest.val fun h tk F => AllObj.cons fun oI _ => AllObj.nil fun N => by
    have hp0 := hp p (.head _)
    refine wpAny_mono (turn p.1 p.2.1 p.2.2.1 p.2.2.2 hp0.2.1 hp0.2.2 _ _ _ _ oI h tk (fr4 F hm) (news_at N (.tail _ hp0.1))) (fun _ s₂ h₂ => wpAny_mono h₂ (fun f s' hq => ?_) fun _ _ e => e) fun _ _ e => e
    obtain ⟨h', tk', m', rfl, F', N', hq⟩ := hq
    have N1 : News h₀ env.locals h' news := fun q hq => N' q (.tail _ hq)
    rcases hq with ⟨rfl, hm', n1, n2⟩ | ⟨v, t, rfl, ⟨rfl, l1⟩ | ⟨rfl, n1, l2⟩⟩
    · refine ⟨h', tk', m', news, rfl, F', N', fun p hp q hq => ?_, hk, cmp_turns off hk turn all ret done ps (fun q hq => hp q (.tail _ hq)) ?_ m' hm'⟩
      · rw [List.mem_singleton.mp hq]; exact off p hp
      · rw [ha]
        show cmpAt lf rt d (prC p :: ps.map prC) = _
        rw [cmpAt, if_neg n1, if_neg n2]
    · refine ret (-d) t h' tk' m' ?_ F' N1
      rw [ha]
      show _ = cmpAt lf rt d (prC p :: ps.map prC)
      rw [cmpAt, if_pos l1]
    · refine ret v t h' tk' m' ?_ F' N1
      rw [ha]
      show _ = cmpAt lf rt v (prC p :: ps.map prC)
      rw [cmpAt, if_neg n1, if_pos l2]
end
end Mine
namespace Mine

theorem CmpTurn.nxt {h₀ : Heap} {L : Addr} {s : Shared} {own news all : List (Addr × Obj)} {J : (Str → Option Value) → Prop} {lf rt : List UInt8} {d : Int} {c : Nat} {h' : Heap} {tk' : Nat} {m' : Str → Option Value} (F : Fr h₀ L h' m') (N : News h₀ L h' all) (sub : ∀ p ∈ own ++ news, p ∈ all) (j : J m')
    (n1 : ¬ ((lf.getD c 0).toNat : Int) < ((rt.getD c 0).toNat : Int)) (n2 : ¬ ((rt.getD c 0).toNat : Int) < ((lf.getD c 0).toNat : Int)) : CmpTurn h₀ L s own news J lf rt d c .next { s with heap := h', toks := tk' } :=
  ⟨h', tk', m', rfl, F, fun p hp => N p (sub p hp), .inl ⟨rfl, j, n1, n2⟩⟩
theorem CmpTurn.lt {h₀ : Heap} {L : Addr} {s : Shared} {own news all : List (Addr × Obj)} {J : (Str → Option Value) → Prop} {lf rt : List UInt8} {d : Int} {c : Nat} {t : Tok} {h' : Heap} {tk' : Nat} {m' : Str → Option Value} (F : Fr h₀ L h' m') (N : News h₀ L h' all) (sub : ∀ p ∈ own ++ news, p ∈ all)
    (l1 : ((lf.getD c 0).toNat : Int) < ((rt.getD c 0).toNat : Int)) : CmpTurn h₀ L s own news J lf rt d c (.ret (.int (-d) t)) { s with heap := h', toks := tk' } :=
  ⟨h', tk', m', rfl, F, fun p hp => N p (sub p hp), .inr ⟨_, t, rfl, .inl ⟨rfl, l1⟩⟩⟩
theorem CmpTurn.gt {h₀ : Heap} {L : Addr} {s : Shared} {own news all : List (Addr × Obj)} {J : (Str → Option Value) → Prop} {lf rt : List UInt8} {d : Int} {c : Nat} {t : Tok} {h' : Heap} {tk' : Nat} {m' : Str → Option Value} (F : Fr h₀ L h' m') (N : News h₀ L h' all) (sub : ∀ p ∈ own ++ news, p ∈ all)
    (n1 : ¬ ((lf.getD c 0).toNat : Int) < ((rt.getD c 0).toNat : Int)) (l2 : ((rt.getD c 0).toNat : Int) < ((lf.getD c 0).toNat : Int)) : CmpTurn h₀ L s own news J lf rt d c (.ret (.int d t)) { s with heap := h', toks := tk' } :=
  ⟨h', tk', m', rfl, F, fun p hp => N p (sub p hp), .inr ⟨_, t, rfl, .inr ⟨rfl, n1, l2⟩⟩⟩
theorem byte_item {prog : Program} {w : World} {A : Around} {E : Value → Shared → Prop} {s : Shared} {value slice : Expr} {l : List UInt8} {c : Int} {t u : Tok} {Q : Value → Shared → Prop} (hl : l.length = 6) (h0 : 0 ≤ c) (h6 : c < 6) (h : Q (.int (l.getD c.toNat 0).toNat s.toks) { s with toks := s.toks + 1 })
    (hs : subscripted slice false (.bytes l.toArray t) (.int c u) = operate [.bytes l.toArray t, .int c u] (getItem (.bytes l.toArray t) (.int c u)) := by with_unfolding_all rfl) :
    wpAny (model prog w) A (subscriptTail value slice (.bytes l.toArray t) (.int c u)) Q E s :=
  tail_any (typeIs_bytes _ _ t) FB.slot_bytes_getitem.lookup (getItem_bytes (by rw [hl]; decide) h0 (by rw [hl]; exact h6) h) hs
theorem own_sub {I : Addr} {oI : Obj} {news : List (Addr × Obj)} {x : Addr × Obj} : ∀ p ∈ [(I, oI)] ++ news, p ∈ x :: (I, oI) :: news := fun _ hp => .tail _ hp
section
local macro_rules | `(tactic| walk_at "exec For Tuple Attribute cons nil") => `(tactic| (k_here; (rename Fr _ _ _ _ => lF'); (with_unfolding_all refine' For_turns lF' ?_; k_whole)))
local macro_rules | `(tactic| walk_at "pyIter ref") => `(tactic| (k_here; refine Halt.on ?_))
theorem cmpS (w : World) (mean : ExcName → Option Value) (mg mb : Str → Option Value) (x dx l : Addr) (ps : List Pr) (tk tl tr : Tok) (lf rt : List UInt8) (d : Int) (hl : lf.length = 6) (hr : rt.length = 6) (hc : ∀ p ∈ ps, 0 ≤ p.2.1 ∧ p.2.1 < 6) :
    Says w mean mg mb 1 35 ((x, instObj 38 dx) :: (dx, selO w l tk) :: (l, LCg.lst (ps.map prV)) :: ps.map (prO d)) [.ref x, .bytes lf.toArray tl, .bytes rt.toArray tr]
      (fun ns r => ns = [] ∧ ∃ t', r = .int (cmpAt lf rt d (ps.map prC)) t') := by
  unfold Says
  k_fill
  intro dp un gd cn cs a ccd cl outer A₀ base h₀ L m news s Q E B F X N T hk hneed hd hu hret
  w_on
  k_with_none
  refine wpAny_call ?_
  k_dflt (refine' code_sub ?k1 ?k2 ?k3 ?k4 ?k5 ?kA ?kF ?kK ?k6 ?k7 ?k8 ?k9 ?kB ?kn ?_ ?kR ?c2 ?c3 ?c4 ?c5; (case kA => exact rfl); (case kF => exact rfl); (case kK => assumption); (case k1 => k_asm); (case k2 => k_asm); (case k3 => k_asm); (case k4 => k_asm); (case k5 => k_asm); (case k6 => k_is); (case k7 => k_is); (case k8 => ktr_room); (case k9 => exact BindsTo.of_eq rfl); (case c5 => decide); (case kB => exact locs rfl); (case c2 => exact rfl); (case c3 => exact rfl); (case c4 => exact rfl); (case kn => assumption); (case kR => assumption); k_whole; intro g' L' h' FG' F' N' B' X' T' hLt' hOth'; (try dsimp only); (try k_lift B'); (try k_fold))
  k_steps
  unfold Halt
  rename Fr _ _ _ _ => FF
  rename News _ _ _ _ => NN
  refine iter_listTurns (by rfl) FF NN (.tail _ (.tail _ (.head _))) rfl rfl fun I lI => ?_
  refine cmp_turns (x := Str.ofString "index") (y := Str.ofString "direction") (y2 := Str.ofString "l") (y3 := Str.ofString "r") (lf := lf) (rt := rt) (d := d) ?off ?hk ?turn (ps.map prC) ?ret ?done ps ?hp rfl _ (fun _ _ _ _ _ => rfl)
  case off => exact fun p hp => Nat.ne_of_lt (lI p hp)
  case hk => exact ⟨.tail _ (.tail _ (.head _)), trivial⟩
  case hp => exact fun p hp => ⟨.tail _ (.tail _ (.tail _ (List.mem_map_of_mem hp))), hc p hp⟩
  case turn =>
    clear FF NN hc
    intro a c t t' hc0 hc6 u0 u1 u2 u3 oI h' tk' F' N'
    (k_with "subscriptTail Name Name bytes int" => (k_here; refine byte_item (by assumption) hc0 hc6 ?_))
    k_steps
    all_goals first
      | exact CmpTurn.nxt (by k_asm) (by k_asm) own_sub (by intro z h1 h2 h3 h4; simp only [if_neg h1, if_neg h2, if_neg h3, if_neg h4]) (by with_reducible assumption) (by with_reducible assumption)
      | exact CmpTurn.lt (by k_asm) (by k_asm) own_sub (by with_reducible assumption)
      | exact CmpTurn.gt (by k_asm) (by k_asm) own_sub (by with_reducible assumption) (by with_reducible assumption)
  case ret =>
    intro v t h' tk' m' hv F' N'
    (try dsimp only)
    exact BodyEnd.intro (tl := []) F' N' (fun _ h => nomatch h) (fun _ h => h) (fun _ h => nomatch h) ⟨rfl, t, by rw [hv]⟩
  case done =>
    intro u0 u1 u2 u3 h' tk' hv F' N'
    (try dsimp only)
    k_steps
    (try dsimp only)
    exact BodyEnd.intro (tl := []) (by k_asm) (by k_asm) (fun _ h => nomatch h) (fun _ h => h) (fun _ h => nomatch h) ⟨rfl, _, by rw [← hv]⟩
end
end Mine
namespace Mine

abbrev rowsO (f : Nat → List UInt8) (t0 t1 t2 t3 t4 t5 t6 : Tok) (k : Nat) : Obj := listOf #[.bytes (f 0).toArray t0, .bytes (f 1).toArray t1, .bytes (f 2).toArray t2, .bytes (f 3).toArray t3, .bytes (f 4).toArray t4, .bytes (f 5).toArray t5, .bytes (f 6).toArray t6] k
theorem row_item {prog : Program} {w : World} {A : Around} {E : Value → Shared → Prop} {s : Shared} {h₀ : Heap} {L : Addr} {news : List (Addr × Obj)} {value slice : Expr} {f : Nat → List UInt8} {t0 t1 t2 t3 t4 t5 t6 : Tok} {k : Nat} {rl : Addr} {i : Int} {u : Tok} {Q : Value → Shared → Prop}
    (N : News h₀ L s.heap news) (hm : (rl, rowsO f t0 t1 t2 t3 t4 t5 t6 k) ∈ news) (h0 : 0 ≤ i) (h1 : i < 7) (h : ∀ t, Q (.bytes (f i.toNat).toArray t) s)
    (hs : subscripted slice false (.ref rl) (.int i u) = operate [.ref rl, .int i u] (getItem (.ref rl) (.int i u)) := by with_unfolding_all rfl) :
    wpAny (model prog w) A (subscriptTail value slice (.ref rl) (.int i u)) Q E s := by
  have hl : s.heap.IsList rl #[.bytes (f 0).toArray t0, .bytes (f 1).toArray t1, .bytes (f 2).toArray t2, .bytes (f 3).toArray t3, .bytes (f 4).toArray t4, .bytes (f 5).toArray t5, .bytes (f 6).toArray t6] := ⟨_, (N _ hm).1, rfl, k, rfl⟩
  obtain ⟨j, rfl⟩ := Int.eq_ofNat_of_zero_le h0
  have hj : j = 0 ∨ j = 1 ∨ j = 2 ∨ j = 3 ∨ j = 4 ∨ j = 5 ∨ j = 6 := by omega
  rcases hj with rfl | rfl | rfl | rfl | rfl | rfl | rfl
  all_goals exact tail_any hl.typeIs slot_list_getitem.lookup (wpAny_getItem_list hl h0 (by omega) rfl (h _)) hs
def toldOut (f : Nat → List UInt8) (d : Int) (is : List Nat) (ns : List (Addr × Obj)) (r : Value) : Prop :=
  ∃ D ys, r = .ref D ∧ ns = [(D, LCg.lst ys)] ∧ IntsAre ys ((rangeKs 0 6).map fun i => cmpAt (f i.toNat) (f (i + 1).toNat) d is)
theorem told_out {f : Nat → List UInt8} {d : Int} {is : List Nat} {D : Addr} {ys : List Value} (h : IntsAre ys ((rangeKs 0 6).map fun i => cmpAt (f i.toNat) (f (i + 1).toNat) d is)) :
    toldOut f d is [(D, LCg.lst ys)] (.ref D) := ⟨D, ys, rfl, rfl, h⟩
theorem told_sub {x : Addr × Obj} {news : List (Addr × Obj)} (h : x ∈ news) : ∀ p ∈ [x], p ∈ news := need1 h
theorem told_off {D rl : Addr} {o o' : Obj} (h : rl ≠ D) : ∀ q ∈ [(D, o)], ∀ p ∈ [(rl, o')], p.1 ≠ q.1 := by
  intro q hq p hp
  rw [List.mem_singleton.mp hq, List.mem_singleton.mp hp]
  exact h
def colsOf : Nat → List Nat
  | 0 => [] | 1 => [5] | 2 => [4, 5] | 3 => [3, 4, 5] | 4 => [2, 3, 4, 5] | 5 => [1, 2, 3, 4, 5] | _ => [0, 1, 2, 3, 4, 5]
theorem cols_are {sz : Int} (h0 : 0 ≤ sz) (h7 : sz < 7) : (rangeKs (6 - sz) sz.toNat).map Int.toNat = colsOf sz.toNat := by
  have h : sz = 0 ∨ sz = 1 ∨ sz = 2 ∨ sz = 3 ∨ sz = 4 ∨ sz = 5 ∨ sz = 6 := by omega
  rcases h with rfl | rfl | rfl | rfl | rfl | rfl | rfl <;> decide
/-- a pair is made, in front of what stands -/
def PairMade (h₀ : Heap) (L : Addr) (m : Str → Option Value) (s : Shared) (all : List (Addr × Obj)) (c d : Int) (y : Value) (s' : Shared) : Prop :=
  ∃ a t1 t2 h' tk', y = .ref a ∧ s' = { s with heap := h', toks := tk' } ∧ Fr h₀ L h' m ∧ News h₀ L h' ((a, pairO c d t1 t2) :: all) ∧ ∀ p ∈ all, p.1 < a
theorem lt_of {a : Addr} : ∀ {l : List (Addr × Obj)}, AllLt a l → ∀ p ∈ l, p.1 < a
  | [], _, _, hp => nomatch hp
  | _ :: _, h, p, hp => by
    rcases List.mem_cons.mp hp with rfl | hp
    · exact h.1
    · exact lt_of h.2 p hp
section
variable {prog : Program} {w : World} {A : Around} {s : Shared} {h₀ : Heap} {L : Addr} {m : Str → Option Value} {env : Env} {elt : Expr} {x : Str} {scope : Scope} {cl : List (Str × Addr)} {Fin : List Value → List (Addr × Obj) → Prop}
theorem comp_pairs {a d : Int} {n : Nat} {base : List (Addr × Obj)}
    (turn : ∀ (c : Int) (t : Tok) (pre : List (Addr × Obj)) (ys : List Value) I oI C oC D m₂ h tk (E' : Value → Shared → Prop), a ≤ c → c < a + n → LCg.NsObj oC m₂ → m₂ x = some (.int c t) → Fr h₀ L h m → News h₀ L h ((I, oI) :: (C, oC) :: (D, LCg.lst ys) :: (base ++ pre)) →
      wpAny (model prog w) A (eval elt (compEnvC scope cl C env)) (PairMade h₀ L m { s with heap := h, toks := tk } ((I, oI) :: (C, oC) :: (D, LCg.lst ys) :: (base ++ pre)) c d) E' { s with heap := h, toks := tk })
    (fin : ∀ ps : List Pr, ps.map (fun p => p.2.1) = rangeKs a n → (∀ b ∈ base, ∀ p ∈ ps.map (prO d), b.1 < p.1) → Fin (ps.map prV) (ps.reverse.map (prO d) ++ base)) :
    ∀ (k i : Nat) (ps : List Pr), k + i = n → ps.map (fun p => p.2.1) = rangeKs a i → (∀ b ∈ base, ∀ p ∈ ps.map (prO d), b.1 < p.1) →
      LCg.CompRest prog w A h₀ L m env elt x scope cl s (fun _ => True) (fun i v => ∃ t, v = .int (a + (i : Int)) t) Fin k i (ps.map prV) (ps.reverse.map (prO d) ++ base)
  | 0, i, ps, hk, hp, hl => LCg.CompRest.zero (fin ps (by rw [hp]; congr 1; omega) hl)
  | k + 1, i, ps, hk, hp, hl => LCg.CompRest.succ fun v I oI C oC D m₂ h tk E' hv hC hx F N off ne => by
    obtain ⟨t, rfl⟩ := hv
    have N1 : News h₀ L h ((I, oI) :: (C, oC) :: (D, LCg.lst (ps.map prV)) :: (base ++ ps.reverse.map (prO d))) := fun p hp => N p (by
      rcases List.mem_cons.mp hp with rfl | hp
      · exact .head _
      rcases List.mem_cons.mp hp with rfl | hp
      · exact .tail _ (.head _)
      rcases List.mem_cons.mp hp with rfl | hp
      · exact .tail _ (.tail _ (.head _))
      exact .tail _ (.tail _ (.tail _ (List.mem_append.mpr (List.mem_append.mp hp).symm))))
    refine wpAny_mono (turn (a + (i : Int)) t _ _ I oI C oC D m₂ h tk E' (by omega) (by omega) hC hx F N1) (fun y s' hy => ?_) fun _ _ e => e
    obtain ⟨b, t1, t2, h', tk', rfl, rfl, F', N', lt⟩ := hy
    refine ⟨h', tk', (b, pairO (a + (i : Int)) d t1 t2) :: (ps.reverse.map (prO d) ++ base), rfl, F', fun p hp => N' p ?_, ?_, trivial, ?_⟩
    · rcases List.mem_cons.mp hp with rfl | hp
      · exact .tail _ (.head _)
      rcases List.mem_cons.mp hp with rfl | hp
      · exact .tail _ (.tail _ (.head _))
      rcases List.mem_cons.mp hp with rfl | hp
      · exact .tail _ (.tail _ (.tail _ (.head _)))
      rcases List.mem_cons.mp hp with rfl | hp
      · exact .head _
      exact .tail _ (.tail _ (.tail _ (.tail _ (List.mem_append.mpr (List.mem_append.mp hp).symm))))
    · exact ⟨⟨Nat.ne_of_gt (lt _ (.head _)), Nat.ne_of_gt (lt _ (.tail _ (.head _))), Nat.ne_of_gt (lt _ (.tail _ (.tail _ (.head _))))⟩, off⟩
    · have h1 := comp_pairs turn fin k (i + 1) (ps ++ [(b, a + (i : Int), t1, t2)]) (by omega) (by
        rw [List.map_append, hp]
        show _ = (List.range (i + 1)).map _
        rw [List.range_succ, List.map_append]; rfl) (fun q hq p hp => by
        rw [List.map_append] at hp
        rcases List.mem_append.mp hp with hp | hp
        · exact hl q hq p hp
        · rw [List.mem_singleton.mp hp]
          exact lt q (.tail _ (.tail _ (.tail _ (List.mem_append_left _ hq)))))
      rw [List.map_append, List.reverse_append] at h1
      exact h1
end
end Mine
namespace Mine

theorem rangeSize_is {sz : Int} : Builtin.Range.rangeSize (6 - sz) 6 1 = ((sz.toNat : Nat) : Int) := by
  rw [rangeSize_nat, show (6 : Int) - (6 - sz) = sz by omega]
theorem pr_bd {sz : Int} {ps : List Pr} (h0 : 0 ≤ sz) (h7 : sz < 7) (h : ps.map (fun p => p.2.1) = rangeKs (6 - sz) sz.toNat) : ∀ p ∈ ps, 0 ≤ p.2.1 ∧ p.2.1 < 6 := fun p hp => by
  have hm : p.2.1 ∈ rangeKs (6 - sz) sz.toNat := h ▸ List.mem_map_of_mem (f := fun p : Pr => p.2.1) hp
  have := mem_rangeKs hm
  omega
theorem pr_cols {sz : Int} {ps : List Pr} (h0 : 0 ≤ sz) (h7 : sz < 7) (h : ps.map (fun p => p.2.1) = rangeKs (6 - sz) sz.toNat) : ps.map prC = colsOf sz.toNat := by
  rw [← cols_are h0 h7, ← h, List.map_map]; rfl
theorem news_turn {h₀ h : Heap} {L : Addr} {x : Addr × Obj} {d : Int} {ps : List Pr} {base : List (Addr × Obj)} (N : News h₀ L h (x :: (ps.reverse.map (prO d) ++ base))) : News h₀ L h (x :: (base ++ ps.map (prO d))) := fun p hp => N p (by
  rcases List.mem_cons.mp hp with rfl | hp
  · exact .head _
  refine .tail _ (List.mem_append.mpr ?_)
  rcases List.mem_append.mp hp with hp | hp
  · exact .inr hp
  · rw [List.map_reverse]; exact .inl (List.mem_reverse.mpr hp))
theorem off1_iff {D : Addr} : ∀ {l : List (Addr × Obj)}, LCg.Off1 D l ↔ ∀ p ∈ l, p.1 ≠ D
  | [] => ⟨fun _ _ hp => (nomatch hp), fun _ => trivial⟩
  | q :: r => ⟨fun h p hp => by
      rcases List.mem_cons.mp hp with rfl | hp
      · exact h.1
      · exact off1_iff.mp h.2 p hp, fun h => ⟨h q (.head _), off1_iff.mpr fun p hp => h p (.tail _ hp)⟩⟩
theorem off1_turn {D : Addr} {d : Int} {ps : List Pr} {base : List (Addr × Obj)} (h : LCg.Off1 D (ps.reverse.map (prO d) ++ base)) : LCg.Off1 D (base ++ ps.map (prO d)) := off1_iff.mpr fun p hp => off1_iff.mp h p (by
  refine List.mem_append.mpr ?_
  rcases List.mem_append.mp hp with hp | hp
  · exact .inr hp
  · rw [List.map_reverse]; exact .inl (List.mem_reverse.mpr hp))
theorem tail_ne {x : Addr} {l r : List (Addr × Obj)} (h : AllLt x l) (sub : ∀ p ∈ r, p ∈ l) : ∀ p ∈ r, p.1 ≠ x := fun p hp => Nat.ne_of_lt (lt_of h p (sub p hp))
theorem low_ne {x : Addr} {r : List (Addr × Obj)} (h : ∀ p ∈ r, x < p.1) : ∀ p ∈ r, p.1 ≠ x := fun p hp => Nat.ne_of_gt (h p hp)
section
local macro_rules | `(tactic| k_room) => `(tactic| ktr_room)
local macro_rules | `(tactic| k_lt $h:ident) => `(tactic| (replace $h := allLt_of $h))
local macro_rules | `(tactic| k_ne) => `(tactic| (refine neN ?_; (try dsimp only); first
  | with_reducible assumption
  | exact Ne.symm (by with_reducible assumption)
  | exact ne_lt (by with_reducible assumption) (by k_mem)
  | exact ne_gt (by with_reducible assumption) (by k_mem)
  | exact Nat.ne_of_lt (by with_reducible assumption)
  | exact Nat.ne_of_gt (by with_reducible assumption)
  | exact ne_lt2 (by with_reducible assumption) (by with_reducible assumption) (by k_mem)
  | exact ne_gt2 (by with_reducible assumption) (by with_reducible assumption) (by k_mem)
  | exact ne_offI (by with_reducible assumption) (by k_mem)
  | exact ne_offC (by with_reducible assumption) (by k_mem)
  | exact ne_offD (by with_reducible assumption) (by k_mem)
  | exact ne_off1 (by with_reducible assumption) (by k_mem)
  | exact Ne.symm (ne_offI (by with_reducible assumption) (by k_mem))
  | exact Ne.symm (ne_offC (by with_reducible assumption) (by k_mem))
  | exact Ne.symm (ne_offD (by with_reducible assumption) (by k_mem))
  | exact Ne.symm (ne_off1 (by with_reducible assumption) (by k_mem))
  | omega))
local macro_rules | `(tactic| walk_at "CompRest") => `(tactic| (with_unfolding_all first
  | (refine LCg.CompRest.succ ?_; intro v' I' oI' C' oC' D' m' h' tk' E' hv' hC' hx' F' N' off' ne'; (first | lcg_open hv' | (obtain ⟨t9', hv9'⟩ := hv'; subst hv9')); (replace ne' := Ne3.mk ne'))
  | refine LCg.CompRest.zero ?_))
local macro_rules | `(tactic| walk_at "FinE") => `(tactic| ((unfold LCg.FinE); intro D' h' tk' F' N' o1'; (try simp only [List.nil_append, List.cons_append] at N'); (try dsimp only)))
local macro_rules | `(tactic| walk_at "FinA") => `(tactic| ((unfold LCg.FinA); intro D' h' tk' F' N' o1'; (try simp only [List.nil_append, List.cons_append] at N'); (try dsimp only)))
local macro_rules | `(tactic| k_all) => `(tactic| first
  | exact low_ne (by with_reducible assumption)
  | exact tail_ne (by with_reducible assumption) (fun p9 hp9 => by repeat (first | exact hp9 | refine List.Mem.tail _ ?_))
  | exact List.forall_mem_nil _
  | (refine' List.forall_mem_cons.mpr ⟨?a, ?b⟩; (case a => k_ne); (case b => k_all)))
local macro_rules | `(tactic| walk_at "CompSrc") => `(tactic| (k_here; k_dflt (refine LCg.CompSrc.range (by rfl) (by k_asm) (by k_asm) (by assumption) (by first | decide | exact small_one (by omega) (by omega) (by omega) (by omega)) (by first | with_reducible exact rangeSize_is | rfl | decide) (by first | size_fits | exact Nat.le_of_ble_eq_true rfl | (rw [sizeLine_eq]; omega)) ?_; intro g'; (try lcg_lit))))
local macro_rules | `(tactic| walk_at "subscriptTail Name Name ref int") => `(tactic| (k_here; k_dflt (refine' row_item ?k1 ?k2 ?k3 ?k4 ?_; (case k1 => k_asm); (case k2 => k_mem); (case k3 => omega); (case k4 => omega); intro t9)))
local macro_rules | `(tactic| walk_at "subscriptTail Name BinOp ref int") => `(tactic| (k_here; k_dflt (refine' row_item ?k1 ?k2 ?k3 ?k4 ?_; (case k1 => k_asm); (case k2 => k_mem); (case k3 => omega); (case k4 => omega); intro t9)))
local macro_rules | `(tactic| walk_at "CompRest") => `(tactic| refine Halt.on ?_)
theorem told (w : World) (mean : ExcName → Option Value) (mg mb : Str → Option Value) (rl : Addr) (k : Nat) (f : Nat → List UInt8) (t0 t1 t2 t3 t4 t5 t6 : Tok) (sz d : Int) (ts td : Tok) (hf : ∀ i, (f i).length = 6) (h0 : 0 ≤ sz) (h7 : sz < 7) :
    Says w mean mg mb 2 87 [(rl, rowsO f t0 t1 t2 t3 t4 t5 t6 k)] [.ref rl, .int sz ts, .int d td] (toldOut f d (colsOf sz.toNat)) := by
  unfold Says
  k_fill
  intro dp un gd cn cs a ccd cl outer A₀ base h₀ L m news s Q E B F X N T hk hneed hd hu hret
  w_on
  k_with_none
  refine wpAny_call ?_
  k_dflt (refine' code_subC ?k1 ?k2 ?k3 ?k4 ?k5 ?kA ?kF ?kK ?k6 ?k7 ?k8 ?k9 ?kB ?kD ?kn ?_ ?kR ?c2 ?c3 ?c4; (case kA => exact rfl); (case kF => exact rfl); (case kK => assumption); (case k1 => k_asm); (case k2 => k_asm); (case k3 => k_asm); (case k4 => k_asm); (case k5 => k_asm); (case k6 => k_is); (case k7 => k_is); (case k8 => ktr_room); (case k9 => exact BindsTo.of_eq rfl); (case kB => exact rfl); (case kD => decide +kernel); (case c2 => exact rfl); (case c3 => exact rfl); (case c4 => exact rfl); (case kn => assumption); (case kR => assumption); k_whole; intro g' L' h' tk' cells' FG' F' N' Y' B' X' T' l1 hLe' hOth'; (try (replace l1 := allLt_of l1; simp only [AllLt, and_true] at l1)); k_cells Y'; (try simp only [List.cons_append, List.nil_append] at N'); (try dsimp only); (try k_lift B'); (try k_fold))
  k_steps
  unfold Halt
  refine comp_pairs (a := 6 - sz) (d := d) (n := sz.toNat) ?turn ?fin sz.toNat 0 [] (Nat.add_zero _) rfl (fun _ _ _ h => nomatch h)
  case turn =>
    intro c t pre ys I oI C oC D m₂ h' tk' E' hc0 hc6 hC' hx' F' N'
    simp only [List.cons_append, List.nil_append] at N'
    k_steps
    exact ⟨_, _, _, _, _, rfl, rfl, by k_asm, by k_asm, lt_of (by assumption)⟩
  case fin =>
    intro ps hps hlow
    simp only [List.forall_mem_cons] at hlow
    obtain ⟨q1, q2, q3, q4, _⟩ := hlow
    have hbd := pr_bd h0 h7 hps
    have hpc := pr_cols h0 h7 hps
    clear hps
    unfold LCg.FinE
    intro D' h' tk' F' N' o1'
    replace N' := news_turn N'
    replace o1' := off1_turn o1'
    simp only [List.cons_append, List.nil_append] at N' o1'
    (try dsimp only)
    (k_with "call ref" => (k_here; (with_reducible show wpAny _ _ (call (Value.ref 35) _) _ _ _); k_dflt (refine' Says.use (cmpS _ _ _ _ _ _ _ ps _ _ _ _ _ d (hf _) (hf _) hbd) ?k1 ?k2 ?k3 ?k4 ?k5 ?kK ?kn ?kd ?ku ?_; (case k1 => k_asm); (case k2 => k_asm); (case k3 => k_asm); (case k4 => k_asm); (case k5 => k_asm); (case kK => first | exact rfl | assumption); (case kn => refine List.forall_mem_cons.mpr ⟨by k_mem, List.forall_mem_cons.mpr ⟨by k_mem, List.forall_mem_cons.mpr ⟨by k_mem, fun p9 hp9 => ?_⟩⟩⟩; (repeat (first | exact hp9 | refine List.Mem.tail _ ?_))); (case kd => ktr_room); (case ku => ktr_units); intro r9 tl9 h9 tk9 F9 N9 hl9 ho9; obtain ⟨rfl, t9, rfl⟩ := ho9; simp only [List.nil_append] at N9; clear hl9; (try dsimp only); (try k_sweep); (try k_fold))))
    (k_with "KCfEl" => exact ⟨rfl, _, rfl⟩)
    k_steps
    unfold Halt
    refine kcf_range (fun i => cmpAt (f i.toNat) (f (i + 1).toNat) d (ps.map prC)) ?turn2 ?fin2
    case turn2 =>
      intro k9 t9 I' oI' C' oC' D' m' ys' h' tk' E' hk0 hk1 hC' hx' F' N' off' ne' mk'
      replace ne' := Ne3.mk ne'
      replace hk0 : 0 ≤ k9 := hk0
      replace hk1 : k9 < 6 := hk1
      (try dsimp only)
      (try k_fold)
      k_steps
    case fin2 =>
      rw [hpc]
      unfold KPfDone
      intro ys9 hys9
      k_steps
      all_goals (try dsimp only)
      exact BodyEnd.intro (by k_asm) (by k_asm) (told_sub (by k_mem)) (by lcg_sub) (told_off (by k_ne)) (told_out hys9)
end
end Mine
namespace Mine

theorem pow16 {prog : Program} {w : World} {A : Around} {E : Value → Shared → Prop} {s : Shared} {n q : Int} {t u : Tok} {Q : Value → Shared → Prop} (hq : (16 : Int) ^ n.toNat = q) (h0 : 0 ≤ n) (h6 : n ≤ 6) (h : Q (.int q s.toks) { s with toks := s.toks + 1 }) :
    wpAny (model prog w) A (binaryOp .Pow (.int 16 t) (.int n u)) Q E s := by
  subst hq
  exact pow_int_small h0 (by omega) (by decide) h

def meantOne (q d t c : Int) : Int := if c.fmod q = 0 then 0 else if q ≤ t.fmod q + c.fmod q then d else -d
def meantL (q d : Int) : Int → List Int → List Int
  | _, [] => []
  | t, c :: cs => meantOne q d t c :: meantL q d (t + c) cs
theorem meantL_snoc (q d : Int) (c : Int) : ∀ (t : Int) (cs : List Int), meantL q d t (cs ++ [c]) = meantL q d t cs ++ [meantOne q d (t + cs.sum) c]
  | t, [] => by simp [meantL]
  | t, b :: cs => by
    show meantOne q d t b :: meantL q d (t + b) (cs ++ [c]) = _
    rw [meantL_snoc q d c (t + b) cs]
    simp only [meantL, List.cons_append, List.sum_cons]
    rw [Int.add_assoc]
theorem meantL_length (q d : Int) : ∀ (t : Int) (cs : List Int), (meantL q d t cs).length = cs.length
  | _, [] => rfl
  | t, c :: cs => by simp [meantL, meantL_length q d (t + c) cs]

theorem meant_start (q d : Int) : (0 : Int) = ([] : List Int).sum ∧ ([] : List Int).length = ([] : List Int).length ∧ ([] : List Int) = meantL q d 0 [] := ⟨rfl, rfl, rfl⟩
theorem meant_turn {q d t n v : Int} {pre mt : List Int} (h1 : t = pre.sum) (hl : mt.length = pre.length) (h2 : mt = meantL q d 0 pre) (hv : v = meantOne q d t n) :
    t + n = (pre ++ [n]).sum ∧ (mt ++ [v]).length = (pre ++ [n]).length ∧ mt ++ [v] = meantL q d 0 (pre ++ [n]) := by
  refine ⟨?_, ?_, ?_⟩
  · rw [h1]; simp
  · simp [hl]
  · rw [meantL_snoc, h2, hv, h1]; simp
theorem meant0 {q d t n : Int} (h : n.fmod q = 0) : 0 = meantOne q d t n := by unfold meantOne; rw [if_pos h]
theorem meant1 {q d t n : Int} (h : n.fmod q ≠ 0) (h' : q ≤ t.fmod q + n.fmod q) : d = meantOne q d t n := by unfold meantOne; rw [if_neg h, if_pos h']
theorem meant2 {q d t n : Int} (h : n.fmod q ≠ 0) (h' : ¬ q ≤ t.fmod q + n.fmod q) : -d = meantOne q d t n := by unfold meantOne; rw [if_neg h, if_neg h']

def listOut (zs : List Int) (ns : List (Addr × Obj)) (r : Value) : Prop :=
  ∃ D ys k, r = .ref D ∧ ns = [(D, listOf ys k)] ∧ IntsAre ys.toList zs

theorem list_out {zs : List Int} {D : Addr} {ys : List Value} {k : Nat} (h : IntsAre ys zs) : listOut zs [(D, listOf ys.toArray k)] (.ref D) := ⟨D, ys.toArray, k, rfl, rfl, h⟩
section

local macro_rules | `(tactic| walk_at "call builtin:list.append") => `(tactic| (k_here; (show wpAny _ _ (call (Value.builtin "list.append") [Value.ref _, _]) _ _ _); k_dflt (refine' append_K ?k1 ?k2 ?k3 ?_ ?z; (case k1 => k_asm); (case k2 => k_asm); (case k3 => k_upd); (case z => size_fits); k_whole); intro h' F' N'; (try k_sweep)))
local macro_rules | `(tactic| walk_at "binaryOp Pow int int") => `(tactic| (k_here; refine pow16 (by assumption) (by assumption) (by assumption) ?_))
theorem meant (w : World) (mean : ExcName → Option Value) (mg mb : Str → Option Value) (ol : Addr) (vs : List Value) (ns : List Int) (n : Nat) (hI : IntsAre vs ns) (hlen : ns.length = 6) (sz q d : Int) (ts td : Tok) (hq : (16 : Int) ^ sz.toNat = q) (hs0 : 0 ≤ sz) (hs6 : sz ≤ 6) (hq0 : 0 < q) :
    Says w mean mg mb 1 94 [(ol, listOf vs.toArray n)] [.ref ol, .int sz ts, .int d td] (listOut (meantL q d 0 ns)) := by
  unfold Says
  k_fill
  intro dp un gd cn cs a ccd cl outer A₀ base h₀ L m news s Q E B F X N T hk hneed hd hu hret
  w_on
  k_with_none
  refine wpAny_call ?_
  k_dflt (refine' code_sub ?k1 ?k2 ?k3 ?k4 ?k5 ?kA ?kF ?kK ?k6 ?k7 ?k8 ?k9 ?kB ?kn ?_ ?kR ?c2 ?c3 ?c4 ?c5; (case kA => exact rfl); (case kF => exact rfl); (case kK => assumption); (case k1 => k_asm); (case k2 => k_asm); (case k3 => k_asm); (case k4 => k_asm); (case k5 => k_asm); (case k6 => k_is); (case k7 => k_is); (case k8 => ktr_room); (case k9 => exact BindsTo.of_eq rfl); (case c5 => decide); (case kB => exact locs rfl); (case c2 => exact rfl); (case c3 => exact rfl); (case c4 => exact rfl); (case kn => assumption); (case kR => assumption); k_whole; intro g' L' h' FG' F' N' B' X' T' hLt' hOth'; (try dsimp only); (try k_lift B'); (try k_fold))
  (k_with "pyIter ref" => k_state (fun pre total meant => total = pre.sum ∧ meant.length = pre.length ∧ meant = meantL q d 0 pre) "total" "meant")
  k_with "state" => exact meant_start _ _
  k_with "state" => exact meant_turn (by assumption) (by assumption) (by assumption) (meant0 (by assumption))
  k_with "state" => exact meant_turn (by assumption) (by assumption) (by assumption) (meant1 (by assumption) (by assumption))
  k_with "state" => exact meant_turn (by assumption) (by assumption) (by assumption) (meant2 (by assumption) (by assumption))
  k_steps
  all_goals (try dsimp only)
  k_steps
  subst_vars
  exact BodyEnd.intro (by k_asm) (by k_asm) (told_sub (by k_mem)) (by lcg_sub) (told_off (by k_ne)) (list_out (by assumption))
end
end Mine
namespace Mine

def psum (ns : List Int) (i : Nat) : Int := (ns.take i).sum
def rowF (ns : List Int) (i : Nat) : List UInt8 := row6 (psum ns i).natAbs
theorem rowF_length (ns : List Int) (i : Nat) : (rowF ns i).length = 6 := rfl
theorem row_eq {a : Int} {ns : List Int} {i : Nat} (h : a.natAbs = (psum ns i).natAbs) : row6 a.natAbs = rowF ns i := by unfold rowF; rw [h]
def rowsOut (ns : List Int) (nw : List (Addr × Obj)) (r : Value) : Prop := ∃ D t0 t1 t2 t3 t4 t5 t6 k, r = .ref D ∧ nw = [(D, rowsO (rowF ns) t0 t1 t2 t3 t4 t5 t6 k)]
theorem rows_out {ns : List Int} {D : Addr} {t0 t1 t2 t3 t4 t5 t6 : Tok} {k : Nat} {x0 x1 x2 x3 x4 x5 x6 : List UInt8} (e0 : x0 = rowF ns 0) (e1 : x1 = rowF ns 1) (e2 : x2 = rowF ns 2) (e3 : x3 = rowF ns 3) (e4 : x4 = rowF ns 4) (e5 : x5 = rowF ns 5) (e6 : x6 = rowF ns 6) :
    rowsOut ns [(D, listOf #[.bytes x0.toArray t0, .bytes x1.toArray t1, .bytes x2.toArray t2, .bytes x3.toArray t3, .bytes x4.toArray t4, .bytes x5.toArray t5, .bytes x6.toArray t6] k)] (.ref D) := by
  subst e0 e1 e2 e3 e4 e5 e6
  exact ⟨D, t0, t1, t2, t3, t4, t5, t6, k, rfl, rfl⟩
section
local macro_rules | `(tactic| k_room) => `(tactic| ktr_room)
local macro_rules | `(tactic| k_lt $h:ident) => `(tactic| (replace $h := allLt_of $h))
local macro_rules | `(tactic| k_ne) => `(tactic| (refine neN ?_; (try dsimp only); first
  | with_reducible assumption
  | exact Ne.symm (by with_reducible assumption)
  | exact ne_lt (by with_reducible assumption) (by k_mem)
  | exact ne_gt (by with_reducible assumption) (by k_mem)
  | exact Nat.ne_of_lt (by with_reducible assumption)
  | exact Nat.ne_of_gt (by with_reducible assumption)
  | exact ne_lt2 (by with_reducible assumption) (by with_reducible assumption) (by k_mem)
  | exact ne_gt2 (by with_reducible assumption) (by with_reducible assumption) (by k_mem)
  | exact ne_offI (by with_reducible assumption) (by k_mem)
  | exact ne_offC (by with_reducible assumption) (by k_mem)
  | exact ne_offD (by with_reducible assumption) (by k_mem)
  | exact ne_off1 (by with_reducible assumption) (by k_mem)
  | exact Ne.symm (ne_offI (by with_reducible assumption) (by k_mem))
  | exact Ne.symm (ne_offC (by with_reducible assumption) (by k_mem))
  | exact Ne.symm (ne_offD (by with_reducible assumption) (by k_mem))
  | exact Ne.symm (ne_off1 (by with_reducible assumption) (by k_mem))
  | omega))
local macro_rules | `(tactic| walk_at "CompRest") => `(tactic| (with_unfolding_all first
  | (refine LCg.CompRest.succ ?_; intro v' I' oI' C' oC' D' m' h' tk' E' hv' hC' hx' F' N' off' ne'; (first | lcg_open hv' | (obtain ⟨t9', hv9'⟩ := hv'; subst hv9')); (replace ne' := Ne3.mk ne'))
  | refine LCg.CompRest.zero ?_))
local macro_rules | `(tactic| walk_at "FinE") => `(tactic| ((unfold LCg.FinE); intro D' h' tk' F' N' o1'; (try simp only [List.nil_append, List.cons_append] at N'); (try dsimp only)))
local macro_rules | `(tactic| walk_at "FinA") => `(tactic| ((unfold LCg.FinA); intro D' h' tk' F' N' o1'; (try simp only [List.nil_append, List.cons_append] at N'); (try dsimp only)))
local macro_rules | `(tactic| walk_at "call builtin:list.append") => `(tactic| (k_here; (show wpAny _ _ (call (Value.builtin "list.append") [Value.ref _, _]) _ _ _); k_dflt (refine' append_K ?k1 ?k2 ?k3 ?_ ?z; (case k1 => k_asm); (case k2 => k_asm); (case k3 => k_upd); (case z => size_fits); k_whole); intro h' F' N'; (try k_sweep)))
local macro_rules | `(tactic| walk_at "exec For Name Name cons nil") => `(tactic| (k_here; (rename Fr _ _ _ _ => lF'); (with_unfolding_all refine' For_turns lF' ?_; k_whole)))
theorem rows (w : World) (mean : ExcName → Option Value) (mg mb : Str → Option Value) (ol : Addr) (c0 c1 c2 c3 c4 c5 : Int) (u0 u1 u2 u3 u4 u5 : Tok) (n : Nat)
    (b0 : 0 ≤ c0 ∧ c0 < 1000000) (b1 : 0 ≤ c1 ∧ c1 < 1000000) (b2 : 0 ≤ c2 ∧ c2 < 1000000) (b3 : 0 ≤ c3 ∧ c3 < 1000000) (b4 : 0 ≤ c4 ∧ c4 < 1000000) (b5 : 0 ≤ c5 ∧ c5 < 1000000) :
    Says w mean mg mb 3 82 [(ol, listOf [.int c0 u0, .int c1 u1, .int c2 u2, .int c3 u3, .int c4 u4, .int c5 u5].toArray n)] [.ref ol] (rowsOut [c0, c1, c2, c3, c4, c5]) := by
  unfold Says
  k_fill
  intro dp un gd cn cs a ccd cl outer A₀ base h₀ L m news s Q E B F X N T hk hneed hd hu hret
  w_on
  k_with_none
  refine wpAny_call ?_
  k_dflt (refine' code_sub ?k1 ?k2 ?k3 ?k4 ?k5 ?kA ?kF ?kK ?k6 ?k7 ?k8 ?k9 ?kB ?kn ?_ ?kR ?c2 ?c3 ?c4 ?c5; (case kA => exact rfl); (case kF => exact rfl); (case kK => assumption); (case k1 => k_asm); (case k2 => k_asm); (case k3 => k_asm); (case k4 => k_asm); (case k5 => k_asm); (case k6 => k_is); (case k7 => k_is); (case k8 => ktr_room); (case k9 => exact BindsTo.of_eq rfl); (case c5 => decide); (case kB => exact locs rfl); (case c2 => exact rfl); (case c3 => exact rfl); (case c4 => exact rfl); (case kn => assumption); (case kR => assumption); k_whole; intro g' L' h' FG' F' N' B' X' T' hLt' hOth'; (try dsimp only); (try k_lift B'); (try k_fold))
  (k_with "call ref" => (k_here; (with_reducible show wpAny _ _ (call (Value.ref 63) _) _ _ _); k_dflt ((refine' Says.use (filled _ _ _ _ _ _ ?hb) ?k1 ?k2 ?k3 ?k4 ?k5 ?kK ?kn ?kd ?ku ?_; (case k1 => k_asm); (case k2 => k_asm); (case k3 => k_asm); (case k4 => k_asm); (case k5 => k_asm); (case kK => first | exact rfl | assumption); (case kn => (first | exact need0 | exact need1 (by k_mem) | exact need2 (by k_mem) (by k_mem) | exact need3 (by k_mem) (by k_mem) (by k_mem))); (case kd => ktr_room); (case ku => ktr_units); (case hb => omega); intro r9 tl9 h9 tk9 F9 N9 hl9 ho9); obtain ⟨rfl, t9, rfl⟩ := ho9; simp only [List.nil_append] at N9; clear hl9; (try dsimp only); (try k_sweep); (try k_fold))))
  k_steps
  all_goals (try dsimp only)
  k_steps
  rename News _ _ _ _ => NN
  simp only [List.push_toArray, List.cons_append, List.nil_append] at NN
  exact BodyEnd.intro (by k_asm) NN (told_sub (by k_mem)) (by lcg_sub) (told_off (by k_ne)) (rows_out (row_eq (by simp only [psum, List.take, List.sum_cons, List.sum_nil]; try omega)) (row_eq (by simp only [psum, List.take, List.sum_cons, List.sum_nil]; try omega)) (row_eq (by simp only [psum, List.take, List.sum_cons, List.sum_nil]; try omega)) (row_eq (by simp only [psum, List.take, List.sum_cons, List.sum_nil]; try omega)) (row_eq (by simp only [psum, List.take, List.sum_cons, List.sum_nil]; try omega)) (row_eq (by simp only [psum, List.take, List.sum_cons, List.sum_nil]; try omega)) (row_eq (by simp only [psum, List.take, List.sum_cons, List.sum_nil]; try omega)))
end
end Mine
namespace Mine

theorem len_six {prog : Program} {w : World} {A : Around} {E : Value → Shared → Prop} {s : Shared} {h₀ : Heap} {L : Addr} {news : List (Addr × Obj)} {l : Addr} {vs : List Value} {ns : List Int} {Q : Value → Shared → Prop} (N : News h₀ L s.heap news) (hm : (l, LCg.lst vs) ∈ news) (hi : IntsAre vs ns) (hs : ns.length ≤ 6)
    (h : Q (.int (ns.length : Int) (s.toks + 1)) { s with toks := s.toks + 1 + 1 }) : wpAny (model prog w) A (call (.builtin "len") [.ref l]) Q E s := by
  have hv := IntsAre.length hi
  refine len_list (News.isList N hm) ?_ ?_
  · simp only [List.size_toArray]; omega
  · simp only [List.size_toArray]; rw [hv]; exact h
theorem take_six {f : Int → Int} {xs : List Int} : (List.map f (List.take 6 xs)).length ≤ 6 := by
  rw [List.length_map, List.length_take]; omega
theorem dir_sub {prog : Program} {w : World} {A : Around} {E : Value → Shared → Prop} {s : Shared} {x : Int} {t u : Tok} {Q : Value → Shared → Prop} (h : ∀ d, d = 1 ∨ d = -1 → Q (.int d s.toks) { s with toks := s.toks + 1 }) :
    wpAny (model prog w) A (binaryOp .Sub (.int 1 t) (.int (x.fmod 2 * 2) u)) Q E s := by
  refine sub_int' (h _ ?_)
  rw [Int.fmod_eq_emod_of_nonneg _ (by decide)]
  omega
abbrev Bd (c : Int) : Prop := 0 ≤ c ∧ c < 1000000
theorem ints_cons {c : Int} {cs : List Int} {ws : List Value} (h : IntsAre ws (c :: cs)) : ∃ u ws', ws = .int c u :: ws' ∧ IntsAre ws' cs := by
  cases h with
  | cons _ t h => exact ⟨t, _, rfl, h⟩
theorem ints_nil {ws : List Value} (h : IntsAre ws []) : ws = [] := by
  cases h; rfl
theorem ints_six {zs : List Int} {ws : List Value} (hI : IntsAre ws zs) (hl : zs.length = 6) (hb : ∀ z ∈ zs, Bd z) : ∃ c0 c1 c2 c3 c4 c5 u0 u1 u2 u3 u4 u5, ws = [.int c0 u0, .int c1 u1, .int c2 u2, .int c3 u3, .int c4 u4, .int c5 u5] ∧ zs = [c0, c1, c2, c3, c4, c5] ∧ Bd c0 ∧ Bd c1 ∧ Bd c2 ∧ Bd c3 ∧ Bd c4 ∧ Bd c5 := by
  obtain ⟨c0, z5, rfl, l5⟩ := list_cons (n := 5) hl
  obtain ⟨c1, z4, rfl, l4⟩ := list_cons (n := 4) l5
  obtain ⟨c2, z3, rfl, l3⟩ := list_cons (n := 3) l4
  obtain ⟨c3, z2, rfl, l2⟩ := list_cons (n := 2) l3
  obtain ⟨c4, z1, rfl, l1⟩ := list_cons (n := 1) l2
  obtain ⟨c5, z0, rfl, l0⟩ := list_cons (n := 0) l1
  obtain rfl := List.eq_nil_of_length_eq_zero l0
  obtain ⟨u0, w0, rfl, i1⟩ := ints_cons hI
  obtain ⟨u1, w1, rfl, i2⟩ := ints_cons i1
  obtain ⟨u2, w2, rfl, i3⟩ := ints_cons i2
  obtain ⟨u3, w3, rfl, i4⟩ := ints_cons i3
  obtain ⟨u4, w4, rfl, i5⟩ := ints_cons i4
  obtain ⟨u5, w5, rfl, i6⟩ := ints_cons i5
  obtain rfl := ints_nil i6
  exact ⟨c0, c1, c2, c3, c4, c5, u0, u1, u2, u3, u4, u5, rfl, rfl, hb _ (.head _), hb _ (.tail _ (.head _)), hb _ (.tail _ (.tail _ (.head _))), hb _ (.tail _ (.tail _ (.tail _ (.head _)))), hb _ (.tail _ (.tail _ (.tail _ (.tail _ (.head _))))), hb _ (.tail _ (.tail _ (.tail _ (.tail _ (.tail _ (.head _))))))⟩
theorem cells_six {xs : List Int} {ws : List Value} (hI : IntsAre ws (List.map (fun k' => k'.fmod (10 ^ Int.toNat 6)) (List.take 6 xs) ++ List.drop ((List.map (fun k' => k'.fmod (10 ^ Int.toNat 6)) (List.take 6 xs)).length : Int).toNat [61680, 16, 65535, 3855, 4096, 1])) :
    ∃ c0 c1 c2 c3 c4 c5 u0 u1 u2 u3 u4 u5, ws = [.int c0 u0, .int c1 u1, .int c2 u2, .int c3 u3, .int c4 u4, .int c5 u5] ∧ Bd c0 ∧ Bd c1 ∧ Bd c2 ∧ Bd c3 ∧ Bd c4 ∧ Bd c5 := by
  have hl : (List.map (fun k' => Int.fmod k' (10 ^ Int.toNat 6)) (List.take 6 xs)).length ≤ 6 := take_six
  obtain ⟨c0, c1, c2, c3, c4, c5, u0, u1, u2, u3, u4, u5, e, _, b⟩ := ints_six hI (by simp only [List.length_append, List.length_drop, List.length_cons, List.length_nil, Int.toNat_natCast]; omega) (fun z hz => by
    rcases List.mem_append.mp hz with hz | hz
    · obtain ⟨y, _, rfl⟩ := List.mem_map.mp hz
      have h6 : (10 : Int) ^ Int.toNat 6 = 1000000 := by decide
      rw [h6, Int.fmod_eq_emod_of_nonneg _ (by decide)]
      constructor <;> omega
    · have hz := List.mem_of_mem_drop hz
      have hall : ∀ z ∈ [(61680 : Int), 16, 65535, 3855, 4096, 1], Bd z := by decide
      exact hall z hz)
  exact ⟨c0, c1, c2, c3, c4, c5, u0, u1, u2, u3, u4, u5, e, b⟩
theorem Paper.bd {v0 v1 v2 v3 v4 v5 k1 k2 k3 k4 k5 k6 g0 g1 g2 g3 g4 g5 : Int} (h : Paper v0 v1 v2 v3 v4 v5 k1 k2 k3 k4 k5 k6 g0 g1 g2 g3 g4 g5) : ∀ n ∈ List.map (fun k' => 65 + k') [g5, g4, g3, g2, g1, g0], 0 ≤ n ∧ n < 256 := by
  have m : ∀ x : Int, 0 ≤ x.fmod 16 ∧ x.fmod 16 < 16 := fun x => by rw [Int.fmod_eq_emod_of_nonneg _ (by decide)]; omega
  have e0 := m (v0 + 0); rw [← h.f0] at e0
  have e1 := m (v1 + k1); rw [← h.f1] at e1
  have e2 := m (v2 + k2); rw [← h.f2] at e2
  have e3 := m (v3 + k3); rw [← h.f3] at e3
  have e4 := m (v4 + k4); rw [← h.f4] at e4
  have e5 := m (v5 + k5); rw [← h.f5] at e5
  simp only [List.map_cons, List.map_nil, List.forall_mem_cons]
  refine ⟨by omega, by omega, by omega, by omega, by omega, by omega, fun _ h => nomatch h⟩
end Mine
namespace Mine

section
theorem u8_of {n : Nat} (h : n < 256) : (UInt8.ofNat n).toNat = n := by
  rw [UInt8.toNat_ofNat']; exact Nat.mod_eq_of_lt h
def ordOf (d : Int) (x y : Nat) : Int := if x < y then -d else if y < x then d else 0
theorem cmp_step (d : Int) (q : Nat) (a b : Nat) :
    ordOf d (a % (q * 16)) (b % (q * 16)) = if a / q % 16 < b / q % 16 then -d else if b / q % 16 < a / q % 16 then d else ordOf d (a % q) (b % q) := by
  by_cases hq : q = 0
  · subst hq; simp [ordOf]
  have ea : a % (q * 16) = a % q + q * (a / q % 16) := Nat.mod_mul
  have eb : b % (q * 16) = b % q + q * (b / q % 16) := Nat.mod_mul
  have la : a % q < q := Nat.mod_lt _ (Nat.pos_of_ne_zero hq)
  have lb : b % q < q := Nat.mod_lt _ (Nat.pos_of_ne_zero hq)
  unfold ordOf
  rw [ea, eb]
  generalize a / q % 16 = x
  generalize b / q % 16 = y
  by_cases h1 : x < y
  · have : q * (x + 1) ≤ q * y := Nat.mul_le_mul_left q h1
    rw [Nat.mul_add] at this
    rw [if_pos h1, if_pos (by omega)]
  · by_cases h2 : y < x
    · have : q * (y + 1) ≤ q * x := Nat.mul_le_mul_left q h2
      rw [Nat.mul_add] at this
      rw [if_neg h1, if_pos h2, if_neg (by omega), if_pos (by omega)]
    · have : x = y := by omega
      subst this
      rw [if_neg h1, if_neg h2]
      congr 1
      · simp
      · congr 1; simp
theorem dig_lt (a b : Nat) (x y : Nat) (ha : x < 16) (hb : y < 16) : ((((UInt8.ofNat (65 + x)).toNat : Nat) : Int) < (((UInt8.ofNat (65 + y)).toNat : Nat) : Int)) ↔ x < y := by
  rw [u8_of (by omega), u8_of (by omega)]; omega
theorem cmp_row (d : Int) (a b k i : Nat) (is : List Nat) (q : Nat) (ha : (row6 a).getD i 0 = UInt8.ofNat (65 + a / q % 16)) (hb : (row6 b).getD i 0 = UInt8.ofNat (65 + b / q % 16)) (ih : cmpAt (row6 a) (row6 b) d is = ordOf d (a % q) (b % q)) :
    cmpAt (row6 a) (row6 b) d (i :: is) = ordOf d (a % (q * 16)) (b % (q * 16)) := by
  rw [cmp_step]
  unfold cmpAt
  rw [ha, hb, ih]
  have l1 := Nat.mod_lt (a / q) (show 16 > 0 by decide)
  have l2 := Nat.mod_lt (b / q) (show 16 > 0 by decide)
  simp only [dig_lt a b _ _ l1 l2, dig_lt a b _ _ l2 l1]
theorem cmp_cols (d : Int) (a b : Nat) : ∀ k, k ≤ 6 → cmpAt (row6 a) (row6 b) d (colsOf k) = ordOf d (a % 16 ^ k) (b % 16 ^ k) := by
  have c0 : cmpAt (row6 a) (row6 b) d [] = ordOf d (a % 1) (b % 1) := by simp [cmpAt, ordOf, Nat.mod_one]
  have c1 := cmp_row d a b 0 5 _ 1 (by simp [row6]) (by simp [row6]) c0
  have c2 := cmp_row d a b 0 4 _ _ (by simp [row6]) (by simp [row6]) c1
  have c3 := cmp_row d a b 0 3 _ _ (by simp [row6]) (by simp [row6]) c2
  have c4 := cmp_row d a b 0 2 _ _ (by simp [row6]) (by simp [row6]) c3
  have c5 := cmp_row d a b 0 1 _ _ (by simp [row6]) (by simp [row6]) c4
  have c6 := cmp_row d a b 0 0 _ _ (by simp [row6]) (by simp [row6]) c5
  intro k hk
  match k, hk with
  | 0, _ => exact c0
  | 1, _ => exact c1
  | 2, _ => exact c2
  | 3, _ => exact c3
  | 4, _ => exact c4
  | 5, _ => exact c5
  | 6, _ => exact c6
theorem cmp_meant (d S e : Int) (q : Nat) (hq : 0 < q) (hS : 0 ≤ S) (he : 0 ≤ e) : ordOf d (S.natAbs % q) ((S + e).natAbs % q) = meantOne (q : Int) d S e := by
  obtain ⟨s, rfl⟩ := Int.eq_ofNat_of_zero_le hS
  obtain ⟨c, rfl⟩ := Int.eq_ofNat_of_zero_le he
  unfold meantOne ordOf
  rw [Int.fmod_eq_emod_of_nonneg _ (Int.natCast_nonneg q), Int.fmod_eq_emod_of_nonneg _ (Int.natCast_nonneg q), ← Int.natCast_add, Int.natAbs_natCast, Int.natAbs_natCast]
  have e1 : (s + c) % q = if q ≤ s % q + c % q then s % q + c % q - q else s % q + c % q := Nat.add_mod_eq_ite
  have ls := Nat.mod_lt s hq
  have lc := Nat.mod_lt c hq
  rw [e1, ← Int.natCast_emod, ← Int.natCast_emod]
  generalize s % q = x at *
  generalize c % q = y at *
  by_cases h0 : y = 0
  · subst h0
    rw [if_neg (show ¬ q ≤ x + 0 by omega), if_neg (by omega), if_neg (by omega), if_pos (by simp)]
  · rw [if_neg (show ¬ ((y : Nat) : Int) = 0 by omega)]
    by_cases h1 : q ≤ x + y
    · rw [if_pos h1, if_neg (by omega), if_pos (by omega), if_pos (by omega)]
    · rw [if_neg h1, if_pos (by omega), if_neg (by omega)]
theorem law_told {e0 e1 e2 e3 e4 e5 d sz : Int} (b0 : Bd e0) (b1 : Bd e1) (b2 : Bd e2) (b3 : Bd e3) (b4 : Bd e4) (b5 : Bd e5) (h0 : 0 ≤ sz) (h7 : sz < 7) :
    (rangeKs 0 6).map (fun i => cmpAt (rowF [e0, e1, e2, e3, e4, e5] i.toNat) (rowF [e0, e1, e2, e3, e4, e5] (i + 1).toNat) d (colsOf sz.toNat)) = meantL (16 ^ sz.toNat) d 0 [e0, e1, e2, e3, e4, e5] := by
  have hk : sz.toNat ≤ 6 := by omega
  generalize sz.toNat = k at *
  have one : ∀ (S T e : Int) (i j : Nat), S = psum [e0, e1, e2, e3, e4, e5] i → T = S → psum [e0, e1, e2, e3, e4, e5] j = S + e → 0 ≤ S → 0 ≤ e → cmpAt (rowF [e0, e1, e2, e3, e4, e5] i) (rowF [e0, e1, e2, e3, e4, e5] j) d (colsOf k) = meantOne (16 ^ k) d T e := by
    intro S T e i j hi hT hj hS he
    unfold rowF
    rw [← hi, hj, hT, cmp_cols d _ _ k hk, cmp_meant d S e (16 ^ k) (Nat.pow_pos (by decide)) hS he]
    congr 1
  have r : rangeKs 0 6 = [0, 1, 2, 3, 4, 5] := by decide
  rw [r]
  simp only [List.map_cons, List.map_nil, meantL]
  rw [one 0 0 e0 _ _ (by simp [psum]) rfl (by simp [psum]) (by omega) b0.1,
    one e0 (0 + e0) e1 _ _ (by simp [psum]) (by omega) (by simp [psum]) b0.1 b1.1,
    one (e0 + e1) (0 + e0 + e1) e2 _ _ (by simp [psum]) (by omega) (by simp [psum]; omega) (by omega) b2.1,
    one (e0 + e1 + e2) (0 + e0 + e1 + e2) e3 _ _ (by simp [psum]; omega) (by omega) (by simp [psum]; omega) (by omega) b3.1,
    one (e0 + e1 + e2 + e3) (0 + e0 + e1 + e2 + e3) e4 _ _ (by simp [psum]; omega) (by omega) (by simp [psum]; omega) (by omega) b4.1,
    one (e0 + e1 + e2 + e3 + e4) (0 + e0 + e1 + e2 + e3 + e4) e5 _ _ (by simp [psum]; omega) (by omega) (by simp [psum]; omega) (by omega) b5.1]
theorem law_told_at {e0 e1 e2 e3 e4 e5 d sz : Int} (_ : d = 1 ∨ d = -1) (b0 : Bd e0) (b1 : Bd e1) (b2 : Bd e2) (b3 : Bd e3) (b4 : Bd e4) (b5 : Bd e5) (h0 : 0 ≤ sz) (h7 : sz < 7) :
    (rangeKs 0 6).map (fun i => cmpAt (rowF [e0, e1, e2, e3, e4, e5] i.toNat) (rowF [e0, e1, e2, e3, e4, e5] (i + 1).toNat) d (colsOf sz.toNat)) = meantL (16 ^ sz.toNat) d 0 [e0, e1, e2, e3, e4, e5] := law_told b0 b1 b2 b3 b4 b5 h0 h7
end
end Mine
namespace Mine

section
def carrAt (k1 k2 k3 k4 k5 k6 : Int) : Nat → Int
  | 0 => 0 | 1 => k1 | 2 => k2 | 3 => k3 | 4 => k4 | 5 => k5 | _ => k6
theorem count_one (d : Int) (v : Int) (l : List Int) : (((v :: l).count d : Nat) : Int) = (if v = d then 1 else 0) + ((l.count d : Nat) : Int) := by
  rw [List.count_cons]
  by_cases h : v = d
  · subst h; simp; omega
  · simp [h]
theorem meant_count {d : Int} (hd : d = 1 ∨ d = -1) {q : Int} (hq : 0 < q) : ∀ (cs : List Int) (t : Int), (((meantL q d t cs).count d : Nat) : Int) = (t % q + (cs.map (· % q)).sum) / q
  | [], t => by
    have h0 := Int.emod_nonneg t (Int.ne_of_gt hq)
    have h1 := Int.emod_lt_of_pos t hq
    simp only [meantL, List.count_nil, List.map_nil, List.sum_nil, Int.add_zero]
    rw [Int.ediv_eq_zero_of_lt h0 h1]; rfl
  | c :: cs, t => by
    have t0 := Int.emod_nonneg t (Int.ne_of_gt hq)
    have t1 := Int.emod_lt_of_pos t hq
    have c0 := Int.emod_nonneg c (Int.ne_of_gt hq)
    have c1 := Int.emod_lt_of_pos c hq
    have ne : (q : Int) ≠ 0 := Int.ne_of_gt hq
    show (((meantOne q d t c :: meantL q d (t + c) cs).count d : Nat) : Int) = _
    rw [count_one, meant_count hd hq cs (t + c)]
    simp only [List.map_cons, List.sum_cons]
    unfold meantOne
    rw [Int.fmod_eq_emod_of_nonneg _ (Int.le_of_lt hq), Int.fmod_eq_emod_of_nonneg _ (Int.le_of_lt hq)]
    have e1 : (t + c) % q = if q ≤ t % q + c % q then t % q + c % q - q else t % q + c % q := by
      rw [Int.add_emod]
      by_cases h : q ≤ t % q + c % q
      · rw [if_pos h]
        have : (t % q + c % q - q) % q = (t % q + c % q) % q := Int.sub_emod_right ..
        rw [← this]
        exact Int.emod_eq_of_lt (by omega) (by omega)
      · rw [if_neg h]
        exact Int.emod_eq_of_lt (by omega) (by omega)
    rw [e1]
    generalize (List.map (fun x => x % q) cs).sum = S
    generalize t % q = x at *
    generalize c % q = y at *
    by_cases h : q ≤ x + y
    · simp only [if_pos h]
      rw [if_neg (show ¬ y = 0 by omega), if_pos rfl]
      have := Int.add_mul_ediv_right (x + y - q + S) 1 ne
      rw [Int.one_mul] at this
      rw [show x + (y + S) = x + y - q + S + q by omega, this]; omega
    · simp only [if_neg h]
      by_cases hy : y = 0
      · rw [if_pos hy, if_neg (show ¬ (0 : Int) = d by omega), Int.zero_add, show x + y + S = x + (y + S) by omega]
      · rw [if_neg hy, if_neg (show ¬ -d = d by omega), Int.zero_add, show x + y + S = x + (y + S) by omega]
theorem perm_sum {l l' : List Int} (h : l.Perm l') : l.sum = l'.sum := by
  induction h with
  | nil => rfl
  | cons x _ ih => simp only [List.sum_cons, ih]
  | swap x y l => simp only [List.sum_cons]; omega
  | trans _ _ h1 h2 => exact h1.trans h2
/-- the rests' sum, the figures' sum -/
def restS (cs : List Int) (q : Int) : Int := (cs.map (· % q)).sum
def figS (cs : List Int) (q : Int) : Int := (cs.map (fun c => c / q % 16)).sum
def highS (cs : List Int) (q : Int) : Int := (cs.map (· / q)).sum
theorem rest_one {q : Int} (hq : 0 < q) (c : Int) : c % (q * 16) = c % q + q * (c / q % 16) := by
  have e1 := Int.mul_ediv_add_emod c (q * 16)
  have e2 := Int.mul_ediv_add_emod c q
  have e3 := Int.mul_ediv_add_emod (c / q) 16
  have e4 : c / (q * 16) = c / q / 16 := (Int.ediv_ediv_of_nonneg (Int.le_of_lt hq)).symm
  rw [e4] at e1
  have e5 : q * (c / q) = q * (16 * (c / q / 16)) + q * (c / q % 16) := by rw [← Int.mul_add, e3]
  have e6 : q * 16 * (c / q / 16) = q * (16 * (c / q / 16)) := Int.mul_assoc ..
  omega
theorem rest_step {q : Int} (hq : 0 < q) : ∀ cs : List Int, restS cs (q * 16) = restS cs q + q * figS cs q
  | [] => by simp [restS, figS]
  | c :: cs => by
    have ih := rest_step hq cs
    simp only [restS, figS, List.map_cons, List.sum_cons] at *
    rw [ih, Int.mul_add, rest_one hq c]
    omega
theorem sum_split {q : Int} : ∀ cs : List Int, cs.sum = restS cs q + q * highS cs q
  | [] => by simp [restS, highS]
  | c :: cs => by
    have ih := sum_split (q := q) cs
    have e2 := Int.mul_ediv_add_emod c q
    simp only [restS, highS, List.map_cons, List.sum_cons] at *
    rw [ih, Int.mul_add]
    omega
theorem high_fig {q : Int} : ∀ cs : List Int, ∃ z : Int, highS cs q = figS cs q + 16 * z
  | [] => ⟨0, by simp [highS, figS]⟩
  | c :: cs => by
    obtain ⟨z, hz⟩ := high_fig (q := q) cs
    refine ⟨c / q / 16 + z, ?_⟩
    simp only [highS, figS, List.map_cons, List.sum_cons] at *
    rw [hz]
    omega
/-- the carry into a column is what the rests' sum comes to -/
theorem carry_step {q v K K' : Int} {cs : List Int} (hq : 0 < q) (hK : K = restS cs q / q) (hv : v = figS cs q) (hK' : K' = cz v K) : K' = restS cs (q * 16) / (q * 16) := by
  rw [hK', hK, hv, rest_step hq cs]
  unfold cz
  rw [Int.fdiv_eq_ediv_of_nonneg _ (by decide), ← Int.ediv_ediv_of_nonneg (Int.le_of_lt hq), Int.add_mul_ediv_left _ _ (Int.ne_of_gt hq)]
  congr 1; omega
/-- the figure left in a column is the sum's -/
theorem figure_is {q v K g : Int} {cs : List Int} (hq : 0 < q) (hK : K = restS cs q / q) (hv : v = figS cs q) (hg : g = (v + K).fmod 16) : g = cs.sum / q % 16 := by
  obtain ⟨z, hz⟩ := high_fig (q := q) cs
  rw [hg, hK, hv, Int.fmod_eq_emod_of_nonneg _ (by decide), sum_split (q := q) cs, Int.add_mul_ediv_left _ _ (Int.ne_of_gt hq), hz]
  omega
theorem digOf_is {c : Int} (h : Bd c) : digOf (-c).natAbs 0 = c / 1 % 16 ∧ digOf (-c).natAbs 1 = c / 16 % 16 ∧ digOf (-c).natAbs 2 = c / 256 % 16 ∧ digOf (-c).natAbs 3 = c / 4096 % 16 ∧ digOf (-c).natAbs 4 = c / 65536 % 16 ∧ digOf (-c).natAbs 5 = c / 1048576 % 16 := by
  obtain ⟨n, rfl⟩ := Int.eq_ofNat_of_zero_le h.1
  rw [Int.natAbs_neg, Int.natAbs_natCast]
  have key : ∀ x : Nat, ((((UInt8.ofNat (65 + x % 16)).toNat : Nat) : Int) - 65) = ((x % 16 : Nat) : Int) := fun x => by
    rw [u8_of (by have := Nat.mod_lt x (show 16 > 0 by decide); omega)]; omega
  refine ⟨?_, ?_, ?_, ?_, ?_, ?_⟩
  · show ((((UInt8.ofNat (65 + n % 16)).toNat : Nat) : Int) - 65) = _
    rw [key]; omega
  · show ((((UInt8.ofNat (65 + n / 16 % 16)).toNat : Nat) : Int) - 65) = _
    rw [key]; omega
  · show ((((UInt8.ofNat (65 + n / 256 % 16)).toNat : Nat) : Int) - 65) = _
    rw [key]; omega
  · show ((((UInt8.ofNat (65 + n / 4096 % 16)).toNat : Nat) : Int) - 65) = _
    rw [key]; omega
  · show ((((UInt8.ofNat (65 + n / 65536 % 16)).toNat : Nat) : Int) - 65) = _
    rw [key]; omega
  · show ((((UInt8.ofNat (65 + n / 1048576 % 16)).toNat : Nat) : Int) - 65) = _
    rw [key]; omega
/-- paper, said of the six numbers -/
structure OnPaper (cs : List Int) (k1 k2 k3 k4 k5 k6 g0 g1 g2 g3 g4 g5 : Int) : Prop where
  c0 : (0 : Int) = restS cs 1 / 1
  c1 : k1 = restS cs 16 / 16
  c2 : k2 = restS cs 256 / 256
  c3 : k3 = restS cs 4096 / 4096
  c4 : k4 = restS cs 65536 / 65536
  c5 : k5 = restS cs 1048576 / 1048576
  c6 : k6 = restS cs 16777216 / 16777216
  f0 : g0 = cs.sum / 1 % 16
  f1 : g1 = cs.sum / 16 % 16
  f2 : g2 = cs.sum / 256 % 16
  f3 : g3 = cs.sum / 4096 % 16
  f4 : g4 = cs.sum / 65536 % 16
  f5 : g5 = cs.sum / 1048576 % 16
theorem on_paper {c0 c1 c2 c3 c4 c5 k1 k2 k3 k4 k5 k6 g0 g1 g2 g3 g4 g5 : Int} (b0 : Bd c0) (b1 : Bd c1) (b2 : Bd c2) (b3 : Bd c3) (b4 : Bd c4) (b5 : Bd c5)
    (h : Paper (col c0 c1 c2 c3 c4 c5 0) (col c0 c1 c2 c3 c4 c5 1) (col c0 c1 c2 c3 c4 c5 2) (col c0 c1 c2 c3 c4 c5 3) (col c0 c1 c2 c3 c4 c5 4) (col c0 c1 c2 c3 c4 c5 5) k1 k2 k3 k4 k5 k6 g0 g1 g2 g3 g4 g5) :
    OnPaper [c0, c1, c2, c3, c4, c5] k1 k2 k3 k4 k5 k6 g0 g1 g2 g3 g4 g5 := by
  obtain ⟨d00, d01, d02, d03, d04, d05⟩ := digOf_is b0
  obtain ⟨d10, d11, d12, d13, d14, d15⟩ := digOf_is b1
  obtain ⟨d20, d21, d22, d23, d24, d25⟩ := digOf_is b2
  obtain ⟨d30, d31, d32, d33, d34, d35⟩ := digOf_is b3
  obtain ⟨d40, d41, d42, d43, d44, d45⟩ := digOf_is b4
  obtain ⟨d50, d51, d52, d53, d54, d55⟩ := digOf_is b5
  have v0 : col c0 c1 c2 c3 c4 c5 0 = figS [c0, c1, c2, c3, c4, c5] 1 := by
    simp only [col, figS, List.map_cons, List.map_nil, List.sum_cons, List.sum_nil, d00, d10, d20, d30, d40, d50]; omega
  have v1 : col c0 c1 c2 c3 c4 c5 1 = figS [c0, c1, c2, c3, c4, c5] 16 := by
    simp only [col, figS, List.map_cons, List.map_nil, List.sum_cons, List.sum_nil, d01, d11, d21, d31, d41, d51]; omega
  have v2 : col c0 c1 c2 c3 c4 c5 2 = figS [c0, c1, c2, c3, c4, c5] 256 := by
    simp only [col, figS, List.map_cons, List.map_nil, List.sum_cons, List.sum_nil, d02, d12, d22, d32, d42, d52]; omega
  have v3 : col c0 c1 c2 c3 c4 c5 3 = figS [c0, c1, c2, c3, c4, c5] 4096 := by
    simp only [col, figS, List.map_cons, List.map_nil, List.sum_cons, List.sum_nil, d03, d13, d23, d33, d43, d53]; omega
  have v4 : col c0 c1 c2 c3 c4 c5 4 = figS [c0, c1, c2, c3, c4, c5] 65536 := by
    simp only [col, figS, List.map_cons, List.map_nil, List.sum_cons, List.sum_nil, d04, d14, d24, d34, d44, d54]; omega
  have v5 : col c0 c1 c2 c3 c4 c5 5 = figS [c0, c1, c2, c3, c4, c5] 1048576 := by
    simp only [col, figS, List.map_cons, List.map_nil, List.sum_cons, List.sum_nil, d05, d15, d25, d35, d45, d55]; omega
  have r0 : (0 : Int) = restS [c0, c1, c2, c3, c4, c5] 1 / 1 := by
    simp [restS, Int.emod_one]
  have r1 := carry_step (by decide) r0 v0 h.e1
  have r2 := carry_step (by decide) r1 v1 h.e2
  have r3 := carry_step (by decide) r2 v2 h.e3
  have r4 := carry_step (by decide) r3 v3 h.e4
  have r5 := carry_step (by decide) r4 v4 h.e5
  have r6 := carry_step (by decide) r5 v5 h.e6
  exact ⟨r0, r1, r2, r3, r4, r5, r6, figure_is (by decide) r0 v0 h.f0, figure_is (by decide) r1 v1 h.f1, figure_is (by decide) r2 v2 h.f2, figure_is (by decide) r3 v3 h.f3, figure_is (by decide) r4 v4 h.f4, figure_is (by decide) r5 v5 h.f5⟩
theorem law_count {es cs : List Int} {d sz k1 k2 k3 k4 k5 k6 g0 g1 g2 g3 g4 g5 : Int} (hd : d = 1 ∨ d = -1) (h : OnPaper cs k1 k2 k3 k4 k5 k6 g0 g1 g2 g3 g4 g5) (hp : es.Perm cs) (h0 : 0 ≤ sz) (h7 : sz < 7) :
    (((meantL (16 ^ sz.toNat) d 0 es).count d : Nat) : Int) = carrAt k1 k2 k3 k4 k5 k6 sz.toNat := by
  have e : ∀ k : Nat, (((meantL (16 ^ k) d 0 es).count d : Nat) : Int) = restS cs (16 ^ k) / 16 ^ k := fun k => by
    rw [meant_count hd (Int.pow_pos (by decide)), Int.zero_emod, Int.zero_add, perm_sum (hp.map _)]; rfl
  rw [e]
  have hk : sz.toNat ≤ 6 := by omega
  match sz.toNat, hk with
  | 0, _ => exact h.c0.symm
  | 1, _ => exact h.c1.symm
  | 2, _ => exact h.c2.symm
  | 3, _ => exact h.c3.symm
  | 4, _ => exact h.c4.symm
  | 5, _ => exact h.c5.symm
  | 6, _ => exact h.c6.symm
theorem law_word {e0 e1 e2 e3 e4 e5 k1 k2 k3 k4 k5 k6 g0 g1 g2 g3 g4 g5 : Int} {cs : List Int} (b0 : Bd e0) (b1 : Bd e1) (b2 : Bd e2) (b3 : Bd e3) (b4 : Bd e4) (b5 : Bd e5) (h : OnPaper cs k1 k2 k3 k4 k5 k6 g0 g1 g2 g3 g4 g5) (hp : [e0, e1, e2, e3, e4, e5].Perm cs) :
    rowF [e0, e1, e2, e3, e4, e5] 6 = List.map (fun n => n.toNat.toUInt8) (List.map (fun k' => 65 + k') [g5, g4, g3, g2, g1, g0]) := by
  have hs := perm_sum hp
  have hS : psum [e0, e1, e2, e3, e4, e5] 6 = [e0, e1, e2, e3, e4, e5].sum := by simp [psum]
  have hpos : 0 ≤ [e0, e1, e2, e3, e4, e5].sum ∧ [e0, e1, e2, e3, e4, e5].sum < 16777216 := by
    simp only [List.sum_cons, List.sum_nil]; omega
  unfold rowF
  rw [hS, hs]
  rw [hs] at hpos
  obtain ⟨_, _, _, _, _, _, _, f0, f1, f2, f3, f4, f5⟩ := h
  generalize cs.sum = S at *
  obtain ⟨n, rfl⟩ := Int.eq_ofNat_of_zero_le hpos.1
  rw [Int.natAbs_natCast]
  have key : ∀ (x : Nat) (g : Int), g = ((x % 16 : Nat) : Int) → UInt8.ofNat (65 + x % 16) = (65 + g).toNat.toUInt8 := by
    intro x g hg
    subst hg
    rw [show ((65 : Int) + ((x % 16 : Nat) : Int)).toNat = 65 + x % 16 by omega]
  simp only [List.map_cons, List.map_nil, row6]
  have m5 : n / 1048576 % 16 = n / 1048576 % 16 := rfl
  rw [key (n / 1048576) g5 (by rw [f5]; omega), key (n / 65536) g4 (by rw [f4]; omega), key (n / 4096) g3 (by rw [f3]; omega), key (n / 256) g2 (by rw [f2]; omega), key (n / 16) g1 (by rw [f1]; omega), key n g0 (by rw [f0]; omega)]
theorem perm_bd {es cs : List Int} (hp : es.Perm cs) (h : ∀ c ∈ cs, Bd c) : ∀ e ∈ es, Bd e := fun e he => h e (hp.mem_iff.mp he)
end
end Mine
namespace Mine

/-- a turn's end: what stood stands, but for some names -/
def Kept (h₀ : Heap) (L : Addr) (s : Shared) (own news : List (Addr × Obj)) (J : (Str → Option Value) → Prop) (f : Flow) (s' : Shared) : Prop :=
  f = .next ∧ ∃ h' tk' m', s' = { s with heap := h', toks := tk' } ∧ Fr h₀ L h' m' ∧ News h₀ L h' (own ++ news) ∧ J m'
theorem Kept.intro {h₀ : Heap} {L : Addr} {s : Shared} {own news all : List (Addr × Obj)} {J : (Str → Option Value) → Prop} {h' : Heap} {tk' : Nat} {m' : Str → Option Value} (F : Fr h₀ L h' m') (N : News h₀ L h' all) (sub : ∀ p ∈ own ++ news, p ∈ all) (j : J m') :
    Kept h₀ L s own news J .next { s with heap := h', toks := tk' } := ⟨rfl, h', tk', m', rfl, F, fun p hp => N p (sub p hp), j⟩
section
variable {prog : Program} {w : World} {A : Around} {E : Value → Shared → Prop} {s : Shared} {env : Env} {h₀ : Heap} {body : List Stmt} {Q : Flow → Shared → Prop} {m0 : Str → Option Value} {news : List (Addr × Obj)} {I : Addr}
theorem fr_2 {L : Addr} {h : Heap} {x y : Str} {v : Option Value} {m : Str → Option Value} (F : Fr h₀ L h (fun z => if z = x then v else m z)) (hm : ∀ z, z ≠ x → z ≠ y → m z = m0 z) :
    Fr h₀ L h (fun z => if z = x then v else if z = y then m y else m0 z) := by
  have e : (fun z => if z = x then v else if z = y then m y else m0 z) = fun z => if z = x then v else m z := by
    funext z
    by_cases h1 : z = x
    · rw [if_pos h1, if_pos h1]
    · rw [if_neg h1, if_neg h1]
      by_cases h2 : z = y
      · rw [if_pos h2, h2]
      · rw [if_neg h2, hm z h1 h2]
  rw [e]; exact F
theorem fr_2' {L : Addr} {h : Heap} {x y : Str} {m : Str → Option Value} (F : Fr h₀ L h m) (hm : ∀ z, z ≠ x → z ≠ y → m z = m0 z) :
    Fr h₀ L h (fun z => if z = x then m x else if z = y then m y else m0 z) :=
  fr_2 (m := m) (by
    have e : (fun z => if z = x then m x else m z) = m := by
      funext z
      by_cases h1 : z = x
      · rw [if_pos h1, h1]
      · rw [if_neg h1]
    rw [e]; exact F) hm
theorem fr_4 {L : Addr} {h : Heap} {x y y2 y3 : Str} {m : Str → Option Value} (F : Fr h₀ L h m) (hm : ∀ z, z ≠ x → z ≠ y → z ≠ y2 → z ≠ y3 → m z = m0 z) :
    Fr h₀ L h (fun z => if z = x then m x else if z = y then m y else if z = y2 then m y2 else if z = y3 then m y3 else m0 z) := by
  have e : (fun z => if z = x then m x else if z = y then m y else if z = y2 then m y2 else if z = y3 then m y3 else m0 z) = m := by
    funext z
    by_cases h1 : z = x
    · rw [if_pos h1, h1]
    · rw [if_neg h1]
      by_cases h2 : z = y
      · rw [if_pos h2, h2]
      · rw [if_neg h2]
        by_cases h3 : z = y2
        · rw [if_pos h3, h3]
        · rw [if_neg h3]
          by_cases h4 : z = y3
          · rw [if_pos h4, h4]
          · rw [if_neg h4, hm z h1 h2 h3 h4]
  rw [e]; exact F
theorem sizes_keep {x x2 : Str} {a : Int} {n : Nat} (off : ∀ p ∈ news, p.1 ≠ I)
    (turn : ∀ (k : Int) (t : Tok) (u2 : Option Value) (oI : Obj) h tk, a ≤ k → k < a + n → Fr h₀ env.locals h (fun y => if y = x then some (.int k t) else if y = x2 then u2 else m0 y) → News h₀ env.locals h ((I, oI) :: news) →
      wpAny (model prog w) A (execs body env) (Kept h₀ env.locals { s with heap := h, toks := tk } [(I, oI)] news (fun m' => ∀ y, y ≠ x → y ≠ x2 → m' y = m0 y)) E { s with heap := h, toks := tk })
    (done : ∀ (u1 u2 : Option Value) h tk, Fr h₀ env.locals h (fun y => if y = x then u1 else if y = x2 then u2 else m0 y) → News h₀ env.locals h news → Q .next { s with heap := h, toks := tk }) :
    ∀ (k i : Nat) (m : Str → Option Value), k + i = n → (∀ y, y ≠ x → y ≠ x2 → m y = m0 y) → RangeRest prog w A E h₀ env x body Q s I a n k i m news
  | 0, i, m, _, hm => RangeRest.zero fun h tk F N => done _ _ h tk (fr_2' F hm) N
  | k + 1, i, m, hk, hm => RangeRest.succ fun t h tk F N => by
    refine wpAny_mono (turn (a + (i : Int)) t (m x2) _ h tk (by omega) (by omega) (fr_2 F hm) N) (fun f s' hp => ?_) fun _ _ e => e
    obtain ⟨rfl, h', tk', m', rfl, F', N', hm'⟩ := hp
    exact UnrEnd.intro (s₁ := { s with heap := h, toks := tk }) F' N' news (fun p hp => hp) off (sizes_keep off turn done k (i + 1) m' (by omega) hm')
theorem orders_keep {target : Expr} {x y y2 y3 : Str} {keep : List (Addr × Obj)} {cls : String} (off : ∀ p ∈ news, p.1 ≠ I) (hk : SubL keep news) :
    ∀ (vs : List Value) (_ : ∀ v ∈ vs, ∀ (u0 u1 u2 u3 : Option Value) (oI : Obj) h tk, Fr h₀ env.locals h (fun z => if z = x then u0 else if z = y then u1 else if z = y2 then u2 else if z = y3 then u3 else m0 z) → News h₀ env.locals h ((I, oI) :: news) →
      wpAny (model prog w) A (assign target env v) (fun _ s₂ => wpAny (model prog w) A (execs body env) (Kept h₀ env.locals { s with heap := h, toks := tk } [(I, oI)] news (fun m' => ∀ z, z ≠ x → z ≠ y → z ≠ y2 → z ≠ y3 → m' z = m0 z)) E s₂) E { s with heap := h, toks := tk })
    (_ : ∀ (u0 u1 u2 u3 : Option Value) h tk, Fr h₀ env.locals h (fun z => if z = x then u0 else if z = y then u1 else if z = y2 then u2 else if z = y3 then u3 else m0 z) → News h₀ env.locals h news → Q .next { s with heap := h, toks := tk })
    (m : Str → Option Value) (_ : ∀ z, z ≠ x → z ≠ y → z ≠ y2 → z ≠ y3 → m z = m0 z), ItemsRest prog w A E h₀ env target body Q s [(I, cls)] keep (vs.map .val) m news
  | [], _, done, m, hm => ItemsRest.zero fun h tk F N => done _ _ _ _ h tk (fr_4 F hm) N
  | v :: vs, turn, done, m, hm => ItemsRest.val fun h tk F => AllObj.cons fun oI _ => AllObj.nil fun N => by
    refine wpAny_mono (turn v (.head _) _ _ _ _ oI h tk (fr_4 F hm) N) (fun _ s₂ h₂ => wpAny_mono h₂ (fun f s' hp => ?_) fun _ _ e => e) fun _ _ e => e
    obtain ⟨rfl, h', tk', m', rfl, F', N', hm'⟩ := hp
    refine ⟨h', tk', m', news, rfl, F', N', fun p hp q hq => ?_, hk, orders_keep off hk vs (fun v hv => turn v (.tail _ hv)) done m' hm'⟩
    rw [List.mem_singleton.mp hq]; exact off p hp
end
end Mine
namespace Mine

section
variable {prog : Program} {w : World} {A : Around} {E : Value → Shared → Prop} {s : Shared} {h₀ : Heap} {L : Addr} {m : Str → Option Value} {news : List (Addr × Obj)}
theorem news_more {h : Heap} {x : Addr × Obj} {all : List (Addr × Obj)} (N : News h₀ L h all) (hx : x ∈ all) : News h₀ L h (x :: all) := fun p hp => by
  rcases List.mem_cons.mp hp with rfl | hp
  · exact N _ hx
  · exact N p hp
theorem off_lt {I : Addr} : ∀ {l : List (Addr × Obj)}, AllLt I l → ∀ p ∈ l, p.1 ≠ I
  | [], _, _, hp => nomatch hp
  | _ :: _, h, p, hp => by
    rcases List.mem_cons.mp hp with rfl | hp
    · exact Nat.ne_of_lt h.1
    · exact off_lt h.2 p hp
theorem ints6 {c0 c1 c2 c3 c4 c5 : Int} {u0 u1 u2 u3 u4 u5 : Tok} : IntsAre [.int c0 u0, .int c1 u1, .int c2 u2, .int c3 u3, .int c4 u4, .int c5 u5] [c0, c1, c2, c3, c4, c5] := .cons c0 u0 (.cons c1 u1 (.cons c2 u2 (.cons c3 u3 (.cons c4 u4 (.cons c5 u5 (.nil))))))
theorem mem6 {P : Int → Prop} {c0 c1 c2 c3 c4 c5 : Int} (b0 : P c0) (b1 : P c1) (b2 : P c2) (b3 : P c3) (b4 : P c4) (b5 : P c5) : ∀ c ∈ [c0, c1, c2, c3, c4, c5], P c := by
  simp only [List.forall_mem_cons]
  exact ⟨b0, b1, b2, b3, b4, b5, fun _ h => nomatch h⟩
theorem sorted_six {l : Addr} {c0 c1 c2 c3 c4 c5 : Int} {u0 u1 u2 u3 u4 u5 : Tok} {n : Nat} {Q : Value → Shared → Prop} (F : Fr h₀ L s.heap m) (N : News h₀ L s.heap news) (hm : (l, listOf [.int c0 u0, .int c1 u1, .int c2 u2, .int c3 u3, .int c4 u4, .int c5 u5].toArray n) ∈ news) (b0 : Bd c0) (b1 : Bd c1) (b2 : Bd c2) (b3 : Bd c3) (b4 : Bd c4) (b5 : Bd c5)
    (h : ∀ D e0 e1 e2 e3 e4 e5 w0 w1 w2 w3 w4 w5 k h', Fr h₀ L h' m → News h₀ L h' ((D, listOf [.int e0 w0, .int e1 w1, .int e2 w2, .int e3 w3, .int e4 w4, .int e5 w5].toArray k) :: news) → (∀ q ∈ news, q.1 < D) → List.Perm [e0, e1, e2, e3, e4, e5] [c0, c1, c2, c3, c4, c5] → Q (.ref D) { s with heap := h' }) :
    wpAny (model prog w) A (call (.builtin "sorted") [.ref l]) Q E s := by
  refine kso_sorted F N (News.isList N hm) ints6 (show 6 < 64 by decide) fun D vs' ns' c h' F' N' l1 i' e' p' _ _ => ?_
  obtain ⟨e0, e1, e2, e3, e4, e5, w0, w1, w2, w3, w4, w5, rfl, rfl, _⟩ := ints_six i' e' (perm_bd p' (mem6 b0 b1 b2 b3 b4 b5))
  exact h D e0 e1 e2 e3 e4 e5 w0 w1 w2 w3 w4 w5 c h' F' N' l1 p'
def OrdAt (news : List (Addr × Obj)) (c0 c1 c2 c3 c4 c5 : Int) (v : Value) : Prop :=
  ∃ ol e0 e1 e2 e3 e4 e5 w0 w1 w2 w3 w4 w5 n, v = .ref ol ∧ (ol, listOf [.int e0 w0, .int e1 w1, .int e2 w2, .int e3 w3, .int e4 w4, .int e5 w5].toArray n) ∈ news ∧ List.Perm [e0, e1, e2, e3, e4, e5] [c0, c1, c2, c3, c4, c5] ∧ Bd e0 ∧ Bd e1 ∧ Bd e2 ∧ Bd e3 ∧ Bd e4 ∧ Bd e5
theorem ord_at {ol : Addr} {c0 c1 c2 c3 c4 c5 e0 e1 e2 e3 e4 e5 : Int} {w0 w1 w2 w3 w4 w5 : Tok} {n : Nat} (hm : (ol, listOf [.int e0 w0, .int e1 w1, .int e2 w2, .int e3 w3, .int e4 w4, .int e5 w5].toArray n) ∈ news) (hp : List.Perm [e0, e1, e2, e3, e4, e5] [c0, c1, c2, c3, c4, c5]) (b0 : Bd c0) (b1 : Bd c1) (b2 : Bd c2) (b3 : Bd c3) (b4 : Bd c4) (b5 : Bd c5) : OrdAt news c0 c1 c2 c3 c4 c5 (.ref ol) :=
  have h := perm_bd hp (mem6 b0 b1 b2 b3 b4 b5)
  ⟨ol, e0, e1, e2, e3, e4, e5, w0, w1, w2, w3, w4, w5, n, rfl, hm, hp, h _ (by simp), h _ (by simp), h _ (by simp), h _ (by simp), h _ (by simp), h _ (by simp)⟩
theorem ord_three {P : Value → Prop} {a b c : Value} (h1 : P a) (h2 : P b) (h3 : P c) : ∀ v ∈ [a, b, c], P v := by
  simp only [List.forall_mem_cons]
  exact ⟨h1, h2, h3, fun _ h => nomatch h⟩
theorem perm_rev {c0 c1 c2 c3 c4 c5 : Int} : List.Perm [c5, c4, c3, c2, c1, c0] [c0, c1, c2, c3, c4, c5] := List.reverse_perm [c0, c1, c2, c3, c4, c5]
theorem ord_of {h : Heap} {I : Addr} {oI : Obj} {vs : List Value} {v : Value} {c0 c1 c2 c3 c4 c5 : Int} (N : News h₀ L h ((I, oI) :: news)) (hg : ∀ v ∈ vs, OrdAt news c0 c1 c2 c3 c4 c5 v) (hv : v ∈ vs) :
    ∃ ol e0 e1 e2 e3 e4 e5 w0 w1 w2 w3 w4 w5 n, v = .ref ol ∧ News h₀ L h ((ol, listOf [.int e0 w0, .int e1 w1, .int e2 w2, .int e3 w3, .int e4 w4, .int e5 w5].toArray n) :: (I, oI) :: news) ∧ List.Perm [e0, e1, e2, e3, e4, e5] [c0, c1, c2, c3, c4, c5] ∧ Bd e0 ∧ Bd e1 ∧ Bd e2 ∧ Bd e3 ∧ Bd e4 ∧ Bd e5 := by
  obtain ⟨ol, e0, e1, e2, e3, e4, e5, w0, w1, w2, w3, w4, w5, n, e, hm, r⟩ := hg v hv
  exact ⟨ol, e0, e1, e2, e3, e4, e5, w0, w1, w2, w3, w4, w5, n, e, news_more N (.tail _ hm), r⟩
theorem carr_item {value slice : Expr} {k1 k2 k3 k4 k5 k6 : Int} {t0 t1 t2 t3 t4 t5 t6 : Tok} {k : Nat} {rl : Addr} {i : Int} {u : Tok} {Q : Value → Shared → Prop}
    (N : News h₀ L s.heap news) (hm : (rl, carrO k1 k2 k3 k4 k5 k6 t0 t1 t2 t3 t4 t5 t6 k) ∈ news) (h0 : 0 ≤ i) (h1 : i < 7) (h : ∀ t, Q (.int (carrAt k1 k2 k3 k4 k5 k6 i.toNat) t) s)
    (hs : subscripted slice false (.ref rl) (.int i u) = operate [.ref rl, .int i u] (getItem (.ref rl) (.int i u)) := by with_unfolding_all rfl) :
    wpAny (model prog w) A (subscriptTail value slice (.ref rl) (.int i u)) Q E s := by
  have hl : s.heap.IsList rl #[.int 0 t0, .int k1 t1, .int k2 t2, .int k3 t3, .int k4 t4, .int k5 t5, .int k6 t6] := ⟨_, (N _ hm).1, rfl, k, rfl⟩
  obtain ⟨j, rfl⟩ := Int.eq_ofNat_of_zero_le h0
  have hj : j = 0 ∨ j = 1 ∨ j = 2 ∨ j = 3 ∨ j = 4 ∨ j = 5 ∨ j = 6 := by omega
  rcases hj with rfl | rfl | rfl | rfl | rfl | rfl | rfl
  all_goals exact tail_any hl.typeIs slot_list_getitem.lookup (wpAny_getItem_list hl h0 (by omega) rfl (h _)) hs
theorem ne_same_list {a b : Addr} {ys : List Value} {zs : Array Value} {X Y : List Int} {k : Nat} {Q : Value → Shared → Prop} (N : News h₀ L s.heap news) (h1 : (a, LCg.lst ys) ∈ news) (h2 : (b, listOf zs k) ∈ news) (i1 : IntsAre ys X) (i2 : IntsAre zs.toList Y) (e : X = Y)
    (hu : A.units + 64 < cLine) (h : Q (.bool false) s) : wpAny (model prog w) A (compareOp .NotEq (.ref a) (.ref b)) Q E s := by
  refine ne_intsK (News.isList N h1) i1 (by rw [Array.toArray_toList]; exact News.isList N h2) i2 hu ?_
  rw [decide_eq_true e]
  exact h
theorem ne_same_bytes {b c : Array UInt8} {t u : Tok} {Q : Value → Shared → Prop} (e : b.toList = c.toList) (h : Q (.bool false) s) : wpAny (model prog w) A (compareOp .NotEq (.bytes b t) (.bytes c u)) Q E s := by
  refine ne_bytes ?_
  rw [e, bne_self_eq_false]
  exact h
theorem ne_same_int {a b : Int} {t u : Tok} {Q : Value → Shared → Prop} (e : a = b) (h : Q (.bool false) s) : wpAny (model prog w) A (compareOp .NotEq (.int a t) (.int b u)) Q E s := by
  refine ne_int ?_
  rw [e, bne_self_eq_false]
  exact h
end
end Mine
namespace Mine

section
local macro_rules | `(tactic| k_room) => `(tactic| ktr_room)
local macro_rules | `(tactic| k_lt $h:ident) => `(tactic| (replace $h := allLt_of $h))
local macro_rules | `(tactic| k_ne) => `(tactic| (refine neN ?_; (try dsimp only); first
  | with_reducible assumption
  | exact Ne.symm (by with_reducible assumption)
  | exact ne_lt (by with_reducible assumption) (by k_mem)
  | exact ne_gt (by with_reducible assumption) (by k_mem)
  | exact Nat.ne_of_lt (by with_reducible assumption)
  | exact Nat.ne_of_gt (by with_reducible assumption)
  | exact ne_lt2 (by with_reducible assumption) (by with_reducible assumption) (by k_mem)
  | exact ne_gt2 (by with_reducible assumption) (by with_reducible assumption) (by k_mem)
  | exact ne_offI (by with_reducible assumption) (by k_mem)
  | exact ne_offC (by with_reducible assumption) (by k_mem)
  | exact ne_offD (by with_reducible assumption) (by k_mem)
  | exact ne_off1 (by with_reducible assumption) (by k_mem)
  | exact Ne.symm (ne_offI (by with_reducible assumption) (by k_mem))
  | exact Ne.symm (ne_offC (by with_reducible assumption) (by k_mem))
  | exact Ne.symm (ne_offD (by with_reducible assumption) (by k_mem))
  | exact Ne.symm (ne_off1 (by with_reducible assumption) (by k_mem))
  | omega))
local macro_rules | `(tactic| walk_at "CompRest") => `(tactic| (with_unfolding_all first
  | (refine LCg.CompRest.succ ?_; intro v' I' oI' C' oC' D' m' h' tk' E' hv' hC' hx' F' N' off' ne'; (first | lcg_open hv' | (obtain ⟨t9', hv9'⟩ := hv'; subst hv9')); (replace ne' := Ne3.mk ne'))
  | refine LCg.CompRest.zero ?_))
local macro_rules | `(tactic| walk_at "FinE") => `(tactic| ((unfold LCg.FinE); intro D' h' tk' F' N' o1'; (try simp only [List.nil_append, List.cons_append] at N'); (try dsimp only)))
local macro_rules | `(tactic| walk_at "FinA") => `(tactic| ((unfold LCg.FinA); intro D' h' tk' F' N' o1'; (try simp only [List.nil_append, List.cons_append] at N'); (try dsimp only)))
local macro_rules | `(tactic| walk_at "subscriptTail") => `(tactic| (k_here; (with_reducible show wpAny _ _ (subscriptTail (PySem.Expr.List _ _) (PySem.Expr.Slice _ _ none _) (Value.ref _) (Value.ref _)) _ _ _); k_dflt (refine kba_turn (value' := PySem.Expr.Name (PySem.Str.ofString "_") ⟨0, 0, 0, 0⟩) (fun _ => rfl) ?_); k_dflt (refine' kmk_slice_ints ?F ?N ?l ?p ?q ?i ?m ?c ?_ ?s ?t ?z; (case F => k_asm); (case N => k_asm); (case l => kmk_list); (case p => kmk_part); (case q => kmk_part); (case i => l_ints); (case m => exact kmk_from (by l_ints) (Int.natCast_nonneg _)); (case c => exact rfl); (case s => with_unfolding_all rfl); (case t => kmk_pure); (case z => kmk_size)); intro D' ws' h' F' N' l1 hI' hC' hL'; (try k_lt l1); (try k_sweep)))
local macro_rules | `(tactic| walk_at "call builtin:len") => `(tactic| (k_here; (with_reducible show wpAny _ _ (call (Value.builtin "len") [Value.ref _]) _ _ _); k_dflt (refine len_six (by k_asm) (by k_mem) (by assumption) take_six ?_)))
local macro_rules | `(tactic| walk_at "binaryOp Sub int int") => `(tactic| (k_here; k_dflt (refine dir_sub ?_); intro d9 hd9))
local macro_rules | `(tactic| walk_at "call type:bytes") => `(tactic| (k_here; k_dflt (refine' bytes_K ?F ?N ?l ?i ?r ?z ?h ?_; (case F => k_asm); (case N => k_asm); (case l => is_list); (case i => l_ints); (case r => exact Paper.bd (by assumption)); (case z => size_fits); (case h => rfl)); intro h' t' k' F' N' hB'))
local macro_rules | `(tactic| walk_at "exec For Name Tuple cons nil") => `(tactic| (k_here; (rename Fr _ _ _ _ => lF'); (with_unfolding_all refine' For_turns lF' ?_; k_whole)))
local macro_rules | `(tactic| walk_at "call builtin:sorted") => `(tactic| (k_here; k_dflt (refine' sorted_six ?k1 ?k2 ?k3 ?c0 ?c1 ?c2 ?c3 ?c4 ?c5 ?_; (case k1 => k_asm); (case k2 => k_asm); (case k3 => k_mem); (case c0 => with_reducible assumption); (case c1 => with_reducible assumption); (case c2 => with_reducible assumption); (case c3 => with_reducible assumption); (case c4 => with_reducible assumption); (case c5 => with_reducible assumption)); intro D' s0' s1' s2' s3' s4' s5' x0' x1' x2' x3' x4' x5' k' h' F' N' l1 hSrt'; (try k_lt l1)))
local macro_rules | `(tactic| walk_at "ItemsRest") => `(tactic| refine Halt.on ?_)
local macro_rules | `(tactic| walk_at "RangeRest") => `(tactic| refine Halt.on ?_)
local macro_rules | `(tactic| walk_at "compareOp NotEq bytes bytes") => `(tactic| (k_here; (rename rowF _ 6 = _ => hW9); k_dflt (refine ne_same_bytes (by exact hW9) ?_)))
local macro_rules | `(tactic| walk_at "compareOp NotEq int int") => `(tactic| (k_here; (rename ((List.count _ _ : Nat) : Int) = _ => hC9); k_dflt (refine ne_same_int hC9 ?_)))
local macro_rules | `(tactic| walk_at "compareOp NotEq ref ref") => `(tactic| (k_here; (rename List.map _ (rangeKs 0 6) = _ => hT9); k_dflt (refine' ne_same_list ?k1 ?k2 ?k3 ?k4 ?k5 hT9 ?k6 ?_; (case k1 => k_asm); (case k2 => k_mem); (case k3 => k_mem); (case k4 => with_reducible assumption); (case k5 => with_reducible assumption); (case k6 => ktr_units))))
theorem lawHolds : PySem.Challenge.rw_pg0039_01.Holds := by
  refine hd ?_
  w_on
  k_go0
  (all_goals try k_fold)
  (k_with "call ref" => (k_here; (with_reducible show wpAny _ _ (call (Value.ref 68) _) _ _ _); (rename IntsAre _ (_ ++ _) => hZ9); obtain ⟨c0, c1, c2, c3, c4, c5, u0, u1, u2, u3, u4, u5, rfl, b0, b1, b2, b3, b4, b5⟩ := cells_six hZ9; clear hZ9; k_dflt ((refine' Says.use (sheet _ _ _ _ _ c0 c1 c2 c3 c4 c5 u0 u1 u2 u3 u4 u5 _ b0 b1 b2 b3 b4 b5) ?k1 ?k2 ?k3 ?k4 ?k5 ?kK ?kn ?kd ?ku ?_; (case k1 => k_asm); (case k2 => k_asm); (case k3 => k_asm); (case k4 => k_asm); (case k5 => k_asm); (case kK => first | exact rfl | assumption); (case kn => (first | exact need0 | exact need1 (by k_mem) | exact need2 (by k_mem) (by k_mem) | exact need3 (by k_mem) (by k_mem) (by k_mem))); (case kd => ktr_room); (case ku => ktr_units); intro r9 tl9 h9 tk9 F9 N9 hl9 ho9); obtain ⟨a9, o9, rfl, rfl, tab9⟩ := ho9; (have off9 := off1_of hl9); clear hl9; simp only [List.cons_append, List.nil_append] at N9; (try dsimp only); (try k_sweep); (try k_fold))))
  (k_with "call ref" => (k_here; (with_reducible show wpAny _ _ (call (Value.ref 75) _) _ _ _); k_dflt ((refine' Says.use (paper _ _ _ _ _ _ _ _ _ _ _ _ ?t1) ?k1 ?k2 ?k3 ?k4 ?k5 ?kK ?kn ?kd ?ku ?_; (case t1 => with_reducible assumption); (case k1 => k_asm); (case k2 => k_asm); (case k3 => k_asm); (case k4 => k_asm); (case k5 => k_asm); (case kK => first | exact rfl | assumption); (case kn => (first | exact need0 | exact need1 (by k_mem) | exact need2 (by k_mem) (by k_mem) | exact need3 (by k_mem) (by k_mem) (by k_mem))); (case kd => ktr_room); (case ku => ktr_units); intro r9 tl9 h9 tk9 F9 N9 hl9 ho9); obtain ⟨pD, pl, pc, k1, k2, k3, k4, k5, k6, g0, g1, g2, g3, g4, g5, t0, t1, t2, t3, t4, t5, t6, w0, w1, w2, w3, w4, w5, n1, n2, n3, rfl, rfl, hPap⟩ := ho9; clear hl9; simp only [List.cons_append, List.nil_append] at N9; (try dsimp only); (try k_sweep); (try k_fold))))
  k_steps
  unfold Halt
  refine orders_keep (x := Str.ofString "order") (y := Str.ofString "rows") (y2 := Str.ofString "size") (y3 := Str.ofString "told") ?off ?hk _ ?turn ?done _ (fun _ _ _ _ _ => rfl)
  case off => exact off_lt (by with_reducible assumption)
  case hk => exact ⟨by k_mem, trivial⟩
  case turn =>
    intro v hv x0 x1 x2 x3 oI h' tk' F' N'
    have hOn := on_paper b0 b1 b2 b3 b4 b5 hPap
    obtain ⟨ol, e0, e1, e2, e3, e4, e5, y0, y1, y2, y3, y4, y5, n9, rfl, NO, hPe, be0, be1, be2, be3, be4, be5⟩ := ord_of (c0 := c0) (c1 := c1) (c2 := c2) (c3 := c3) (c4 := c4) (c5 := c5) N' (ord_three (ord_at (by k_mem) (List.Perm.refl _) b0 b1 b2 b3 b4 b5) (ord_at (by k_mem) perm_rev b0 b1 b2 b3 b4 b5) (ord_at (by k_mem) (by assumption) b0 b1 b2 b3 b4 b5)) hv
    clear N' hv
    have hW := law_word be0 be1 be2 be3 be4 be5 hOn hPe
    (k_with "call ref" => (k_here; (with_reducible show wpAny _ _ (call (Value.ref 82) _) _ _ _); k_dflt ((refine' Says.use (rows _ _ _ _ ol e0 e1 e2 e3 e4 e5 y0 y1 y2 y3 y4 y5 n9 be0 be1 be2 be3 be4 be5) ?k1 ?k2 ?k3 ?k4 ?k5 ?kK ?kn ?kd ?ku ?_; (case k1 => k_asm); (case k2 => k_asm); (case k3 => k_asm); (case k4 => k_asm); (case k5 => k_asm); (case kK => first | exact rfl | assumption); (case kn => (first | exact need0 | exact need1 (by k_mem) | exact need2 (by k_mem) (by k_mem) | exact need3 (by k_mem) (by k_mem) (by k_mem))); (case kd => ktr_room); (case ku => ktr_units); intro r9 tl9 h9 tk9 F9 N9 hl9 ho9); obtain ⟨rD, r0, r1, r2, r3, r4, r5, r6, rk, rfl, rfl⟩ := ho9; (have off9 := off1_of hl9); clear hl9; simp only [List.cons_append, List.nil_append] at N9; (try dsimp only); (try k_sweep); (try k_fold))))
    k_steps
    unfold Halt
    refine sizes_keep (x := Str.ofString "size") (x2 := Str.ofString "told") ?off2 ?turn2 ?done2 _ _ _ rfl (fun _ _ _ => rfl)
    case off2 => exact off_lt (by with_reducible assumption)
    case turn2 =>
      intro sz ts uu oI2 h' tk' hs0 hs7 F' N'
      replace hs0 : 0 ≤ sz := hs0
      replace hs7 : sz < 7 := hs7
      (rename _ = (1 : Int) ∨ _ = -1 => hd9)
      have hT := law_told_at hd9 be0 be1 be2 be3 be4 be5 hs0 hs7
      have hC := law_count hd9 hOn hPe hs0 hs7
      rw [← hT] at hC
      (k_with "call ref" => (k_here; (with_reducible show wpAny _ _ (call (Value.ref 87) _) _ _ _); k_dflt ((refine' Says.use (told _ _ _ _ rD rk (rowF [e0, e1, e2, e3, e4, e5]) r0 r1 r2 r3 r4 r5 r6 sz _ _ _ (fun i => rowF_length _ i) hs0 hs7) ?k1 ?k2 ?k3 ?k4 ?k5 ?kK ?kn ?kd ?ku ?_; (case k1 => k_asm); (case k2 => k_asm); (case k3 => k_asm); (case k4 => k_asm); (case k5 => k_asm); (case kK => first | exact rfl | assumption); (case kn => (first | exact need0 | exact need1 (by k_mem) | exact need2 (by k_mem) (by k_mem) | exact need3 (by k_mem) (by k_mem) (by k_mem))); (case kd => ktr_room); (case ku => ktr_units); intro r9 tl9 h9 tk9 F9 N9 hl9 ho9); obtain ⟨tD, ys, rfl, rfl, hA⟩ := ho9; (have off9 := off1_of hl9); clear hl9; simp only [List.cons_append, List.nil_append] at N9; (try dsimp only); (try k_sweep); (try k_fold))))
      (k_with "call ref" => (k_here; (with_reducible show wpAny _ _ (call (Value.ref 94) _) _ _ _); k_dflt ((refine' Says.use (meant _ _ _ _ ol _ _ n9 ints6 rfl sz _ _ _ _ rfl hs0 (Int.le_of_lt_add_one hs7) (Int.pow_pos (by decide))) ?k1 ?k2 ?k3 ?k4 ?k5 ?kK ?kn ?kd ?ku ?_; (case k1 => k_asm); (case k2 => k_asm); (case k3 => k_asm); (case k4 => k_asm); (case k5 => k_asm); (case kK => first | exact rfl | assumption); (case kn => (first | exact need0 | exact need1 (by k_mem) | exact need2 (by k_mem) (by k_mem) | exact need3 (by k_mem) (by k_mem) (by k_mem))); (case kd => ktr_room); (case ku => ktr_units); intro r9 tl9 h9 tk9 F9 N9 hl9 ho9); obtain ⟨mD, zs, mk, rfl, rfl, hB⟩ := ho9; (have off9 := off1_of hl9); clear hl9; simp only [List.cons_append, List.nil_append] at N9; (try dsimp only); (try k_sweep); (try k_fold))))
      (k_with "subscriptTail Name Name ref int" => (k_here; k_dflt (refine' carr_item ?k1 ?k2 hs0 hs7 ?_; (case k1 => k_asm); (case k2 => k_mem); intro t9)))
      k_steps
      (try dsimp only)
      exact Kept.intro (by k_asm) (by k_asm) (by simp only [List.cons_append, List.nil_append]; lcg_sub) (by intro y hy1 hy2; simp only [if_neg hy1, if_neg hy2])
    case done2 =>
      intro ua ub h' tk' F' N'
      (try dsimp only)
      k_steps
      (try dsimp only)
      exact Kept.intro (by k_asm) (by k_asm) (by simp only [List.cons_append, List.nil_append]; lcg_sub) (by intro y hy1 hy2 hy3 hy4; simp only [if_neg hy1, if_neg hy2, if_neg hy3, if_neg hy4])
  case done =>
    intro ua ub uc ud h' tk' F' N'
    (try dsimp only)
    k_steps
end
end Mine
theorem PySem.Challenge.cw_pg0039_01_holds : PySem.Challenge.rw_pg0039_01.Holds :=
  Mine.lawHolds
