import PyProof.Rows.All
import Wide.All
import OpenK.AllK
import Wide.FinOn
import Lean
import PySem.Challenge.RW_nq0091_01
open PySem PySem.W PySem.Spec PySem.Calls PyProof.Rows
set_option Elab.async false
set_option maxRecDepth 100000
namespace Mine
set_option maxHeartbeats 8000000 in
open_top hd for PySem.Challenge.rw_nq0091_01
end Mine

namespace Mine
section
variable {prog : Program} {w : World} {A₀ A : Around} {s : Shared} {base h₀ : Heap} {outer : List Env} {L : Addr} {m : Str → Option Value} {env : Env} {K : Frag}
  {R : Result → Shared → Prop} {name qual : Str} {params : Arguments} {body : List Stmt} {scope : Scope} {dV kV doc pm cdv ct oc : Value} {an od : Option Addr} {osl : Array (Option Value)} {f : Addr} {args : Args} {binds : List (Str × Value)}
  {p : Program} {loose : List Str} {mean : ExcName → Option Value} {mg mb : Str → Option Value}

theorem enterP (B : Below A₀ base outer h₀) (F : Fr h₀ L s.heap m) (X₀ : K.In h₀) (T : Top p loose mean mg mb h₀) (hA : A.frames = some (env :: outer)) (hf : env.frame = some L) (hke : env.scope.kind = .function)
    (ho : K.lookup f = some ⟨oc, od, .func (fnOf name qual params body scope dV kV doc pm an cdv ct), osl⟩) (hcd : codeIn K cdv qual = true) (hroom : A.depth < recursionLimit)
    (hbind : BindsTo s (fnOf name qual params body scope dV kV doc pm an cdv ct) args binds) (hloc : ∀ y ∈ binds, scope.names.lookup y.1 = some .local)
    (h : ∀ L' h₁, Fr s.heap L' h₁ (fun y => binds.reverse.lookup y) → News s.heap L' h₁ [] → Below A base (env :: outer) s.heap → K.In s.heap → Top p loose mean mg mb s.heap →
      wpAny (model prog w) (A.deeper (envOf qual scope L' f cdv)) (execs body (envOf qual scope L' f cdv))
        (fun fl s' => R (.ok (.ret (match fl with | .ret v => v | _ => .none))) s')
        (fun e s' => wpAny (model prog w) (A.deeper (envOf qual scope L' f cdv)) (leaving (envOf qual scope L' f cdv) e) (fun _ s'' => R (.error e) s'') (fun e' s'' => R (.error e') s'') s')
        { s with heap := h₁, toks := s.toks + binds.length })
    (hco : scope.isCoroutine = false) (hgen : scope.isGenerator = false) (hk : scope.kind = .function)
    (hcell : ∀ x ∈ scope.names, x.2 ≠ .cell) : codeAny (model prog w) A (.call (.ref f) args) R s := by
  obtain ⟨FG, BG, st, _⟩ := groundX (R := R) B F (News.nil (h₀ := h₀) (L := L) (h := s.heap)) hA hf hke
  refine codeAny_call_def (fd := fnX name qual params body scope [] dV kV doc pm an cdv ct) (body := body) (binds := binds) hroom ((X₀.keeps F.keep) _ _ ho) rfl (T.nolimit.keeps F.keep) (codeRec_of (X₀.keeps F.keep) hcd) rfl hbind hcell hloc (fun h₁ hns hk₁ => ?_) hco hgen hk
  exact h s.heap.objs.size h₁ ⟨hns, hk₁, Nat.le_refl _⟩ News.nil BG (X₀.keeps st) (T.keeps st)

theorem enterC (B : Below A₀ base outer h₀) (F : Fr h₀ L s.heap m) (X₀ : K.In h₀) (T : Top p loose mean mg mb h₀) (hA : A.frames = some (env :: outer)) (hf : env.frame = some L) (hke : env.scope.kind = .function)
    (ho : K.lookup f = some ⟨oc, od, .func (fnOf name qual params body scope dV kV doc pm an cdv ct), osl⟩) (hcd : codeIn K cdv qual = true) (hroom : A.depth < recursionLimit)
    (hbind : BindsTo s (fnOf name qual params body scope dV kV doc pm an cdv ct) args binds) (hkind : (binds.all fun y => scope.names.lookup y.1 == some .local || scope.names.lookup y.1 == some .cell) = true)
    (hnd : ((cellsFrom 0 scope.names []).map (·.1)).Nodup)
    (h : ∀ L' h₁ tk cells, Fr s.heap L' h₁ (bindL (envOfC qual scope L' f cdv).kindOf binds fun _ => none) → News s.heap L' h₁ cells →
      CellsAre (bindC (envOfC qual scope L' f cdv).kindOf binds fun _ => none) (cellsFrom (L' + 1) scope.names []) cells → Below A base (env :: outer) s.heap → K.In s.heap → Top p loose mean mg mb s.heap →
      wpAny (model prog w) (A.deeper (envOfC qual scope L' f cdv)) (execs body (envOfC qual scope L' f cdv))
        (fun fl s' => R (.ok (.ret (match fl with | .ret v => v | _ => .none))) s')
        (fun e s' => wpAny (model prog w) (A.deeper (envOfC qual scope L' f cdv)) (leaving (envOfC qual scope L' f cdv) e) (fun _ s'' => R (.error e) s'') (fun e' s'' => R (.error e') s'') s')
        { s with heap := h₁, toks := tk })
    (hco : scope.isCoroutine = false) (hgen : scope.isGenerator = false) (hk : scope.kind = .function) : codeAny (model prog w) A (.call (.ref f) args) R s := by
  obtain ⟨FG, BG, st, _⟩ := groundX (R := R) B F (News.nil (h₀ := h₀) (L := L) (h := s.heap)) hA hf hke
  refine codeAny_call_function hroom ((X₀.keeps F.keep) _ _ ho) rfl hco hgen rfl (codeRec_of (X₀.keeps F.keep) hcd) (hbind _ _ _ _ ?_)
  refine wpAny_newFunctionEnv_cells hk (kindsX hkind _) fun env' he s' x => ?_
  subst he
  refine ⟨(T.nolimit.keeps F.keep).keeps x.toInCall.keep, codeAny_func ?_⟩
  obtain ⟨h₁, tk, rfl, _⟩ := x.done
  have hk₁ := x.toInCall.keep
  obtain ⟨cells, NC, Y⟩ := Cl.news (h₀ := s.heap) (Nat.le_refl _) fun n c hm => ⟨x.cell n c (lookup_of_mem_nodup (cellsFrom_names scope.names 0 (s.heap.objs.size + 1) [] [] rfl ▸ hnd) hm), x.above n c hm⟩
  exact h s.heap.objs.size h₁ tk cells ⟨x.toInCall.ns, hk₁, Nat.le_refl _⟩ NC Y BG (X₀.keeps st) (T.keeps st)
end
abbrev PG : Program := PySem.Challenge.pw_nq0091_01
structure Gd (k : Nat) (w : World) (p : Program) (loose : List Str) (mean : ExcName → Option Value) (mg mb : Str → Option Value) (dp un : Nat) (cs : Scope) (outer : List Env) (A₀ : Around) (base h₀ : Heap) (L : Addr) (m : Str → Option Value) (h : Heap) : Prop where
  B : Below A₀ base outer h₀
  F : Fr h₀ L h m
  X : (Mine.hd.heap_39 w.params).In h₀
  T : Top p loose mean mg mb h₀
  hk : cs.kind = .function
  hd : dp + k < recursionLimit
  hu : un + 20 * k + 80 < cLine
theorem turnFr {h₀ h₂ h₃ : Heap} {L I C : Addr} {m m₃ : Str → Option Value} {news : List (Addr × Obj)} (F : Fr h₀ L h₂ m) (N : News h₀ L h₂ news)
    (hI : ∀ b o, b ∉ [I] → h₂.get? b = some o → h₃.get? b = some o) (hIn : h₀.get? I = none) (hIL : L ≠ I) (off : ∀ p ∈ news, p.1 ≠ I)
    (hC : h₂.objs.size ≤ C) (hn : h₃.Ns C m₃) : ∃ oC, LCg.NsObj oC m₃ ∧ Fr h₀ L h₃ m ∧ News h₀ L h₃ ((C, oC) :: news) := by
  obtain ⟨oC, hC', hoC⟩ := LCg.ns_obj hn
  refine ⟨oC, hoC, LCg.fr_but F hI hIL hIn, fun p hp => ?_⟩
  rcases List.mem_cons.mp hp with rfl | hp
  · refine ⟨hC', Nat.ne_of_gt (Nat.lt_of_lt_of_le F.ns.lt hC), ?_⟩
    cases q : h₀.get? C with
    | none => rfl
    | some o => exact absurd (Heap.lt_size (F.keep _ _ q)) (Nat.not_lt.mpr hC)
  · exact LCg.news_but N hI off p hp
theorem forIn_nil {M : Model} {A : Around} {E : Value → Shared → Prop} {s : Shared} {f : Expr → Bool → Sem (ForInStep Bool)} {Q : Bool → Shared → Prop} (h : Q true s) :
    wpAny M A (forIn ([] : List Expr) true f) Q E s := wpAny_pure h
theorem fresh_size {h₀ h : Heap} {L : Addr} {m : Str → Option Value} (F : Fr h₀ L h m) : h₀.get? h.objs.size = none := by
  cases q : h₀.get? h.objs.size with
  | none => rfl
  | some o => exact absurd (Heap.lt_size (F.keep _ _ q)) (Nat.lt_irrefl _)
end Mine

namespace Mine
abbrev CompAt (w : World) (A : Around) (env : Env) (scope : Scope) (cl : List (Str × Addr)) (x : Str) (ifs : List Expr) (elt : Expr) (p : Value → Bool) (FF : Value → Value → Prop) (Q : Value → Shared → Prop) (it : Value) (s₂ : Shared) : Prop :=
  ∃ I fp wr n P St, it = .ref I ∧ Walks PG w A I fp wr n P St ∧ n ≤ sizeLine ∧ St 0 s₂.heap ∧ (∀ b ∈ fp, b < s₂.heap.objs.size) ∧
    QuietOnC PG w A env scope cl x ifs elt wr P p FF s₂ ∧
    (∀ D h' tk ys (vs : List Value), s₂.heap.get? D = none → h'.IsList D ys → h'.PlainList D ys → vs.length = n → (∀ j v, vs[j]? = some v → P j v) → Paired FF (vs.filter p) ys.toList →
      (∀ b o, b ∉ wr → s₂.heap.get? b = some o → h'.get? b = some o) → Q (.ref D) { s₂ with heap := h', toks := tk })
section
variable {w : World} {A : Around} {E : Value → Shared → Prop} {s : Shared} {h₀ : Heap} {L : Addr} {m : Str → Option Value} {news : List (Addr × Obj)} {env : Env} {scope : Scope} {cl : List (Str × Addr)} {x : Str} {ifs : List Expr} {elt : Expr} {p : Value → Bool} {FF : Value → Value → Prop} {Q : Value → Shared → Prop}
theorem get_none_of_keep {h h' : Heap} (k : ∀ b o, h.get? b = some o → h'.get? b = some o) {b : Addr} (e : h'.get? b = none) : h.get? b = none := by
  cases q : h.get? b with
  | none => rfl
  | some o => rw [k b o q] at e; cases e
theorem src_any {oI : Obj} {n : Nat} {P : Nat → Value → Prop} {St : Nat → Heap → Prop} {fp : List Addr} (F : Fr h₀ L s.heap m) (N : News h₀ L s.heap news)
    (W : Walks PG w A s.heap.objs.size fp [s.heap.objs.size] n P St) (hn : n ≤ sizeLine) (hst : St 0 (s.heap.push oI)) (hfp : ∀ b ∈ fp, b < (s.heap.push oI).objs.size)
    (tests : ∀ C oC i v s₃ m₃ E', P i v → LCg.NsObj oC m₃ → m₃ x = some v → Fr h₀ L s₃.heap m → News h₀ L s₃.heap ((C, oC) :: news) → (∀ b o, s.heap.get? b = some o → s₃.heap.get? b = some o) →
      wpAny (model PG w) A (forIn ifs true fun c r => if r = true then do let ok ← isTrue c (compEnvC scope cl C env) (eval c (compEnvC scope cl C env)); pure (ForInStep.yield ok) else pure (ForInStep.yield r))
        (fun ok s₄ => ok = p v ∧ Keeps s₃ s₄) E' s₃)
    (elts : ∀ C oC i v s₃ m₃ E', P i v → p v = true → LCg.NsObj oC m₃ → m₃ x = some v → Fr h₀ L s₃.heap m → News h₀ L s₃.heap ((C, oC) :: news) → (∀ b o, s.heap.get? b = some o → s₃.heap.get? b = some o) →
      wpAny (model PG w) A (eval elt (compEnvC scope cl C env)) (fun y s₄ => FF v y ∧ Keeps s₃ s₄) E' s₃)
    (fin : ∀ D h' tk ys (vs : List Value), h₀.get? D = none → h'.PlainList D ys → vs.length = n → (∀ j v, vs[j]? = some v → P j v) → Paired FF (vs.filter p) ys.toList →
      Fr h₀ L h' m → News h₀ L h' news → (∀ b o, s.heap.get? b = some o → h'.get? b = some o) → Q (.ref D) { s with heap := h', toks := tk }) :
    CompAt w A env scope cl x ifs elt p FF Q (.ref s.heap.objs.size) { s with heap := s.heap.push oI } := by
  have up : ∀ b o, s.heap.get? b = some o → (s.heap.push oI).get? b = some o := fun b o e => Heap.get?_push_of_some _ e
  have hlt : ∀ b o, s.heap.get? b = some o → b ∉ [s.heap.objs.size] := fun b o e hm => by
    rw [List.mem_singleton.mp hm] at e; exact Nat.lt_irrefl _ (Heap.lt_size e)
  have F₂ : Fr h₀ L (s.heap.push oI) m := F.keeps up
  have N₂ : News h₀ L (s.heap.push oI) news := N.grown up
  have hI₀ := fresh_size F
  have hIL : L ≠ s.heap.objs.size := Nat.ne_of_lt F.ns.lt
  have off : ∀ p ∈ news, p.1 ≠ s.heap.objs.size := fun p hp => Nat.ne_of_lt (Heap.lt_size (N p hp).1)
  refine ⟨_, fp, _, n, P, St, rfl, W, hn, hst, hfp, ⟨?_, ?_⟩, ?_⟩
  · intro C i v s₃ m₃ E' hC hP hns hx hk _
    obtain ⟨oC, hoC, F₃, N₃⟩ := turnFr F₂ N₂ hk hI₀ hIL off hC hns
    exact tests C oC i v s₃ m₃ E' hP hoC hx F₃ N₃ fun b o e => hk b o (hlt b o e) (up b o e)
  · intro C i v s₃ m₃ E' hC hP hp hns hx hk _
    obtain ⟨oC, hoC, F₃, N₃⟩ := turnFr F₂ N₂ hk hI₀ hIL off hC hns
    exact elts C oC i v s₃ m₃ E' hP hp hoC hx F₃ N₃ fun b o e => hk b o (hlt b o e) (up b o e)
  · intro D h' tk ys vs hD _ hpl hlen hP hF hk
    have kp : ∀ b o, s.heap.get? b = some o → h'.get? b = some o := fun b o e => hk b o (hlt b o e) (up b o e)
    exact fin D h' tk ys vs (get_none_of_keep F.keep (get_none_of_keep up hD)) hpl hlen hP hF (F.keeps kp) (N.grown kp) kp
theorem src_range {r : Addr} {b : Int} {t u v : Tok} {n : Nat} (hh : A.handled = none) (F : Fr h₀ L s.heap m) (N : News h₀ L s.heap news) (hr : IsRange s.heap r 0 b 1 t u v) (hb : b = (n : Int)) (hn : n ≤ 1000)
    (tests : ∀ C oC (i : Nat) t s₃ m₃ E', i < n → LCg.NsObj oC m₃ → m₃ x = some (.int i t) → Fr h₀ L s₃.heap m → News h₀ L s₃.heap ((C, oC) :: news) → (∀ b o, s.heap.get? b = some o → s₃.heap.get? b = some o) →
      wpAny (model PG w) A (forIn ifs true fun c r => if r = true then do let ok ← isTrue c (compEnvC scope cl C env) (eval c (compEnvC scope cl C env)); pure (ForInStep.yield ok) else pure (ForInStep.yield r))
        (fun ok s₄ => ok = p (.int i t) ∧ Keeps s₃ s₄) E' s₃)
    (elts : ∀ C oC (i : Nat) t s₃ m₃ E', i < n → p (.int i t) = true → LCg.NsObj oC m₃ → m₃ x = some (.int i t) → Fr h₀ L s₃.heap m → News h₀ L s₃.heap ((C, oC) :: news) → (∀ b o, s.heap.get? b = some o → s₃.heap.get? b = some o) →
      wpAny (model PG w) A (eval elt (compEnvC scope cl C env)) (fun y s₄ => FF (.int i t) y ∧ Keeps s₃ s₄) E' s₃)
    (fin : ∀ D h' tk ys (vs : List Value), h₀.get? D = none → h'.PlainList D ys → vs.length = n → (∀ (j : Nat) v, vs[j]? = some v → ∃ t, v = .int j t) → Paired FF (vs.filter p) ys.toList →
      Fr h₀ L h' m → News h₀ L h' news → (∀ b o, s.heap.get? b = some o → h'.get? b = some o) → Q (.ref D) { s with heap := h', toks := tk }) :
    wpAny (model PG w) A (pyIter (.ref r)) (CompAt w A env scope cl x ifs elt p FF Q) E s := by
  subst hb
  have hsz : Builtin.Range.rangeSize 0 (n : Int) 1 = (n : Int) := by rw [rangeSize_nat]; simp
  refine wpAny_pyIter_range hr (small_one (by decide) (by decide) (by omega) (by omega)) ?_
  rw [hsz]
  refine src_any F N (Walks.range hh s.heap.objs.size 0 1 n).bound (Nat.le_trans hn (by rw [sizeLine_eq]; decide)) ?_ ?_ ?_ ?_ ?_
  · show IsRangeIter _ _ _ _ _
    simpa using Heap.get?_push_size s.heap (o := { cls := .type "range_iterator", data := .fields #[rawInt 0, rawInt (n : Int), rawInt 1] }) rfl
  · intro b hb
    rw [List.mem_singleton.mp hb, Heap.size_push]; exact Nat.lt_succ_self _
  · rintro C oC i v s₃ m₃ E' ⟨hi, t, rfl⟩ hoC hx F₃ N₃ hk
    have e : (0 : Int) + i * 1 = i := by omega
    rw [e] at hx ⊢
    exact tests C oC i t s₃ m₃ E' hi hoC hx F₃ N₃ hk
  · rintro C oC i v s₃ m₃ E' ⟨hi, t, rfl⟩ hp hoC hx F₃ N₃ hk
    have e : (0 : Int) + i * 1 = i := by omega
    rw [e] at hx hp ⊢
    exact elts C oC i t s₃ m₃ E' hi hp hoC hx F₃ N₃ hk
  · intro D h' tk ys vs hD hpl hlen hP
    refine fin D h' tk ys vs hD hpl hlen fun j v hj => ?_
    obtain ⟨_, t, rfl⟩ := hP j v hj
    exact ⟨t, by simp⟩
theorem src_list {r : Addr} {items : Array Value} (hh : A.handled = none) (F : Fr h₀ L s.heap m) (N : News h₀ L s.heap news) (hl : s.heap.IsList r items) (hn : items.size ≤ sizeLine)
    (tests : ∀ C oC (i : Nat) v s₃ m₃ E', items[i]? = some v → LCg.NsObj oC m₃ → m₃ x = some v → Fr h₀ L s₃.heap m → News h₀ L s₃.heap ((C, oC) :: news) → (∀ b o, s.heap.get? b = some o → s₃.heap.get? b = some o) →
      wpAny (model PG w) A (forIn ifs true fun c r => if r = true then do let ok ← isTrue c (compEnvC scope cl C env) (eval c (compEnvC scope cl C env)); pure (ForInStep.yield ok) else pure (ForInStep.yield r))
        (fun ok s₄ => ok = p v ∧ Keeps s₃ s₄) E' s₃)
    (elts : ∀ C oC (i : Nat) v s₃ m₃ E', items[i]? = some v → p v = true → LCg.NsObj oC m₃ → m₃ x = some v → Fr h₀ L s₃.heap m → News h₀ L s₃.heap ((C, oC) :: news) → (∀ b o, s.heap.get? b = some o → s₃.heap.get? b = some o) →
      wpAny (model PG w) A (eval elt (compEnvC scope cl C env)) (fun y s₄ => FF v y ∧ Keeps s₃ s₄) E' s₃)
    (fin : ∀ D h' tk ys (vs : List Value), h₀.get? D = none → h'.PlainList D ys → vs.length = items.size → (∀ (j : Nat) v, vs[j]? = some v → items[j]? = some v) → Paired FF (vs.filter p) ys.toList →
      Fr h₀ L h' m → News h₀ L h' news → (∀ b o, s.heap.get? b = some o → h'.get? b = some o) → Q (.ref D) { s with heap := h', toks := tk }) :
    wpAny (model PG w) A (pyIter (.ref r)) (CompAt w A env scope cl x ifs elt p FF Q) E s := by
  have hlt : r < s.heap.objs.size := by obtain ⟨_, e, _⟩ := hl; exact Heap.lt_size e
  refine wpAny_pyIter_list hl ?_
  refine src_any F N (Walks.list hh s.heap.objs.size r (Nat.ne_of_lt hlt) items) hn ⟨⟨_, Heap.get?_push_size _ rfl, rfl, rfl⟩, hl.push _⟩ ?_ tests elts fin
  intro b hb
  rw [Heap.size_push]
  rcases List.mem_cons.mp hb with rfl | hb
  · exact Nat.lt_succ_self _
  · rw [List.mem_singleton.mp hb]; exact Nat.lt_succ_of_lt hlt
end
end Mine

namespace Mine
section
variable {w : World} {A : Around} {E : Value → Shared → Prop} {s : Shared}
def hashNone : Int := 0xFCA86420
theorem pyHash_none {Q : Int → Shared → Prop} (h : Q hashNone { s with toks := s.toks + 1 }) : wpAny (model PG w) A (pyHash .none) Q E s := by
  unfold pyHash pyHashByItsType
  have hv : [Value.none].any Value.onHeap = false := rfl
  refine wpAny_bind ?_
  rw [cRoomFor, if_neg (by rw [hv]; exact Bool.false_ne_true)]; refine wpAny_pure ?_
  have hT : s.TypeIs .none "NoneType" := rfl
  refine wpAny_bind (wpAny_specialOf hT F.slot_NoneType_hash.lookup ?_)
  show wpAny _ _ (if (some (Value.builtin "NoneType.__hash__") == some Value.none) = true then _ else _) Q E s
  rw [if_neg (by rw [beq_builtin_none]; exact Bool.false_ne_true)]
  refine wpAny_bind (wpAny_specialOf hT F.slot_NoneType_hash.lookup ?_)
  show wpAny _ _ (callSpecialIfBoundUnlessNone? .none "__hash__" _ >>= _) Q E s
  refine wpAny_bind (wpAny_callSpecialIfBoundUnlessNone?_slot hT F.slot_NoneType_hash
    (wpAny_call_entry F.slot_NoneType_hash hT F.entry_NoneType_hash
      (show wpAny _ _ (do ret (← mkInt hashNone)) _ _ s from wpAny_ret_mkInt ?_) (F.args_NoneType_hash_1 _)))
  show wpAny _ _ (if (decide (-(2 : Int) ^ 63 ≤ hashNone) && decide (hashNone < 2 ^ 63)) = true then _ else _) Q E _
  rw [if_pos (by decide)]
  exact wpAny_pure h
theorem eqBool_str_none {a : Str} {t : Tok} {Q : Bool → Shared → Prop} (h : Q false s) : wpAny (model PG w) A (eqBool (.str a t) .none) Q E s := by
  unfold eqBool
  refine wpAny_holding ?_
  show wpAny _ _ (if (Value.str a t == Value.none) = true then _ else _) Q E s
  rw [if_neg (by intro e; exact nomatch (eq_of_beq e))]
  exact wpAny_bind (EqNone.eq_str_none (wpAny_truthy_bool h))
theorem eqBool_none_str {a : Str} {t : Tok} {Q : Bool → Shared → Prop} (h : Q false s) : wpAny (model PG w) A (eqBool .none (.str a t)) Q E s := by
  unfold eqBool
  refine wpAny_holding ?_
  show wpAny _ _ (if (Value.none == Value.str a t) = true then _ else _) Q E s
  rw [if_neg (by intro e; exact nomatch (eq_of_beq e))]
  exact wpAny_bind (EqNone.eq_none_str (wpAny_truthy_bool h))
theorem eqBool_none_none {Q : Bool → Shared → Prop} (h : Q true s) : wpAny (model PG w) A (eqBool .none .none) Q E s := by
  unfold eqBool
  refine wpAny_holding ?_
  show wpAny _ _ (if (Value.none == Value.none) = true then _ else _) Q E s
  rw [if_pos (by rfl)]
  exact wpAny_bind (wpAny_rule (wpAny_pure h))
end
def isMix : Option Str → Value → Bool
  | none, .none => true
  | some x, v => Value.isStrOf x v
  | _, _ => false
theorem isMix_none {v : Value} (h : isMix none v = true) : v = .none := by cases v <;> first | rfl | cases h
theorem isMix_some {x : Str} {v : Value} (h : isMix (some x) v = true) : ∃ t, v = .str x t := Value.isStrOf_shape h
def mixKind (w : World) : KeyKind PG w (Option Str) where
  is := isMix
  hash := fun k => k.elim hashNone (hashStr w)
  inj := fun v a b ha hb => by
    cases a with
    | none => cases b with
      | none => rfl
      | some y => rw [isMix_none ha] at hb; cases hb
    | some x => cases b with
      | none => rw [isMix_none hb] at ha; cases ha
      | some y => exact congrArg some (Value.isStrOf_inj v x y ha hb)
  byValue := fun k v h => by
    cases k with
    | none => rw [isMix_none h]; rfl
    | some x => obtain ⟨t, rfl⟩ := isMix_some h; rfl
  pyHash := fun {_ _ _ k v _} hv h => by
    cases k with
    | none => rw [isMix_none hv]; exact pyHash_none h
    | some x => obtain ⟨t, rfl⟩ := isMix_some hv; exact wpAny_pyHash_str h
  eqBool := fun {_ _ _ a b u v _} hu hv h => by
    cases a with
    | none =>
      rw [isMix_none hu]
      cases b with
      | none => rw [isMix_none hv]; exact eqBool_none_none (by simpa using h)
      | some y => obtain ⟨t, rfl⟩ := isMix_some hv; exact eqBool_none_str (by simpa using h)
    | some x =>
      obtain ⟨t, rfl⟩ := isMix_some hu
      cases b with
      | none => rw [isMix_none hv]; exact eqBool_str_none (by simpa using h)
      | some y => obtain ⟨t', rfl⟩ := isMix_some hv; exact wpAny_eqBool_str (by simpa using h)
  «strs» := fun k x t v h => by
    cases k with
    | none => exact nomatch isMix_none h
    | some y =>
      obtain ⟨t', e⟩ := isMix_some h
      cases e
      cases v <;> rfl
theorem dictOf_mix {w : World} {h : Heap} {a : Addr} {kvs : List (Str × Value)} (x : h.DictOf (strKind PG w) a kvs) : h.DictOf (mixKind w) a (kvs.map fun kv => (some kv.1, kv.2)) := by
  obtain ⟨o, es, ep, ho, hx, hd, hk, hp, hn⟩ := x
  refine ⟨o, es, ep, ho, hx, hd, fun e he => ?_, ?_, ?_⟩
  · obtain ⟨k, h1, h2⟩ := hk e he
    exact ⟨some k, h1, h2⟩
  · clear hd hk ho hx hn
    generalize es.toList = l at hp
    induction hp with
    | nil => exact .nil
    | cons h1 h2 _ ih => exact .cons h1 h2 ih
  · rw [List.map_map]
    have : ((fun kv : Option Str × Value => kv.1) ∘ fun kv : Str × Value => (some kv.1, kv.2)) = some ∘ (fun kv => kv.1) := rfl
    rw [this, ← List.map_map]
    exact List.Pairwise.map some (fun a b hab e => hab (Option.some.inj e)) hn
end Mine

namespace Mine
section
variable {w : World} {A : Around} {E : Value → Shared → Prop} {s : Shared} {h₀ : Heap} {L : Addr} {m : Str → Option Value} {news : List (Addr × Obj)} {env : Env} {scope : Scope} {cl : List (Str × Addr)} {x : Str} {ifs : List Expr} {kx vx : Expr} {p : Value → Bool} {Q : Value → Shared → Prop}
  {K : Type} [DecidableEq K] {knd : KeyKind PG w K} {FK : Value → K → Prop} {FV : Value → Value → Prop}
theorem src_rangeD {r : Addr} {b : Int} {t u v : Tok} {n : Nat} (hh : A.handled = none) (F : Fr h₀ L s.heap m) (N : News h₀ L s.heap news) (hr : IsRange s.heap r 0 b 1 t u v) (hb : b = (n : Int)) (hn : n ≤ 1000)
    (tests : ∀ C (i : Nat) t s₃ m₃ E', i < n → s₃.heap.Ns C m₃ → m₃ x = some (.int i t) → Fr h₀ L s₃.heap m → News h₀ L s₃.heap news → (∀ b o, s.heap.get? b = some o → s₃.heap.get? b = some o) →
      wpAny (model PG w) A (forIn ifs true fun c r => if r = true then do let ok ← isTrue c (compEnvC scope cl C env) (eval c (compEnvC scope cl C env)); pure (ForInStep.yield ok) else pure (ForInStep.yield r))
        (fun ok s₄ => ok = p (.int i t) ∧ Keeps s₃ s₄) E' s₃)
    (keys : ∀ C (i : Nat) t s₃ m₃ E', i < n → p (.int i t) = true → s₃.heap.Ns C m₃ → m₃ x = some (.int i t) → Fr h₀ L s₃.heap m → News h₀ L s₃.heap news → (∀ b o, s.heap.get? b = some o → s₃.heap.get? b = some o) →
      wpAny (model PG w) A (eval kx (compEnvC scope cl C env)) (fun key s₄ => (∃ k, knd.is k key = true ∧ FK (.int i t) k) ∧ Keeps s₃ s₄) E' s₃)
    (vals : ∀ C (i : Nat) t s₃ m₃ E', i < n → p (.int i t) = true → s₃.heap.Ns C m₃ → m₃ x = some (.int i t) → Fr h₀ L s₃.heap m → News h₀ L s₃.heap news → (∀ b o, s.heap.get? b = some o → s₃.heap.get? b = some o) →
      wpAny (model PG w) A (eval vx (compEnvC scope cl C env)) (fun y s₄ => FV (.int i t) y ∧ Keeps s₃ s₄) E' s₃)
    (fin : ∀ D h' tk kvs (vs : List Value), h₀.get? D = none → h'.DictOf knd D kvs → vs.length = n → (∀ (j : Nat) v, vs[j]? = some v → ∃ t, v = .int j t) → StoredAll FK FV (vs.filter p) kvs →
      Fr h₀ L h' m → News h₀ L h' news → (∀ b o, s.heap.get? b = some o → h'.get? b = some o) → Q (.ref D) { s with heap := h', toks := tk }) :
    wpAny (model PG w) A (pyIter (.ref r)) (fun it s₂ => ∃ I fp wr n P St, it = .ref I ∧ Walks PG w A I fp wr n P St ∧ n ≤ sizeLine ∧ St 0 s₂.heap ∧ (∀ b ∈ fp, b < s₂.heap.objs.size) ∧
      QuietOnCD knd A env scope cl x ifs kx vx wr P p FK FV s₂ ∧
      (∀ D h' tk kvs (vs : List Value), s₂.heap.get? D = none → h'.DictOf knd D kvs → vs.length = n → (∀ j v, vs[j]? = some v → P j v) → StoredAll FK FV (vs.filter p) kvs →
        (∀ b o, b ∉ wr → s₂.heap.get? b = some o → h'.get? b = some o) → Q (.ref D) { s₂ with heap := h', toks := tk })) E s := by
  subst hb
  have hsz : Builtin.Range.rangeSize 0 (n : Int) 1 = (n : Int) := by rw [rangeSize_nat]; simp
  refine wpAny_pyIter_range hr (small_one (by decide) (by decide) (by omega) (by omega)) ?_
  rw [hsz]
  generalize hoI : ({ cls := .type "range_iterator", data := .fields #[rawInt 0, rawInt (n : Int), rawInt 1] } : Obj) = oI
  have up : ∀ b o, s.heap.get? b = some o → (s.heap.push oI).get? b = some o := fun b o e => Heap.get?_push_of_some _ e
  have hlt : ∀ b o, s.heap.get? b = some o → b ∉ [s.heap.objs.size] := fun b o e hm => by
    rw [List.mem_singleton.mp hm] at e; exact Nat.lt_irrefl _ (Heap.lt_size e)
  refine ⟨_, _, _, n, _, _, rfl, (Walks.range hh s.heap.objs.size 0 1 n).bound, Nat.le_trans hn (by rw [sizeLine_eq]; decide), ?_, ?_, ⟨?_, ?_, ?_⟩, ?_⟩
  · show IsRangeIter _ _ _ _ _
    subst hoI
    simpa using Heap.get?_push_size s.heap (o := { cls := .type "range_iterator", data := .fields #[rawInt 0, rawInt (n : Int), rawInt 1] }) rfl
  · intro b hb
    rw [List.mem_singleton.mp hb, Heap.size_push]; exact Nat.lt_succ_self _
  · rintro C i v s₃ m₃ E' ⟨hi, t, rfl⟩ hns hx hk
    have kp : ∀ b o, s.heap.get? b = some o → s₃.heap.get? b = some o := fun b o e => hk b o (hlt b o e) (up b o e)
    have e : (0 : Int) + i * 1 = i := by omega
    rw [e] at hx ⊢
    exact tests C i t s₃ m₃ E' hi hns hx (F.keeps kp) (N.grown kp) kp
  · rintro C i v s₃ m₃ E' ⟨hi, t, rfl⟩ hp hns hx hk
    have kp : ∀ b o, s.heap.get? b = some o → s₃.heap.get? b = some o := fun b o e => hk b o (hlt b o e) (up b o e)
    have e : (0 : Int) + i * 1 = i := by omega
    rw [e] at hx hp ⊢
    exact keys C i t s₃ m₃ E' hi hp hns hx (F.keeps kp) (N.grown kp) kp
  · rintro C i v s₃ m₃ E' ⟨hi, t, rfl⟩ hp hns hx hk
    have kp : ∀ b o, s.heap.get? b = some o → s₃.heap.get? b = some o := fun b o e => hk b o (hlt b o e) (up b o e)
    have e : (0 : Int) + i * 1 = i := by omega
    rw [e] at hx hp ⊢
    exact vals C i t s₃ m₃ E' hi hp hns hx (F.keeps kp) (N.grown kp) kp
  · intro D h' tk kvs vs hD hd hlen hP hS hk
    have kp : ∀ b o, s.heap.get? b = some o → h'.get? b = some o := fun b o e => hk b o (hlt b o e) (up b o e)
    refine fin D h' tk kvs vs (get_none_of_keep F.keep (get_none_of_keep up hD)) hd hlen (fun j v hj => ?_) hS (F.keeps kp) (N.grown kp) kp
    obtain ⟨_, t, rfl⟩ := hP j v hj
    exact ⟨t, by simp⟩
theorem item_at {value slice : Expr} {l : Addr} {items : Array Value} {k : Int} {u : Tok} {v : Value} (hl : s.heap.IsList l items) (h0 : 0 ≤ k) (hhi : k < 2 ^ 63) (hx : items[k.toNat]? = some v) (h : Q v s)
    (hs : subscripted slice false (.ref l) (.int k u) = operate [.ref l, .int k u] (getItem (.ref l) (.int k u)) := by with_unfolding_all rfl) :
    wpAny (model PG w) A (subscriptTail value slice (.ref l) (.int k u)) Q E s :=
  tail_any hl.typeIs slot_list_getitem.lookup (wpAny_getItem_list hl h0 hhi hx h) hs
theorem tests_one {c : Expr} {cenv : Env} {Q : Bool → Shared → Prop} (h : wpAny (model PG w) A (isTrue c cenv (eval c cenv)) Q E s) :
    wpAny (model PG w) A (forIn [c] true fun c r => if r = true then do let ok ← isTrue c cenv (eval c cenv); pure (ForInStep.yield ok) else pure (ForInStep.yield r)) Q E s := by
  simp only [List.forIn_cons, if_true, List.forIn_nil, bind_assoc, pure_bind, bind_pure]
  exact h
theorem ints_at {vs : List Value} {ns : List Int} (h : IntsAre vs ns) : ∀ {i : Nat} {n : Int}, ns[i]? = some n → ∃ t, vs[i]? = some (.int n t) := by
  induction h with
  | nil => intro i n e; simp at e
  | cons k t _ ih =>
    intro i n e
    cases i with
    | zero => simp at e; subst e; exact ⟨t, rfl⟩
    | succ i => exact ih (by simpa using e)
end
end Mine

namespace Mine
section
variable {w : World} {A : Around} {E : Value → Shared → Prop} {s : Shared}
theorem bool_index : typeLookup (.type "bool") "__index__" = pure (some (.builtin "int.__index__")) := by rw [typeLookup_type, builtinLookup_eq_fast]; kernel_rfl
theorem subscript_true {Q : Option Int → Shared → Prop} (h : Q (some 1) s) : wpAny (model PG w) A (Builtin.List.listSubscript? (.bool true)) Q E s := by
  unfold Builtin.List.listSubscript?
  refine wpAny_bind (wpAny_specialOf (T := "bool") rfl bool_index ?_)
  show wpAny _ A (asIndex (.bool true) >>= _) Q E s
  refine wpAny_bind (wpAny_of_eq (a := 1) rfl ?_)
  show wpAny _ A (if (!Builtin.List.listFitsIndex 1) = true then _ else _) Q E s
  rw [if_neg (by decide)]
  exact wpAny_pure h
theorem getItem_true {l : Addr} {items : Array Value} {x : Value} {Q : Value → Shared → Prop} (hl : s.heap.IsList l items) (hx : items[1]? = some x) (h : Q x s) :
    wpAny (model PG w) A (getItem (.ref l) (.bool true)) Q E s := by
  obtain ⟨o, ho, hc, ne, hd⟩ := id hl
  unfold getItem
  refine wpAny_holding ?_
  refine wpAny_bind (wpAny_sequenceKey hl.typeIs (by decide) ?_)
  refine wpAny_bind (wpAny_callSpecial?_slot (name := Str.ofString "__getitem__") hl.typeIs slot_list_getitem
    (wpAny_call_entry slot_list_getitem hl.typeIs entry_list_getitem ?_ (args_list_getitem _ _)))
  unfold Builtin.«list.__getitem__»
  simp only [selfAndOne, noKeywords, List.isEmpty_nil, if_true, pure_bind, bind_assoc]
  refine wpAny_bind (subscript_true ?_)
  show wpAny _ _ ((seqItemAt l 1 >>= fun r => pure (r.map (1, ·))) >>= _) _ _ s
  refine wpAny_bind (wpAny_bind (wpAny_seqItemAt ho hd (wpAny_pure ?_)))
  rw [hx]
  first
    | exact wpAny_bind (wpAny_pure (wpAny_pure ⟨x, rfl, wpAny_pure h⟩))
    | exact wpAny_pure ⟨x, rfl, wpAny_pure h⟩
theorem getItem_true_out {l : Addr} {items : Array Value} {Q : Value → Shared → Prop} (hA : A.handled = none) (hl : s.heap.IsList l items) (hout : items.size ≤ 1)
    (hE : ∀ h' tk e, Heap.NewExc s.heap h' e "IndexError" → E (.ref e) { s with heap := h', toks := tk }) :
    wpAny (model PG w) A (getItem (.ref l) (.bool true)) Q E s := by
  obtain ⟨o, ho, hc, ne, hd⟩ := id hl
  unfold getItem
  refine wpAny_holding ?_
  refine wpAny_bind (wpAny_sequenceKey hl.typeIs (by decide) ?_)
  refine wpAny_bind (wpAny_callSpecial?_slot (name := Str.ofString "__getitem__") hl.typeIs slot_list_getitem
    (wpAny_call_entry slot_list_getitem hl.typeIs entry_list_getitem ?_ (args_list_getitem _ _)))
  unfold Builtin.«list.__getitem__»
  simp only [selfAndOne, noKeywords, List.isEmpty_nil, if_true, pure_bind, bind_assoc]
  refine wpAny_bind (subscript_true ?_)
  have hx : items[1]? = none := Array.getElem?_eq_none (by omega)
  show wpAny _ _ ((seqItemAt l 1 >>= fun r => pure (r.map (1, ·))) >>= _) _ _ s
  refine wpAny_bind (wpAny_bind (wpAny_seqItemAt ho hd (wpAny_pure ?_)))
  rw [hx]
  first
    | exact wpAny_bind (wpAny_rule (by exact_raiseError plainExc_IndexError hA hE))
    | exact wpAny_bind (wpAny_rule (wpAny_bind (by exact_raiseError plainExc_IndexError hA hE)))
    | exact wpAny_bind (wpAny_bind (wpAny_rule (by exact_raiseError plainExc_IndexError hA hE)))
    | exact wpAny_rule (by exact_raiseError plainExc_IndexError hA hE)
end
end Mine

namespace Mine
abbrev CompTo (w : World) (A : Around) (env : Env) (scope : Scope) (cl : List (Str × Addr)) (x y : Str) (ifs : List Expr) (elt : Expr) (p : Value → Bool) (FF : Value → Value → Prop) (Q : Flow → Shared → Prop) (it : Value) (s₂ : Shared) : Prop :=
  ∃ I fp wr n P St m, it = .ref I ∧ Walks PG w A I fp wr n P St ∧ n ≤ sizeLine ∧ St 0 s₂.heap ∧ (∀ b ∈ fp, b < s₂.heap.objs.size) ∧
    env.locals ∉ wr ∧ s₂.heap.Ns env.locals m ∧ QuietOnC PG w A env scope cl x ifs elt wr P p FF s₂ ∧
    (∀ D h' tk ys (vs : List Value), s₂.heap.get? D = none → h'.IsList D ys → h'.PlainList D ys → vs.length = n → (∀ j v, vs[j]? = some v → P j v) → Paired FF (vs.filter p) ys.toList →
      h'.Ns env.locals (fun z => if z = y then some (.ref D) else m z) → (∀ b o, b ≠ env.locals → b ∉ wr → s₂.heap.get? b = some o → h'.get? b = some o) → Q .next { s₂ with heap := h', toks := tk })
section
variable {w : World} {A : Around} {E : Value → Shared → Prop} {s : Shared} {h₀ : Heap} {L : Addr} {m : Str → Option Value} {news : List (Addr × Obj)} {env : Env} {scope : Scope} {cl : List (Str × Addr)} {x y : Str} {ifs : List Expr} {elt : Expr} {p : Value → Bool} {FF : Value → Value → Prop} {Q : Flow → Shared → Prop}
theorem srcA_any {oI : Obj} {n : Nat} {P : Nat → Value → Prop} {St : Nat → Heap → Prop} {fp : List Addr} (hL : env.locals = L) (F : Fr h₀ L s.heap m) (N : News h₀ L s.heap news)
    (W : Walks PG w A s.heap.objs.size fp [s.heap.objs.size] n P St) (hn : n ≤ sizeLine) (hst : St 0 (s.heap.push oI)) (hfp : ∀ b ∈ fp, b < (s.heap.push oI).objs.size)
    (tests : ∀ C oC i v s₃ m₃ E', P i v → LCg.NsObj oC m₃ → m₃ x = some v → Fr h₀ L s₃.heap m → News h₀ L s₃.heap ((C, oC) :: news) → (∀ b o, s.heap.get? b = some o → s₃.heap.get? b = some o) →
      wpAny (model PG w) A (forIn ifs true fun c r => if r = true then do let ok ← isTrue c (compEnvC scope cl C env) (eval c (compEnvC scope cl C env)); pure (ForInStep.yield ok) else pure (ForInStep.yield r))
        (fun ok s₄ => ok = p v ∧ Keeps s₃ s₄) E' s₃)
    (elts : ∀ C oC i v s₃ m₃ E', P i v → p v = true → LCg.NsObj oC m₃ → m₃ x = some v → Fr h₀ L s₃.heap m → News h₀ L s₃.heap ((C, oC) :: news) → (∀ b o, s.heap.get? b = some o → s₃.heap.get? b = some o) →
      wpAny (model PG w) A (eval elt (compEnvC scope cl C env)) (fun y s₄ => FF v y ∧ Keeps s₃ s₄) E' s₃)
    (fin : ∀ D h' tk ys (vs : List Value), h₀.get? D = none → h'.PlainList D ys → vs.length = n → (∀ j v, vs[j]? = some v → P j v) → Paired FF (vs.filter p) ys.toList →
      Fr h₀ L h' (fun z => if z = y then some (.ref D) else m z) → News h₀ L h' news → Q .next { s with heap := h', toks := tk }) :
    CompTo w A env scope cl x y ifs elt p FF Q (.ref s.heap.objs.size) { s with heap := s.heap.push oI } := by
  have up : ∀ b o, s.heap.get? b = some o → (s.heap.push oI).get? b = some o := fun b o e => Heap.get?_push_of_some _ e
  have hlt : ∀ b o, s.heap.get? b = some o → b ∉ [s.heap.objs.size] := fun b o e hm => by
    rw [List.mem_singleton.mp hm] at e; exact Nat.lt_irrefl _ (Heap.lt_size e)
  have F₂ : Fr h₀ L (s.heap.push oI) m := F.keeps up
  have N₂ : News h₀ L (s.heap.push oI) news := N.grown up
  have hI₀ := fresh_size F
  have hIL : L ≠ s.heap.objs.size := Nat.ne_of_lt F.ns.lt
  have off : ∀ p ∈ news, p.1 ≠ s.heap.objs.size := fun p hp => Nat.ne_of_lt (Heap.lt_size (N p hp).1)
  refine ⟨_, fp, _, n, P, St, m, rfl, W, hn, hst, hfp, ?_, ?_, ⟨?_, ?_⟩, ?_⟩
  · rw [hL]; simpa using hIL
  · rw [hL]; exact F₂.ns
  · intro C i v s₃ m₃ E' hC hP hns hx hk _
    obtain ⟨oC, hoC, F₃, N₃⟩ := turnFr F₂ N₂ hk hI₀ hIL off hC hns
    exact tests C oC i v s₃ m₃ E' hP hoC hx F₃ N₃ fun b o e => hk b o (hlt b o e) (up b o e)
  · intro C i v s₃ m₃ E' hC hP hp hns hx hk _
    obtain ⟨oC, hoC, F₃, N₃⟩ := turnFr F₂ N₂ hk hI₀ hIL off hC hns
    exact elts C oC i v s₃ m₃ E' hP hp hoC hx F₃ N₃ fun b o e => hk b o (hlt b o e) (up b o e)
  · intro D h' tk ys vs hD _ hpl hlen hP hF hns hk
    rw [hL] at hns hk
    have kp : ∀ b o, b ≠ L → s.heap.get? b = some o → h'.get? b = some o := fun b o hb e => hk b o hb (hlt b o e) (up b o e)
    have hL₀ : h₀.get? L = none := Heap.get?_none_of_le F.above
    exact fin D h' tk ys vs (get_none_of_keep F.keep (get_none_of_keep up hD)) hpl hlen hP hF ⟨hns, fun b o e => kp b o (fun q => by rw [q, hL₀] at e; cases e) (F.keep b o e), F.above⟩
      fun p hp => ⟨kp _ _ (N p hp).2.1 (N p hp).1, (N p hp).2⟩
theorem srcA_range {r : Addr} {b : Int} {t u v : Tok} {n : Nat} (hL : env.locals = L) (hh : A.handled = none) (F : Fr h₀ L s.heap m) (N : News h₀ L s.heap news) (hr : IsRange s.heap r 0 b 1 t u v) (hb : b = (n : Int)) (hn : n ≤ 1000)
    (tests : ∀ C oC (i : Nat) t s₃ m₃ E', i < n → LCg.NsObj oC m₃ → m₃ x = some (.int i t) → Fr h₀ L s₃.heap m → News h₀ L s₃.heap ((C, oC) :: news) → (∀ b o, s.heap.get? b = some o → s₃.heap.get? b = some o) →
      wpAny (model PG w) A (forIn ifs true fun c r => if r = true then do let ok ← isTrue c (compEnvC scope cl C env) (eval c (compEnvC scope cl C env)); pure (ForInStep.yield ok) else pure (ForInStep.yield r))
        (fun ok s₄ => ok = p (.int i t) ∧ Keeps s₃ s₄) E' s₃)
    (elts : ∀ C oC (i : Nat) t s₃ m₃ E', i < n → p (.int i t) = true → LCg.NsObj oC m₃ → m₃ x = some (.int i t) → Fr h₀ L s₃.heap m → News h₀ L s₃.heap ((C, oC) :: news) → (∀ b o, s.heap.get? b = some o → s₃.heap.get? b = some o) →
      wpAny (model PG w) A (eval elt (compEnvC scope cl C env)) (fun y s₄ => FF (.int i t) y ∧ Keeps s₃ s₄) E' s₃)
    (fin : ∀ D h' tk ys (vs : List Value), h₀.get? D = none → h'.PlainList D ys → vs.length = n → (∀ (j : Nat) v, vs[j]? = some v → ∃ t, v = .int j t) → Paired FF (vs.filter p) ys.toList →
      Fr h₀ L h' (fun z => if z = y then some (.ref D) else m z) → News h₀ L h' news → Q .next { s with heap := h', toks := tk }) :
    wpAny (model PG w) A (pyIter (.ref r)) (CompTo w A env scope cl x y ifs elt p FF Q) E s := by
  subst hb
  have hsz : Builtin.Range.rangeSize 0 (n : Int) 1 = (n : Int) := by rw [rangeSize_nat]; simp
  refine wpAny_pyIter_range hr (small_one (by decide) (by decide) (by omega) (by omega)) ?_
  rw [hsz]
  refine srcA_any hL F N (Walks.range hh s.heap.objs.size 0 1 n).bound (Nat.le_trans hn (by rw [sizeLine_eq]; decide)) ?_ ?_ ?_ ?_ ?_
  · show IsRangeIter _ _ _ _ _
    simpa using Heap.get?_push_size s.heap (o := { cls := .type "range_iterator", data := .fields #[rawInt 0, rawInt (n : Int), rawInt 1] }) rfl
  · intro b hb
    rw [List.mem_singleton.mp hb, Heap.size_push]; exact Nat.lt_succ_self _
  · rintro C oC i v s₃ m₃ E' ⟨hi, t, rfl⟩ hoC hx F₃ N₃ hk
    have e : (0 : Int) + i * 1 = i := by omega
    rw [e] at hx ⊢
    exact tests C oC i t s₃ m₃ E' hi hoC hx F₃ N₃ hk
  · rintro C oC i v s₃ m₃ E' ⟨hi, t, rfl⟩ hp hoC hx F₃ N₃ hk
    have e : (0 : Int) + i * 1 = i := by omega
    rw [e] at hx hp ⊢
    exact elts C oC i t s₃ m₃ E' hi hp hoC hx F₃ N₃ hk
  · intro D h' tk ys vs hD hpl hlen hP
    refine fin D h' tk ys vs hD hpl hlen fun j v hj => ?_
    obtain ⟨_, t, rfl⟩ := hP j v hj
    exact ⟨t, by simp⟩
theorem srcA_dict {r : Addr} {kvs : List (Str × Value)} (hL : env.locals = L) (hh : A.handled = none) (F : Fr h₀ L s.heap m) (N : News h₀ L s.heap news) (hr : s.heap.DictOf (strKind PG w) r kvs) (hs : (r == sysModules) = false) (hn : kvs.length ≤ 1000)
    (tests : ∀ C oC (i : Nat) kx kv t s₃ m₃ E', kvs[i]? = some (kx, kv) → LCg.NsObj oC m₃ → m₃ x = some (.str kx t) → Fr h₀ L s₃.heap m → News h₀ L s₃.heap ((C, oC) :: news) → (∀ b o, s.heap.get? b = some o → s₃.heap.get? b = some o) →
      wpAny (model PG w) A (forIn ifs true fun c r => if r = true then do let ok ← isTrue c (compEnvC scope cl C env) (eval c (compEnvC scope cl C env)); pure (ForInStep.yield ok) else pure (ForInStep.yield r))
        (fun ok s₄ => ok = p (.str kx t) ∧ Keeps s₃ s₄) E' s₃)
    (elts : ∀ C oC (i : Nat) kx kv t s₃ m₃ E', kvs[i]? = some (kx, kv) → p (.str kx t) = true → LCg.NsObj oC m₃ → m₃ x = some (.str kx t) → Fr h₀ L s₃.heap m → News h₀ L s₃.heap ((C, oC) :: news) → (∀ b o, s.heap.get? b = some o → s₃.heap.get? b = some o) →
      wpAny (model PG w) A (eval elt (compEnvC scope cl C env)) (fun y s₄ => FF (.str kx t) y ∧ Keeps s₃ s₄) E' s₃)
    (fin : ∀ D h' tk ys (vs : List Value), h₀.get? D = none → h'.PlainList D ys → vs.length = kvs.length → (∀ (j : Nat) v, vs[j]? = some v → ∃ kx kv t, kvs[j]? = some (kx, kv) ∧ v = .str kx t) → Paired FF (vs.filter p) ys.toList →
      Fr h₀ L h' (fun z => if z = y then some (.ref D) else m z) → News h₀ L h' news → Q .next { s with heap := h', toks := tk }) :
    wpAny (model PG w) A (pyIter (.ref r)) (CompTo w A env scope cl x y ifs elt p FF Q) E s := by
  obtain ⟨o, es, ep, ho, hx, hd, hk, hp, hnd⟩ := hr
  have hD : s.heap.DictAt (strKind PG w) r kvs ep := ⟨o, es, ho, hx, hd, hk, hp, hnd⟩
  have hlt : r < s.heap.objs.size := Heap.lt_size ho
  refine wpAny_pyIter_dict hs hD ?_
  refine srcA_any hL F N (Walks.dictKeys (knd := strKind PG w) hh s.heap.objs.size r (Nat.ne_of_lt hlt) kvs ep) (Nat.le_trans hn (by rw [sizeLine_eq]; decide)) ⟨⟨_, Heap.get?_push_size _ rfl, rfl, rfl⟩, ⟨o, es, Heap.get?_push_of_some _ ho, hx, hd, hk, hp, hnd⟩⟩ ?_ ?_ ?_ ?_
  · intro b hb
    rw [Heap.size_push]
    rcases List.mem_cons.mp hb with rfl | hb
    · exact Nat.lt_succ_self _
    · rw [List.mem_singleton.mp hb]; exact Nat.lt_succ_of_lt hlt
  · rintro C oC i v s₃ m₃ E' ⟨kx, kv, hkv, hv⟩ hoC hx F₃ N₃ hk
    obtain ⟨t, rfl⟩ := Value.isStrOf_shape hv
    exact tests C oC i kx kv t s₃ m₃ E' hkv hoC hx F₃ N₃ hk
  · rintro C oC i v s₃ m₃ E' ⟨kx, kv, hkv, hv⟩ hp hoC hx F₃ N₃ hk
    obtain ⟨t, rfl⟩ := Value.isStrOf_shape hv
    exact elts C oC i kx kv t s₃ m₃ E' hkv hp hoC hx F₃ N₃ hk
  · intro D h' tk ys vs hD hpl hlen hP
    refine fin D h' tk ys vs hD hpl hlen fun j v hj => ?_
    obtain ⟨kx, kv, hkv, hv⟩ := hP j v hj
    obtain ⟨t, rfl⟩ := Value.isStrOf_shape hv
    exact ⟨kx, kv, t, hkv, rfl⟩
end
end Mine

namespace Mine
abbrev framesOf (l : List Env) : List Addr := l.filterMap (·.frame)
def Flew (l : List Env) (h : Heap) (X : String) (e : Value) (h' : Heap) : Prop :=
  ∃ x a0 B, e = .ref x ∧ (∀ b o, h.get? b = some o → b ∉ framesOf l → B.get? b = some o) ∧ Heap.FlyingW B l x (.type X) a0 h' ∧ h.UpToSlots h'
theorem Flew.ref {l : List Env} {h : Heap} {X : String} {e : Value} {h' : Heap} (x : Flew l h X e h') : ∃ a, e = .ref a := let ⟨a, _, _, e, _⟩ := x; ⟨a, e⟩
theorem Flew.sub {l : List Env} {g h : Heap} {X : String} {e : Value} {h' : Heap} (x : Flew l h X e h') (k : ∀ b o, g.get? b = some o → h.get? b = some o) : Flew l g X e h' := by
  obtain ⟨a, a0, B, e1, hB, hfl, hu⟩ := x
  exact ⟨a, a0, B, e1, fun b o q n => hB b o (k b o q) n, hfl, fun b o q => hu b o (k b o q)⟩
theorem frames_cons {env : Env} {l : List Env} {L b : Addr} (hf : env.frame = some L) : b ∈ framesOf (env :: l) ↔ b = L ∨ b ∈ framesOf l := by
  simp only [framesOf, List.filterMap_cons, hf, List.mem_cons]
theorem hide_get {h : Heap} {L b : Addr} {o : Obj} (e : h.get? b = some o) (n : b ≠ L) : (hideAll h [L]).get? b = some o := hideAll_get [L] e (by simpa using n)
section
variable {M : Model} {A : Around} {E : Value → Shared → Prop} {s' : Shared} {base g h : Heap} {l : List Env} {L e : Addr} {m : Str → Option Value} {env : Env} {Q : Unit → Shared → Prop} {X : String}
theorem funFrames_to {h h' base : Heap} {as : List Addr} {l : List Env} (hl : h.FunFrames base l) (hk : ∀ b o, h.get? b = some o → h'.get? b = some o) (hin : ∀ env ∈ l, ∀ a, env.frame = some a → a ∈ as) : h'.FunFrames (hideAll h as) l :=
  (funFrames_hide hl hin).of_keeps fun b o ho _ => ⟨o, hk b o ho, rfl⟩
theorem leave_new (B : Below A base l g) (F : Fr g L h m) (hx : Heap.NewExc h s'.heap e X) (hf : env.frame = some L) (hke : env.scope.kind = .function)
    (hQ : ∀ h', Flew l g X (.ref e) h' → Q () { s' with heap := h' }) : wpAny M (A.deeper env) (leaving env (.ref e)) Q E s' := by
  obtain ⟨ob, tp, he, hcls, hd⟩ := hx.there
  have kp : ∀ b o, g.get? b = some o → s'.heap.get? b = some o := fun b o q => hx.keeps b o (F.keep b o q)
  have hgL : g.get? L = none := Heap.get?_none_of_le F.above
  have hbn : ∀ b, g.get? b = none → (hideAll g (framesOf l)).get? b = none := fun b q => by
    cases q' : (hideAll g (framesOf l)).get? b with
    | none => rfl
    | some o => rw [of_hideAll _ q'] at q; cases q
  have hfl : s'.heap.FunFrames (hideAll g (framesOf l)) l := funFrames_to B.frames kp fun env' he' a ha => List.mem_filterMap.mpr ⟨env', he', ha⟩
  obtain ⟨oL, es, ep, hL, hLd, _⟩ := F.ns
  have hen : g.get? e = none := get_none_of_keep F.keep hx.new
  refine wpAny_leaving_firstW (a0 := tp) (Around.frames_deeper B.stack) ⟨by rw [hke]; decide, ⟨L, oL, hf, hbn L hgL, hx.keeps _ _ hL, fun vs q => by rw [hLd] at q; cases q⟩, hfl⟩ hf he
    (fun b o q => kp b o (of_hideAll _ q)) (hbn e hen) hd rfl rfl fun h' hl' => ?_
  obtain ⟨k1, ⟨_, _, k2⟩, k3, k4⟩ := hl'
  rw [hcls] at k3
  exact hQ h' ⟨e, tp, _, rfl, fun b o q n => hideAll_get _ q n, ⟨k1, hbn e hen, k2, k3⟩, ((Heap.UpToSlots.of_keeps F.keep).trans (Heap.UpToSlots.of_keeps hx.keeps)).trans k4⟩
theorem leave_on {ev : Value} (hA : A.frames = some (env :: l)) (hf : env.frame = some L) (x : Flew (env :: l) h X ev s'.heap) (hQ : ∀ h', Flew l (hideAll h [L]) X ev h' → Q () { s' with heap := h' }) :
    wpAny M A (leaving env ev) Q E s' := by
  obtain ⟨a, a0, B, rfl, hB, hfl, hu⟩ := x
  refine wpAny_leaves_onW hA hf hfl fun h' x1 x2 => hQ h' ⟨a, a0, B, rfl, fun b o q n => ?_, x1, fun b o q => (hu.trans x2) b o (of_hideAll _ q)⟩
  have hbL : b ≠ L := fun z => by rw [z, hideAll_none [L] (List.mem_singleton.mpr rfl)] at q; cases q
  exact hB b o (of_hideAll _ q) fun hm => ((frames_cons hf).mp hm).elim hbL n
end
end Mine

namespace Mine
def Held (l : List Env) (h : Heap) (X : String) (L : Addr) (e : Value) (h' : Heap) : Prop :=
  ∃ x a0 B, e = .ref x ∧ (∀ b o, h.get? b = some o → b ∉ framesOf l → B.get? b = some o) ∧ Heap.HeldW B l x (.type X) a0 L h' ∧ h.UpToSlots h'
section
variable {M : Model} {A : Around} {E : Value → Shared → Prop} {s' : Shared} {h : Heap} {l : List Env} {L : Addr} {env : Env} {X : String} {ev : Value}
theorem setFlight_held {base : Heap} {e : Addr} {cls a0 : Value} {Q : Unit → Shared → Prop} (R : Heap.HeldW base l e cls a0 L s'.heap)
    (k : ∀ h', Heap.HeldW base l e cls a0 L h' → s'.heap.UpToSlots h' → Q () { s' with heap := h' }) : wpAny M A (setFlight (.ref e) (some L)) Q E s' := by
  obtain ⟨hkb, hen, hl, oe, vs, T, oT, ts, he, hcls, hd, h1, hnT, hTe, hT, hdT, h3⟩ := R
  have hsz3 : 3 < ts.size := (Array.getElem?_eq_some_iff.mp h3).1
  have other : ∀ b, b ≠ T → (s'.heap.update T (Obj.mapFields (·.setIfInBounds 3 (rawInt L)))).get? b = s'.heap.get? b := fun b hb => Heap.get?_update_other _ _ (Ne.symm hb)
  have noRecord : ∀ b o, s'.heap.get? b = some o → (∀ vs, o.data ≠ .fields vs) → b ≠ T := fun b o hb hnf q => by
    rw [q, hT] at hb; injection hb with hb; subst hb; exact hnf ts hdT
  unfold setFlight
  refine wpAny_bind (wpAny_field he hd h1 ?_)
  rw [if_pos (show (Value.ref T != Value.none) = true from by simp)]
  refine wpAny_setField hT hdT hsz3 (k _ ⟨fun b o hbo => (other b fun q => by rw [q, hnT] at hbo; cases hbo).trans (hkb b o hbo), hen,
    hl.of_keeps fun b o hb hnf => ⟨o, (other b (noRecord b o hb hnf)).trans hb, rfl⟩, ?_⟩ fun b o hb hnf => ⟨o.slots, (other b (noRecord b o hb hnf)).trans hb⟩)
  exact ⟨oe, vs, T, _, _, (other e (Ne.symm hTe)).trans he, hcls, hd, h1, hnT, hTe, Heap.get?_update_self _ hT (Obj.isFreed_of_fields (Obj.data_mapFields hdT _)), Obj.data_mapFields hdT _, by simp [hsz3]⟩
theorem loop_raise (hA : A.frames = some (env :: l)) (hf : env.frame = some L) (x : Flew (env :: l) h X ev s'.heap) (k : ∀ h', Held (env :: l) h X L ev h' → E ev { s' with heap := h' }) :
    notedBy M A env (cameBackBy M A env E) ev s' := by
  obtain ⟨a, a0, B, rfl, hB, hfl, hu⟩ := x
  refine wpAny_looks_onW hA hf hfl fun h₁ x1 x2 => ?_
  unfold cameBackBy
  obtain ⟨hkb, hen, hl, oe, vs, T, oT, ts, he, hcls, hd, h1, hr⟩ := id x1
  refine wpAny_bind (wpAny_field he hd h1 ?_)
  rw [if_neg (show ¬ ((Value.ref T == Value.none) = true) from by simp)]
  rw [hf]
  exact setFlight_held (s' := { s' with heap := h₁ }) x1 fun h₂ y1 y2 => k h₂ ⟨a, a0, B, rfl, hB, y1, (hu.trans x2).trans y2⟩
theorem leave_held {Q : Unit → Shared → Prop} (hf : env.frame = some L) (x : Held (env :: l) h X L ev s'.heap) (hQ : ∀ h', Flew l (hideAll h [L]) X ev h' → Q () { s' with heap := h' }) :
    wpAny M A (leaving env ev) Q E s' := by
  obtain ⟨a, a0, B, rfl, hB, hh, hu⟩ := x
  unfold leaving
  refine wpAny_bind (wpAny_noteFrame_againW hf hh.2.2.2 ?_)
  refine wpAny_landsW hh fun h' hfl y2 => ?_
  obtain ⟨k1, k2, ⟨_, _, k3⟩, k4⟩ := hfl
  refine hQ h' ⟨a, a0, B, rfl, fun b o q n => ?_, ⟨k1, k2, k3, k4⟩, fun b o q => (hu.trans y2) b o (of_hideAll _ q)⟩
  have hbL : b ≠ L := fun z => by rw [z, hideAll_none [L] (List.mem_singleton.mpr rfl)] at q; cases q
  exact hB b o (of_hideAll _ q) fun hm => ((frames_cons hf).mp hm).elim hbL n
end
section
variable {w : World} {A : Around} {s : Shared} {h₀ : Heap} {L I l : Addr} {env : Env} {x : Str} {px : Pos} {body : List Stmt} {items : Array Value} {R : Result → Shared → Prop}
def TurnEnd (h₀ : Heap) (L I : Addr) (oI : Obj) (J : (Str → Option Value) → List (Addr × Obj) → Prop) (s s₃ : Shared) : Prop :=
  ∃ h' tk m' news', s₃ = { s with heap := h', toks := tk } ∧ Fr h₀ L h' m' ∧ News h₀ L h' ((I, oI) :: news') ∧ (∀ p ∈ news', p.1 ≠ I) ∧ J m' news'
theorem loop_list (J : Nat → (Str → Option Value) → List (Addr × Obj) → Prop) (hL : env.locals = L) (hx : env.kindOf x = some .local) (hk : env.scope.kind = .function) (hh : A.handled = none) (hl : h₀.IsList l items)
    {i₀ : Nat} (hi₀ : i₀ ≤ items.size) {m₀ : Str → Option Value} {news₀ : List (Addr × Obj)} (hit : s.heap.IsListIter I l i₀) (hI : h₀.get? I = none) (hIL : I ≠ L) (off : ∀ p ∈ news₀, p.1 ≠ I)
    (F : Fr h₀ L s.heap m₀) (N : News h₀ L s.heap news₀) (hJ : J i₀ m₀ news₀)
    (turn : ∀ i v m₁ news₁ h tk oI, items[i]? = some v → J i m₁ news₁ → Fr h₀ L h (fun y => if y = x then some v else m₁ y) → News h₀ L h ((I, oI) :: news₁) → (∀ p ∈ news₁, p.1 ≠ I) →
      wpAny (model PG w) A (execs body env) (fun f s₃ => match f with
        | .next | .cont => TurnEnd h₀ L I oI (J (i + 1)) s s₃
        | .brk => R (.ok .next) s₃
        | .ret v => R (.ok (.ret v)) s₃) (notedBy (model PG w) A env fun e s' => R (.error e) s') { s with heap := h, toks := tk })
    (done : ∀ m₁ news₁ h tk, J items.size m₁ news₁ → Fr h₀ L h m₁ → News h₀ L h news₁ → R (.ok .next) { s with heap := h, toks := tk }) :
    codeAny (model PG w) A (.forLoop (.Name x px) (.ref I) body [] env) R s := by
  have hne : l ≠ I := fun q => by obtain ⟨o, e, _⟩ := hl; rw [q, hI] at e; cases e
  have W := Walks.list (prog := PG) (w := w) (A := A) hh I l hne items
  have lst : ∀ {h : Heap} {m : Str → Option Value}, Fr h₀ L h m → h.IsList l items := fun F => by obtain ⟨o, e, r⟩ := hl; exact ⟨o, F.keep _ _ e, r⟩
  refine codeAny_forLoop (fun k s' => ∃ h tk i m₁ news₁, s' = { s with heap := h, toks := tk } ∧ i ≤ items.size ∧ k = items.size + 1 - i ∧ h.IsListIter I l i ∧ Fr h₀ L h m₁ ∧ News h₀ L h news₁ ∧ (∀ p ∈ news₁, p.1 ≠ I) ∧ J i m₁ news₁) ?_ _
    ⟨s.heap, s.toks, i₀, m₀, news₀, rfl, hi₀, rfl, hit, F, N, off, hJ⟩
  rintro k s' ⟨h, tk, i, m₁, news₁, rfl, hi, rfl, hit', F₁, N₁, off₁, hJ₁⟩
  by_cases hlt : i < items.size
  · refine W.item i _ _ _ hlt ⟨hit', lst F₁⟩ fun v h₂ tk₂ hv st₂ hk₂ => ?_
    have F₂ : Fr h₀ L h₂ m₁ := LCg.fr_but F₁ hk₂ (Ne.symm hIL) hI
    have N₂ : News h₀ L h₂ news₁ := LCg.news_but N₁ hk₂ off₁
    dsimp only
    refine wpAny_assign_Name (wpAny_storeName_local (m := m₁) hx (by rw [hL]; exact F₂.ns) (fun h₃ hn₃ hs₃ => ?_) (by rw [hk]; rfl))
    rw [hL] at hn₃ hs₃
    obtain ⟨oI, heI, hrI⟩ := st₂.1
    have hI₃ : h₃.get? I = some oI := (hs₃.2 I hIL).trans heI
    refine wpAny_mono (turn i v m₁ news₁ h₃ _ oI hv hJ₁ (F₂.set hn₃ hs₃) (fun p hp => ?_) off₁) (fun f s₃ hf => ?_) fun _ _ e => e
    · rcases List.mem_cons.mp hp with rfl | hp
      · exact ⟨hI₃, hIL, hI⟩
      · exact (N₂.set hs₃) p hp
    · have fin : TurnEnd h₀ L I oI (J (i + 1)) s s₃ → ∃ k', k' < items.size + 1 - i ∧ ∃ h tk i m₁ news₁, s₃ = { s with heap := h, toks := tk } ∧ i ≤ items.size ∧ k' = items.size + 1 - i ∧ h.IsListIter I l i ∧ Fr h₀ L h m₁ ∧ News h₀ L h news₁ ∧ (∀ p ∈ news₁, p.1 ≠ I) ∧ J i m₁ news₁ := by
        rintro ⟨h', tk', m', news', rfl, F', N', off', hJ'⟩
        exact ⟨items.size + 1 - (i + 1), by omega, h', tk', i + 1, m', news', rfl, hlt, rfl, ⟨oI, (N' _ (.head _)).1, hrI⟩, F', fun p hp => N' p (.tail _ hp), off', hJ'⟩
      cases f with
      | next => exact fin hf
      | cont => exact fin hf
      | brk => exact hf
      | ret v => exact hf
  · obtain rfl : i = items.size := Nat.le_antisymm hi (Nat.not_lt.mp hlt)
    refine W.done _ _ _ ⟨hit', lst F₁⟩ fun h₂ tk₂ hk₂ => ?_
    dsimp only
    exact wpAny_execs_nil (done m₁ news₁ h₂ tk₂ hJ₁ (LCg.fr_but F₁ hk₂ (Ne.symm hIL) hI) (LCg.news_but N₁ hk₂ off₁))
end
end Mine

namespace Mine
abbrev adrs (news : List (Addr × Obj)) : List Addr := news.map (·.1)
abbrev under (h : Heap) (news : List (Addr × Obj)) : Heap := hideAll h (adrs news)
section
variable {w : World} {A₀ A : Around} {s : Shared} {base h₀ h : Heap} {outer : List Env} {L L' : Addr} {m m' : Str → Option Value} {env : Env} {news news' : List (Addr × Obj)}
theorem adrs_none (N : News h₀ L h news) {b : Addr} {o : Obj} (e : h₀.get? b = some o) : b ∉ adrs news := fun q => by
  obtain ⟨p, hp, rfl⟩ := List.mem_map.mp q
  rw [(N p hp).2.2] at e; cases e
theorem adrs_L (N : News h₀ L h news) : L ∉ adrs news := fun q => by
  obtain ⟨p, hp, e⟩ := List.mem_map.mp q
  exact (N p hp).2.1 e
theorem backL (F : Fr h₀ L h m) (N : News h₀ L h news) {hx : Heap} (k : ∀ b o, (under h news).get? b = some o → hx.get? b = some o) (N' : News (under h news) L' hx news') :
    Fr h₀ L hx m ∧ News h₀ L hx news' ∧ (∀ b o, h.get? b = some o → b ∉ adrs news → hx.get? b = some o) ∧ ∀ p ∈ news', p.1 ∈ adrs news ∨ h.get? p.1 = none := by
  obtain ⟨oL, es, ep, hL, hLr⟩ := F.ns
  have hLg := hideAll_get (adrs news) hL (adrs_L N)
  have st : ∀ b o, h₀.get? b = some o → (under h news).get? b = some o := fun b o e => hideAll_get _ (F.keep b o e) (adrs_none N e)
  refine ⟨⟨⟨oL, es, ep, k L oL hLg, hLr⟩, fun b o e => k b o (st b o e), F.above⟩, fun p hp => ⟨(N' p hp).1, fun q => ?_, ?_⟩, fun b o e n => k b o (hideAll_get _ e n), fun p hp => ?_⟩
  · have := (N' p hp).2.2; rw [q, hLg] at this; cases this
  · exact get_none_of_keep st (N' p hp).2.2
  · by_cases q : p.1 ∈ adrs news
    · exact .inl q
    · refine .inr ?_
      cases e : h.get? p.1 with
      | none => rfl
      | some o => have := (N' p hp).2.2; rw [hideAll_get _ e q] at this; cases this
variable {K : Frag} {p : Program} {loose : List Str} {mean : ExcName → Option Value} {mg mb : Str → Option Value} {R : Result → Shared → Prop} {name qual : Str} {params : Arguments} {body : List Stmt} {scope : Scope} {dV kV doc pm cdv ct oc : Value} {an od : Option Addr} {osl : Array (Option Value)} {f : Addr} {fo : Obj} {args : Args} {binds : List (Str × Value)} {cl : List (Str × Addr)}
theorem enterF (B : Below A₀ base outer h₀) (F : Fr h₀ L s.heap m) (N : News h₀ L s.heap news) (X₀ : K.In h₀) (T : Top p loose mean mg mb h₀) (hA : A.frames = some (env :: outer)) (hf : env.frame = some L) (hke : env.scope.kind = .function)
    (ho : s.heap.get? f = some fo) (hd : fo.data = .func (fnX name qual params body scope cl dV kV doc pm an cdv ct)) (hcd : s.heap.CodeRec cdv qual) (hroom : A.depth < recursionLimit)
    (hbind : BindsTo s (fnX name qual params body scope cl dV kV doc pm an cdv ct) args binds) (hloc : ∀ y ∈ binds, scope.names.lookup y.1 = some .local)
    (h : ∀ L' h₁, Fr (under s.heap news) L' h₁ (fun y => binds.reverse.lookup y) → News (under s.heap news) L' h₁ news → Below A base (env :: outer) (under s.heap news) → K.In (under s.heap news) → Top p loose mean mg mb (under s.heap news) →
      wpAny (model PG w) (A.deeper (envX qual scope L' f cdv cl)) (execs body (envX qual scope L' f cdv cl))
        (fun fl s' => R (.ok (.ret (match fl with | .ret v => v | _ => .none))) s')
        (fun e s' => wpAny (model PG w) (A.deeper (envX qual scope L' f cdv cl)) (leaving (envX qual scope L' f cdv cl) e) (fun _ s'' => R (.error e) s'') (fun e' s'' => R (.error e') s'') s')
        { s with heap := h₁, toks := s.toks + binds.length })
    (hco : scope.isCoroutine = false) (hgen : scope.isGenerator = false) (hk : scope.kind = .function)
    (hcell : ∀ x ∈ scope.names, x.2 ≠ .cell) : codeAny (model PG w) A (.call (.ref f) args) R s := by
  obtain ⟨FG, BG, st, _⟩ := groundX (R := R) B F N hA hf hke
  refine codeAny_call_def (fd := fnX name qual params body scope cl dV kV doc pm an cdv ct) (body := body) (binds := binds) hroom ho hd (T.nolimit.keeps F.keep) hcd rfl hbind hcell hloc (fun h₁ hns hk₁ => ?_) hco hgen hk
  exact h s.heap.objs.size h₁ ⟨hns, fun b o e => hk₁ b o (of_hideAll _ e), Nat.le_of_eq (hideAll_size _ _)⟩
    (fun p hp => ⟨hk₁ _ _ (N p hp).1, Nat.ne_of_lt (Heap.lt_size (N p hp).1), hideAll_none _ (List.mem_map_of_mem hp)⟩) BG (X₀.keeps st) (T.keeps st)
theorem enterL (B : Below A₀ base outer h₀) (F : Fr h₀ L s.heap m) (N : News h₀ L s.heap news) (X₀ : K.In h₀) (T : Top p loose mean mg mb h₀) (hA : A.frames = some (env :: outer)) (hf : env.frame = some L) (hke : env.scope.kind = .function)
    (ho : K.lookup f = some ⟨oc, od, .func (fnOf name qual params body scope dV kV doc pm an cdv ct), osl⟩) (hcd : codeIn K cdv qual = true) (hroom : A.depth < recursionLimit)
    (hbind : BindsTo s (fnOf name qual params body scope dV kV doc pm an cdv ct) args binds) (hloc : ∀ y ∈ binds, scope.names.lookup y.1 = some .local)
    (h : ∀ L' h₁, Fr (under s.heap news) L' h₁ (fun y => binds.reverse.lookup y) → News (under s.heap news) L' h₁ news → Below A base (env :: outer) (under s.heap news) → K.In (under s.heap news) → Top p loose mean mg mb (under s.heap news) →
      wpAny (model PG w) (A.deeper (envOf qual scope L' f cdv)) (execs body (envOf qual scope L' f cdv))
        (fun fl s' => R (.ok (.ret (match fl with | .ret v => v | _ => .none))) s')
        (fun e s' => wpAny (model PG w) (A.deeper (envOf qual scope L' f cdv)) (leaving (envOf qual scope L' f cdv) e) (fun _ s'' => R (.error e) s'') (fun e' s'' => R (.error e') s'') s')
        { s with heap := h₁, toks := s.toks + binds.length })
    (hco : scope.isCoroutine = false) (hgen : scope.isGenerator = false) (hk : scope.kind = .function)
    (hcell : ∀ x ∈ scope.names, x.2 ≠ .cell) : codeAny (model PG w) A (.call (.ref f) args) R s :=
  enterF (cl := []) B F N X₀ T hA hf hke ((X₀.keeps F.keep) _ _ ho) rfl (codeRec_of (X₀.keeps F.keep) hcd) hroom hbind hloc h hco hgen hk hcell
theorem enterLC (B : Below A₀ base outer h₀) (F : Fr h₀ L s.heap m) (N : News h₀ L s.heap news) (X₀ : K.In h₀) (T : Top p loose mean mg mb h₀) (hA : A.frames = some (env :: outer)) (hf : env.frame = some L) (hke : env.scope.kind = .function)
    (ho : K.lookup f = some ⟨oc, od, .func (fnOf name qual params body scope dV kV doc pm an cdv ct), osl⟩) (hcd : codeIn K cdv qual = true) (hroom : A.depth < recursionLimit)
    (hbind : BindsTo s (fnOf name qual params body scope dV kV doc pm an cdv ct) args binds) (hkind : (binds.all fun y => scope.names.lookup y.1 == some .local || scope.names.lookup y.1 == some .cell) = true)
    (hnd : ((cellsFrom 0 scope.names []).map (·.1)).Nodup)
    (h : ∀ L' h₁ tk cells, Fr (under s.heap news) L' h₁ (bindL (envOfC qual scope L' f cdv).kindOf binds fun _ => none) → News (under s.heap news) L' h₁ (cells ++ news) →
      CellsAre (bindC (envOfC qual scope L' f cdv).kindOf binds fun _ => none) (cellsFrom (L' + 1) scope.names []) cells → Below A base (env :: outer) (under s.heap news) → K.In (under s.heap news) → Top p loose mean mg mb (under s.heap news) → (∀ p ∈ news, p.1 < L') →
      wpAny (model PG w) (A.deeper (envOfC qual scope L' f cdv)) (execs body (envOfC qual scope L' f cdv))
        (fun fl s' => R (.ok (.ret (match fl with | .ret v => v | _ => .none))) s')
        (fun e s' => wpAny (model PG w) (A.deeper (envOfC qual scope L' f cdv)) (leaving (envOfC qual scope L' f cdv) e) (fun _ s'' => R (.error e) s'') (fun e' s'' => R (.error e') s'') s')
        { s with heap := h₁, toks := tk })
    (hco : scope.isCoroutine = false) (hgen : scope.isGenerator = false) (hk : scope.kind = .function) : codeAny (model PG w) A (.call (.ref f) args) R s := by
  obtain ⟨FG, BG, st, _⟩ := groundX (R := R) B F N hA hf hke
  refine codeAny_call_function hroom ((X₀.keeps F.keep) _ _ ho) rfl hco hgen rfl (codeRec_of (X₀.keeps F.keep) hcd) (hbind _ _ _ _ ?_)
  refine wpAny_newFunctionEnv_cells hk (kindsX hkind _) fun env' he s' x => ?_
  subst he
  refine ⟨(T.nolimit.keeps F.keep).keeps x.toInCall.keep, codeAny_func ?_⟩
  obtain ⟨h₁, tk, rfl, _⟩ := x.done
  have hk₁ := x.toInCall.keep
  obtain ⟨cells, NC, Y⟩ := Cl.news (h₀ := s.heap) (Nat.le_refl _) fun n c hm => ⟨x.cell n c (lookup_of_mem_nodup (cellsFrom_names scope.names 0 (s.heap.objs.size + 1) [] [] rfl ▸ hnd) hm), x.above n c hm⟩
  refine h s.heap.objs.size h₁ tk cells ⟨x.toInCall.ns, fun b o e => hk₁ b o (of_hideAll _ e), Nat.le_of_eq (hideAll_size _ _)⟩ (fun p hp => ?_) Y BG (X₀.keeps st) (T.keeps st) fun p hp => Heap.lt_size (N p hp).1
  rcases List.mem_append.mp hp with hp | hp
  · refine ⟨(NC p hp).1, (NC p hp).2.1, ?_⟩
    cases q : (under s.heap news).get? p.1 with
    | none => rfl
    | some o => have := of_hideAll _ q; rw [(NC p hp).2.2] at this; cases this
  · exact ⟨hk₁ _ _ (N p hp).1, Nat.ne_of_lt (Heap.lt_size (N p hp).1), hideAll_none _ (List.mem_map_of_mem hp)⟩
end
end Mine

namespace Mine
section
variable {prog : Program} {w : World} {A : Around} {E : Value → Shared → Prop} {s : Shared}
theorem iter_list {l : Addr} {items} {Q : Value → Shared → Prop} (hl : s.heap.IsList l items)
    (hQ : Q (.ref s.heap.objs.size) { s with heap := s.heap.push { cls := .type "list_iterator", data := .fields #[.ref l, .int 0 0] } }) :
    wpAny (model prog w) A (call (.builtin "iter") [.ref l]) Q E s := by
  refine call_function_entry (by decide +kernel) (by decide +kernel) kdk_entry_iter (kdk_args_iter _) ?_
  unfold Builtin.«iter»
  refine wpAny_bind (m := someArgs "iter" 1 2 _) (wpAny_of_eq (a := [Value.ref l]) (by first | rfl | kernel_rfl!) ?_)
  show wpAny _ _ (pyIter (.ref l) >>= _) _ _ _
  exact wpAny_bind (wpAny_pyIter_list hl (wpAny_pure ⟨_, rfl, hQ⟩))
theorem next_first {it l : Addr} {i : Nat} {items} {x : Value} {Q : Value → Shared → Prop} (hit : s.heap.IsListIter it l i)
    (hl : s.heap.IsList l items) (hx : items[i]? = some x)
    (hQ : ∀ h', h'.IsListIter it l (i + 1) → Heap.SameBut it s.heap h' → Q x { s with heap := h' }) :
    wpAny (model prog w) A (call (.builtin "next") [.ref it]) Q E s := by
  obtain ⟨o, ho, hc, hd⟩ := id hit
  obtain ⟨ol, hol, _, nl, hdl⟩ := hl
  refine call_function_entry (by decide +kernel) (by decide +kernel) kdk_entry_next (kdk_args_next _) ?_
  unfold Builtin.«next»
  refine wpAny_bind (m := someArgs "next" 1 2 _) (wpAny_of_eq (a := [Value.ref it]) (by first | rfl | kernel_rfl!) ?_)
  dsimp only
  refine wpAny_bind (wpAny_specialOf (name := Str.ofString "__next__") hit.typeIs slot_listiter_next.lookup ?_)
  refine wpAny_ite_split (fun hab => absurd hab (by decide)) (fun _ => ?_)
  refine wpAny_bind (wpAny_callSpecial?_slot (name := Str.ofString "__next__") hit.typeIs slot_listiter_next
    (wpAny_call_entry slot_listiter_next hit.typeIs entry_listiter_next ?_ (args_listiter_next _)))
  show wpAny _ _ (field (.ref it) 0 >>= _) _ _ s
  refine wpAny_bind (wpAny_field ho hd (x := .ref l) rfl ?_)
  show wpAny _ _ (if (Value.ref l == Value.none) = true then _ else _) _ _ s
  rw [if_neg (show ¬ ((Value.ref l == Value.none) = true) from Bool.false_ne_true)]
  show wpAny _ _ (field (.ref it) 1 >>= _) _ _ s
  refine wpAny_bind (wpAny_field ho hd (x := .int i 0) rfl ?_)
  show wpAny _ _ (seqItems? (.ref l) >>= _) _ _ s
  refine wpAny_bind (wpAny_seqItems hol hdl ?_)
  simp only [Int.toNat_natCast, hx]
  refine wpAny_bind (wpAny_setField ho hd (by simp) (wpAny_pure ⟨x, rfl, wpAny_pure ⟨_, rfl, hQ _ ?_ (Heap.SameBut.update ..)⟩⟩))
  exact ⟨_, Heap.get?_update_self _ ho (Obj.isFreed_of_fields (Obj.data_mapFields hd _)), (Obj.cls_mapFields ..).trans hc, by
    rw [Obj.data_mapFields hd]; simp [rawInt]⟩
end
theorem callWith_F {M : Model} {A : Around} {E : Value → Shared → Prop} {s : Shared} {env : Env} {pos : Pos} {first : List Value} {Q : Value → Shared → Prop} {a : Addr} (o : Obj) (fd : FuncData) {e : Expr} {rest : List Expr} (hd : o.data = .func fd)
    (h : wpAny M A (spliced (backTo pos (starEach (e :: rest) env))) (fun vs s₁ => s₁.heap.get? a = some o ∧ wpAny M A (call (.ref a) (first ++ vs)) Q E s₁) E s)
    (he : starEach (e :: rest) env = (false, eval e env) :: starEach rest env) :
    wpAny M A (callWith pos (.ref a) first (backTo pos (starEach (e :: rest) env)) []) Q E s := by
  rw [he] at h ⊢
  refine callWith_function_kw (o := o) (fd := fd) (evalArgs_plain (wpAny_mono h (fun vs s₁ h₁ => ⟨⟨h₁.1, hd⟩, h₁.2⟩) fun _ _ x => x))
end Mine

namespace Mine
def TabIs (pos : Pos) (qual : Str) (g : Heap) (ps : Array Value) : Prop :=
  ps = #[] ∨ ∃ c' oc vs t, ps = #[rawInt pos.line, rawInt pos.col, .ref c'] ∧ g.get? c' = some oc ∧ oc.data = .fields vs ∧ vs[1]? = some (.str qual t)
def TabOut (pos : Pos) (qual : Str) (P : Addr) (ps : Array Value) (cod : List (Addr × Obj)) (ps' : Array Value) : Prop :=
  (cod = [] ∧ ps' = ps) ∨ ∃ c' oc vs t, cod = [(c', oc)] ∧ c' ≠ P ∧ ps' = #[rawInt pos.line, rawInt pos.col, .ref c'] ∧ oc.data = .fields vs ∧ vs[1]? = some (.str qual t)
theorem TabIs.keep {pos : Pos} {qual : Str} {g g' : Heap} {ps : Array Value} (x : TabIs pos qual g ps) (k : ∀ b o, g.get? b = some o → g'.get? b = some o) : TabIs pos qual g' ps := by
  rcases x with h | ⟨c', oc, vs, t, h1, h2, h3⟩
  · exact .inl h
  · exact .inr ⟨c', oc, vs, t, h1, k _ _ h2, h3⟩
section
variable {M : Model} {A : Around} {E : Value → Shared → Prop} {s : Shared} {h₀ : Heap} {L a c P : Addr} {m mg mb : Str → Option Value} {cn : Str} {cs : Scope} {ccd : Value} {cl : List (Str × Addr)} {r : List (Addr × Obj)}
  {p : Program} {loose : List Str} {mean : ExcName → Option Value} {name qual : Str} {params : Arguments} {body : List Stmt} {scope : Scope} {ps : Array Value} {pos : Pos} {firstLine : Nat} {clos : List (Str × Addr)}
theorem nest_any {Q : Value → Shared → Prop} (F : Fr h₀ L s.heap m) (N : News h₀ L s.heap ((P, tabObj ps) :: r)) (off : ∀ p ∈ r, p.1 ≠ P) (T : Top p loose mean mg mb h₀) (C : CodeHd h₀ c P) (hcd : ccd = .ref c) (ht : TabIs pos qual h₀ ps)
    (hcl : closureFor scope (envX cn cs L a ccd cl) = pure clos)
    (h : ∀ f c' oc vs t ctv doc h' tk cod, Fr h₀ L h' m →
      News h₀ L h' ((f, fnMade name qual params body scope clos doc ((mg "__name__").getD .none) c' ctv) :: (P, tabObj #[rawInt pos.line, rawInt pos.col, .ref c']) :: (r ++ cod)) →
      h'.get? c' = some oc → oc.data = .fields vs → vs[1]? = some (.str qual t) → (cod = [] ∧ h₀.get? c' = some oc ∧ ps = #[rawInt pos.line, rawInt pos.col, .ref c'] ∨ cod = [(c', oc)]) → (∀ q ∈ (P, tabObj ps) :: r ++ cod, q.1 < f) → (∀ q ∈ cod, ∀ q' ∈ (P, tabObj ps) :: r, q.1 ≠ q'.1) → Q (.ref f) { s with heap := h', toks := tk }) :
    wpAny M A (makeFunction name qual params (.stmts body) scope (envX cn cs L a ccd cl) [] [] [] pos firstLine) Q E s := by
  rcases ht with rfl | ⟨c', oc, vs, t, rfl, h2, h3, h4⟩
  · refine nest_K F N T C hcd (.head off) trivial rfl hcl ?_
    intro f c' oc vs t ctv doc h' tk F' N' e1 e2 l1 l2
    refine h f c' oc vs t ctv doc h' tk [(c', oc)] F' (fun q hq => N' q ?_) (N' _ (.tail _ (.head _))).1 e1 e2 (.inr rfl) (fun q hq => ?_) (fun q hq q' hq' => ?_)
    · simp only [List.mem_cons, List.mem_append, List.not_mem_nil, or_false] at hq ⊢
      rcases hq with h | h | h | h
      · exact .inl h
      · exact .inr (.inr (.inl h))
      · exact .inr (.inr (.inr h))
      · exact .inr (.inl h)
    · simp only [List.cons_append, List.mem_cons, List.mem_append, List.not_mem_nil, or_false] at hq
      rcases hq with h | h | h
      · exact Nat.lt_trans (l1 q (by rw [h]; exact .head _)) l2
      · exact Nat.lt_trans (l1 q (.tail _ h)) l2
      · rw [h]; exact l2
    · rw [List.mem_singleton.mp hq]
      exact Nat.ne_of_gt (l1 q' hq')
  · refine nestHit_K (c' := c') F N T C hcd (.head _) (by simp [TriplesOk, rawInt]) (by simp [codeAmong, rawInt]) hcl ?_
    intro f ctv doc h' tk F' N' l1
    refine h f c' oc vs t ctv doc h' tk [] F' (fun q hq => N' q ?_) (F'.keep _ _ h2) h3 h4 (.inl ⟨rfl, h2, rfl⟩) (fun q hq => l1 q (by simpa using hq)) (fun q hq => nomatch hq)
    simpa using hq
end
end Mine

namespace Mine
section
variable {w : World} {A : Around} {E : Value → Shared → Prop} {s' : Shared} {h : Heap} {l : List Env} {L : Addr} {env : Env} {X : String} {ev : Value} {Q : Flow → Shared → Prop}
theorem Flew.keep {b : Addr} {o : Obj} {h' : Heap} (x : Flew l h X ev h') (e : h.get? b = some o) (n : b ∉ framesOf l) : h'.get? b = some o := by
  obtain ⟨_, _, B, _, hB, hfl, _⟩ := x
  exact hfl.1 b o (hB b o e n)
theorem Flew.up {h' : Heap} (x : Flew l h X ev h') : h.UpToSlots h' := let ⟨_, _, _, _, _, _, u⟩ := x; u
theorem catch_at {hs : List ExceptHandler} (hA : A.frames = some (env :: l)) (hf : env.frame = some L) (x : Flew (env :: l) h X ev s'.heap)
    (k : ∀ h5, Flew (env :: l) h X ev h5 → wpAny (model PG w) A (handleBy ev env hs) Q E { s' with heap := h5 }) :
    wpAny (model PG w) A (noteFrame ev env) (fun _ s₂ => wpAny (model PG w) A (setFlight ev none) (fun _ s₃ => wpAny (model PG w) A (handleBy ev env hs) Q E s₃) E s₂) E s' := by
  obtain ⟨a, a0, B, rfl, hB, hfl, hu⟩ := x
  refine wpAny_looks_onW hA hf hfl fun h₄ held₄ u₄ => ?_
  refine wpAny_landsW (s := { s' with heap := h₄ }) held₄ fun h₅ fl₅ u₅ => ?_
  exact k h₅ ⟨a, a0, B, rfl, hB, fl₅, (hu.trans u₄).trans u₅⟩
variable {p : Program} {loose : List Str} {mean : ExcName → Option Value} {mg mb : Str → Option Value} {g : Heap} {x : Str} {T' : String} {np pos : Pos} {b₀ : Stmt} {suite : List Stmt} {rest : List ExceptHandler}
theorem builtin_at (T : Top p loose mean mg mb g) {s : Shared} (kp : ∀ b o, g.get? b = some o → s.heap.get? b = some o) (hmiss : mg x = none) (hv : bootBuiltins x = some (.type T')) {QV : Value → Shared → Prop} (h : QV (.type T') s) (hn : x ≠ "__name__")
    (hk : env.scope.kind = .function) (hg : env.globals = mainGlobals) (hb : env.builtins = builtinsNs) (hx : env.kindOf x = some .globalImplicit) (hd : (x == ("__debug__" : Str)) = false) :
    wpAny (model PG w) A (eval (.Name x np) env) QV E s :=
  Name_function_global hk hx (loadGlobal_builtin (env := env) (by rw [hg]; exact T.g.keeps kp) hmiss (by rw [hb]; exact T.b.keeps kp) ((T.builtins x hn).trans hv) h) hd
theorem handler_no (y : Flew (env :: l) h X ev s'.heap)
    (hexc : isSubtype (.type T') (.type "BaseException") = pure true) (hnt : isSubtype (.type ((Manifest.find? T').elim "type" fun y => y.metatype)) (.type "tuple") = pure false) (hsub : isSubtype (.type X) (.type T') = pure false)
    (hld : ∀ {A : Around} {E : Value → Shared → Prop} {QV : Value → Shared → Prop}, QV (.type T') s' → wpAny (model PG w) A (eval (.Name x np) env) QV E s')
    (k : wpAny (model PG w) A (handleBy ev env rest) Q E s') :
    wpAny (model PG w) A (handleBy ev env (.ExceptHandler (some (.Name x np)) none (b₀ :: suite) pos :: rest)) Q E s' := by
  obtain ⟨a, a0, B, rfl, hB, hfl, hu⟩ := y
  obtain ⟨ob, hob, hobc⟩ := hfl.there
  exact wpAny_handleBy_builtin (X := X) (T := T') (b := false) hexc hnt hsub (hld ⟨rfl, ⟨ob, hob, hobc⟩, k⟩)
theorem handler_yes (y : Flew (env :: l) h X ev s'.heap)
    (hexc : isSubtype (.type T') (.type "BaseException") = pure true) (hnt : isSubtype (.type ((Manifest.find? T').elim "type" fun y => y.metatype)) (.type "tuple") = pure false) (hsub : isSubtype (.type X) (.type T') = pure true)
    (hld : ∀ {A : Around} {E : Value → Shared → Prop} {QV : Value → Shared → Prop}, QV (.type T') s' → wpAny (model PG w) A (eval (.Name x np) env) QV E s')
    (k : ∀ h6, Flew (env :: l) h X ev h6 → wpAny (model PG w) (A.mark (some ev)) (execs (b₀ :: suite) env) Q (fun _ _ => False) { s' with heap := h6 }) :
    wpAny (model PG w) A (handleBy ev env (.ExceptHandler (some (.Name x np)) none (b₀ :: suite) pos :: rest)) Q E s' := by
  obtain ⟨a, a0, B, rfl, hB, hfl, hu⟩ := y
  obtain ⟨ob, hob, hobc⟩ := hfl.there
  refine wpAny_handleBy_builtin (X := X) (T := T') (b := true) hexc hnt hsub (hld ⟨rfl, ⟨ob, hob, hobc⟩, ?_⟩)
  refine lands_againW hfl fun h₆ fl₆ u₆ => ?_
  exact wpAny_noRaise (k h₆ ⟨a, a0, B, rfl, hB, fl₆, hu.trans u₆⟩)
theorem sub_KeyError_IndexError : isSubtype (.type "KeyError") (.type "IndexError") = pure false := by rw [isSubtype_type]; kernel_rfl
theorem sub_IndexError_self : isSubtype (.type "IndexError") (.type "IndexError") = pure true := by rw [isSubtype_type]; kernel_rfl
theorem sub_KeyError_self : isSubtype (.type "KeyError") (.type "KeyError") = pure true := by rw [isSubtype_type]; kernel_rfl
end
end Mine

namespace Mine
section
variable {w : World} {A : Around} {E : Value → Shared → Prop} {s : Shared} {h₀ : Heap} {L : Addr} {m : Str → Option Value} {env : Env} {elt : Expr} {x : Str} {scope : Scope} {cl : List (Str × Addr)}
theorem rest_J {n : Nat} {S : List (Addr × Obj) → Prop} {P : Nat → Value → Prop} {Fin : List Value → List (Addr × Obj) → Prop} (J : Nat → List Value → List (Addr × Obj) → Prop)
    (step : ∀ i ys news v I oI C oC D m₂ h tk (E' : Value → Shared → Prop), i < n → P i v → J i ys news → LCg.NsObj oC m₂ → m₂ x = some v → Fr h₀ L h m → News h₀ L h ((I, oI) :: (C, oC) :: (D, LCg.lst ys) :: news) → LCg.Off3 I C D news →
      wpAny (model PG w) A (eval elt (compEnvC scope cl C env)) (LCg.CompEnd h₀ L m { s with heap := h, toks := tk } I oI C oC D (LCg.lst ys) S (fun y news' => J (i + 1) (ys ++ [y]) news')) E' { s with heap := h, toks := tk })
    (fin : ∀ ys news, J n ys news → Fin ys news) : ∀ k i ys news, i + k = n → J i ys news → LCg.CompRest PG w A h₀ L m env elt x scope cl s S P Fin k i ys news := by
  intro k
  induction k with
  | zero =>
    intro i ys news hi hJ
    refine LCg.CompRest.zero (fin ys news ?_)
    have : i = n := by omega
    exact this ▸ hJ
  | succ k ih =>
    intro i ys news hi hJ
    refine LCg.CompRest.succ fun v I oI C oC D m₂ h tk E' hP hC hx F N off dis => ?_
    refine wpAny_mono (step i ys news v I oI C oC D m₂ h tk E' (by omega) hP hJ hC hx F N off) (fun y s' hy => ?_) fun _ _ e => e
    obtain ⟨h', tk', news', e, F', N', off', hS, hr⟩ := hy
    exact ⟨h', tk', news', e, F', N', off', hS, ih (i + 1) (ys ++ [y]) news' (by omega) hr⟩
def CellEnd (h₀ : Heap) (L : Addr) (m : Str → Option Value) (s₁ : Shared) (I : Addr) (oI : Obj) (K : Addr) (oK : Obj) (C : Addr) (oC : Obj) (D : Addr) (oD : Obj) (S : List (Addr × Obj) → Prop) (J : Value → List (Addr × Obj) → Prop) (y : Value) (s₂ : Shared) : Prop :=
  ∃ h' tk news', s₂ = { s₁ with heap := h', toks := tk } ∧ Fr h₀ L h' m ∧ News h₀ L h' ((I, oI) :: (K, oK) :: (C, oC) :: (D, oD) :: news') ∧ (∀ p ∈ news', p.1 ≠ I ∧ p.1 ≠ K ∧ p.1 ≠ C ∧ p.1 ≠ D) ∧ S news' ∧ J y news'
theorem block_C {iter : Expr} {px : Pos} {pos : Pos} {s₂ : Shared} {I : Addr} {fp : List Addr} {n : Nat} {P : Nat → Value → Prop} {St : Nat → Heap → Prop} {S : List (Addr × Obj) → Prop} {news : List (Addr × Obj)}
    {RR : Value → Addr → Result → Shared → Prop} (J : Nat → List Value → List (Addr × Obj) → Prop)
    (W : Walks PG w A I fp [I] n P St) (hsz : n ≤ sizeLine) (hIo : ∀ i h, St i h → ∃ o, h.get? I = some o)
    (hSt : ∀ i h h' o nw, St i h → h.get? I = some o → h'.get? I = some o → (∀ b o, h₀.get? b = some o → h'.get? b = some o) → News h₀ L h' nw → S nw → St i h')
    (hcf : ∀ a, cellsFrom a scope.names cl = (x, a) :: cl) (hpc : ∀ h, pushCells h scope.names = h.push { cls := .type "cell", data := .cell none }) (hkind : scope.kind = .function) (hx : (relabel scope env).names.lookup x = some .cell)
    (hst : St 0 s₂.heap) (hfp : ∀ b ∈ fp, b < s₂.heap.objs.size)
    (F : Fr h₀ L s₂.heap m) (N : News h₀ L s₂.heap news) (hIL : L ≠ I) (hI₀ : h₀.get? I = none) (off : ∀ p ∈ news, p.1 ≠ I) (hS : S news) (hJ : J 0 [] news)
    (step : ∀ i ys news v I oI K oK C oC D m₂ h tk (E' : Value → Shared → Prop), i < n → P i v → J i ys news → LCg.NsObj oC m₂ → oK.data = .cell (some v) → Fr h₀ L h m → News h₀ L h ((I, oI) :: (K, oK) :: (C, oC) :: (D, LCg.lst ys) :: news) → (∀ p ∈ news, p.1 ≠ I ∧ p.1 ≠ K ∧ p.1 ≠ C ∧ p.1 ≠ D) → S news →
      wpAny (model PG w) A (eval elt (compEnvC scope ((x, K) :: cl) C env)) (CellEnd h₀ L m { s₂ with heap := h, toks := tk } I oI K oK C oC D (LCg.lst ys) S (fun y news' => J (i + 1) (ys ++ [y]) news')) E' { s₂ with heap := h, toks := tk })
    (hRR : ∀ D C h tk m' ys news', Fr h₀ L h m → News h₀ L h ((D, LCg.lst ys) :: news') → (∀ p ∈ news', p.1 ≠ D) → h.Ns C m' → h₀.get? C = none → h₀.get? D = none → C ≠ L → D ≠ L → C ≠ D → (∀ p ∈ news', p.1 ≠ C) → J n ys news' → RR (.ref D) C (.ok .next) { s₂ with heap := h, toks := tk }) :
    wpAny (model PG w) A (newList []) (fun acc s₃ => wpAny (model PG w) A (newFunctionEnv scope env.globals cl [] env.qual none .none (some env)) (fun cenv s₄ =>
      codeAny (model PG w) A (.compStart (.ListComp elt [⟨.Name x px, iter, [], 0⟩] scope pos) 0 (.ref I) acc { cenv with scope := relabel scope env }) (RR acc cenv.locals) s₄) E s₃) E s₂ := by
  refine wpAny_newObj_type ?_
  simp only [newFunctionEnv, Option.isSome_some, if_true]
  refine wpAny_bind (wpAny_alloc ?_)
  refine wpAny_bind (wpAny_layCells _ (fun name kind cells => by cases hkc : kind == NameKind.cell <;> simp [hkc]) _ _ _ _ ?_)
  rw [hcf, hpc]
  refine wpAny_bind ?_
  rw [List.forIn_nil]
  refine wpAny_pure (wpAny_pure ?_)
  dsimp only
  have z1 : (s₂.heap.push { cls := .type "list", dict := none, data := .seq ([] : List Value).toArray }).objs.size = s₂.heap.objs.size + 1 := Heap.size_push ..
  have z2 : ((s₂.heap.push { cls := .type "list", dict := none, data := .seq ([] : List Value).toArray }).push { cls := .type "dict", data := .dict #[] }).objs.size = s₂.heap.objs.size + 2 := by rw [Heap.size_push, z1]
  have hD1 : (((s₂.heap.push { cls := .type "list", dict := none, data := .seq ([] : List Value).toArray }).push { cls := .type "dict", data := .dict #[] }).push { cls := .type "cell", data := .cell none }).get? s₂.heap.objs.size = some (LCg.lst []) :=
    Heap.get?_push_of_some _ (Heap.get?_push_of_some _ (Heap.get?_push_size _ rfl))
  have hC1 : (((s₂.heap.push { cls := .type "list", dict := none, data := .seq ([] : List Value).toArray }).push { cls := .type "dict", data := .dict #[] }).push { cls := .type "cell", data := .cell none }).Ns (s₂.heap.objs.size + 1) (fun _ => none) := by
    have := (Heap.Ns.new (s₂.heap.push { cls := .type "list", dict := none, data := .seq ([] : List Value).toArray }) (.type "dict"))
    rw [z1] at this
    exact this.keeps fun b o e => Heap.get?_push_of_some _ e
  have hK1 : (((s₂.heap.push { cls := .type "list", dict := none, data := .seq ([] : List Value).toArray }).push { cls := .type "dict", data := .dict #[] }).push { cls := .type "cell", data := .cell none }).IsCell (s₂.heap.objs.size + 2) none := by
    have := Heap.get?_push_size ((s₂.heap.push { cls := .type "list", dict := none, data := .seq ([] : List Value).toArray }).push { cls := .type "dict", data := .dict #[] }) (o := { cls := .type "cell", data := .cell none }) rfl
    rw [z2] at this
    exact ⟨_, this, rfl⟩
  have old : ∀ b o, s₂.heap.get? b = some o → (((s₂.heap.push { cls := .type "list", dict := none, data := .seq ([] : List Value).toArray }).push { cls := .type "dict", data := .dict #[] }).push { cls := .type "cell", data := .cell none }).get? b = some o :=
    fun b o e => Heap.get?_push_of_some _ (Heap.get?_push_of_some _ (Heap.get?_push_of_some _ e))
  rw [z1, z2]
  generalize (((s₂.heap.push { cls := .type "list", dict := none, data := .seq ([] : List Value).toArray }).push { cls := .type "dict", data := .dict #[] }).push { cls := .type "cell", data := .cell none }) = h₁ at *
  clear z1 z2
  have hIf : I ∈ fp := W.sub I (List.mem_singleton.mpr rfl)
  have hIlt : I < s₂.heap.objs.size := hfp I hIf
  have hLlt : L < s₂.heap.objs.size := F.ns.lt
  have fresh₀ : ∀ a, s₂.heap.objs.size ≤ a → h₀.get? a = none := fun a ha => by
    cases e : h₀.get? a with
    | none => rfl
    | some o' => exact absurd (Heap.lt_size (F.keep a o' e)) (Nat.not_lt.mpr ha)
  have fpn : ∀ a, s₂.heap.objs.size ≤ a → a ∉ fp := fun a ha hm => Nat.lt_irrefl _ (Nat.lt_of_lt_of_le (hfp a hm) ha)
  have ltn : ∀ b p : Addr, b < s₂.heap.objs.size → s₂.heap.objs.size ≤ p → b ≠ p := fun b p h1 h2 => Nat.ne_of_lt (Nat.lt_of_lt_of_le h1 h2)
  generalize hDe : s₂.heap.objs.size = D at *
  have hDC : (D : Nat) ≠ D + 1 := by omega
  have hDK : (D : Nat) ≠ D + 2 := by omega
  have hCK : (D + 1 : Nat) ≠ D + 2 := by omega
  have leC : (D : Nat) ≤ D + 1 := by omega
  have leK : (D : Nat) ≤ D + 2 := by omega
  generalize (D + 1 : Nat) = C at *
  generalize (D + 2 : Nat) = K at *
  have hst₁ : St 0 h₁ := W.frame _ _ _ hst fun b _ o e => old b o e
  have loop : ∀ s₃ : Shared, s₃.gens = s₂.gens → s₃.drawn = s₂.drawn → s₃.os = s₂.os → s₃.heap = h₁ →
      codeAny (model PG w) A (.compLoop (.ListComp elt [⟨.Name x px, iter, [], 0⟩] scope pos) 0 (.ref I) (.ref D) (compEnvC scope ((x, K) :: cl) C env)) (RR (.ref D) C) s₃ := by
    rintro ⟨_, _, _, tk₀, _⟩ q1 q2 q3 q4
    dsimp only at q1 q2 q3 q4
    subst q1 q2 q3 q4
    refine codeAny_compLoop_tests
      (fun k s' => ∃ h' tk i ys news', s' = { s₂ with heap := h', toks := tk } ∧ i ≤ n ∧ k = n + 1 - i ∧ ys.length = i ∧ St i h' ∧ Fr h₀ L h' m ∧ (∃ m', h'.Ns C m') ∧ (∃ v₀, h'.IsCell K v₀) ∧ News h₀ L h' ((D, LCg.lst ys) :: news') ∧
        (∀ p ∈ news', p.1 ≠ I ∧ p.1 ≠ K ∧ p.1 ≠ C ∧ p.1 ≠ D) ∧ S news' ∧ J i ys news') ?_ (n + 1)
      ⟨_, tk₀, 0, [], news, rfl, Nat.zero_le _, rfl, rfl, hst₁, F.keeps old, ⟨_, hC1⟩, ⟨_, hK1⟩, fun p hp => ?_, fun p hp => ?_, hS, hJ⟩
    · rintro k s' ⟨h', tk, i, ys, news', rfl, hi, rfl, hyl, hst', F', ⟨m', hn'⟩, ⟨v₀, hK'⟩, N', off', hS', J'⟩
      have hCI : I ≠ C := ltn I C hIlt leC
      have hKI : I ≠ K := ltn I K hIlt leK
      have hDI : I ≠ D := ltn I D hIlt (Nat.le_refl _)
      have hCL : C ≠ L := Ne.symm (ltn L C hLlt leC)
      have hKL : K ≠ L := Ne.symm (ltn L K hLlt leK)
      have hDL : D ≠ L := Ne.symm (ltn L D hLlt (Nat.le_refl _))
      by_cases hlt : i < n
      · refine W.item i _ _ _ hlt hst' fun v h₂ tk₂ hPv hst₂ hk₂ => ?_
        obtain ⟨oK', eK', dK'⟩ := id hK'
        have hK₂ : h₂.IsCell K v₀ := ⟨oK', hk₂ _ _ (by simpa using Ne.symm hKI) eK', dK'⟩
        refine wpAny_assign_Name (wpAny_storeName_cell (c := K) (by simp [compEnvC, relabel, hkind]) hx (by simp [compEnvC]) hK₂ fun h₃ hK₃ hs₃ => ?_)
        refine wpAny_tests_nil ?_
        simp only [if_true]
        have hst₃ : St (i + 1) h₃ := W.frame _ _ _ hst₂ fun b hb o e => hs₃.extBut b o (fun q => fpn K leK (q ▸ hb)) e
        have hn₃ : h₃.Ns C m' := (hn'.at' fun o e => hk₂ _ o (by simpa using Ne.symm hCI) e).at' fun o e => hs₃.extBut C o hCK e
        obtain ⟨oI, heI⟩ := hIo _ _ hst₃
        obtain ⟨oC, heC, hoC⟩ := LCg.ns_obj hn₃
        obtain ⟨oK, heK, hoK⟩ := hK₃
        have F₃ : Fr h₀ L h₃ m := (LCg.fr_but F' hk₂ hIL hI₀).change hs₃ hKL (fresh₀ K leK)
        have N₂ : News h₀ L h₂ ((D, LCg.lst ys) :: news') := LCg.news_but N' hk₂ fun p hp => by
          rcases List.mem_cons.mp hp with rfl | hp
          · exact Ne.symm hDI
          · exact (off' p hp).1
        have N₃ : News h₀ L h₃ ((I, oI) :: (K, oK) :: (C, oC) :: (D, LCg.lst ys) :: news') := fun p hp => by
          rcases List.mem_cons.mp hp with rfl | hp
          · exact ⟨heI, Ne.symm hIL, hI₀⟩
          rcases List.mem_cons.mp hp with rfl | hp
          · exact ⟨heK, hKL, fresh₀ K leK⟩
          rcases List.mem_cons.mp hp with rfl | hp
          · exact ⟨heC, hCL, fresh₀ C leC⟩
          have z := N₂ p hp
          refine ⟨hs₃.extBut _ _ ?_ z.1, z.2⟩
          rcases List.mem_cons.mp hp with rfl | hp
          · exact hDK
          · exact (off' p hp).2.1
        refine wpAny_mono (step i ys news' v I oI K oK C oC D _ h₃ _ _ hlt hPv J' hoC hoK F₃ N₃ off' hS') (fun y s₄ h₄ => ?_) fun _ _ e => e
        obtain ⟨h₄, tk₄, news₄, rfl, F₄, N₄, off₄, hS₄, J₄⟩ := h₄
        have zI := (N₄ (I, oI) List.mem_cons_self).1
        have zK := (N₄ (K, oK) (.tail _ List.mem_cons_self)).1
        have zC := (N₄ (C, oC) (.tail _ (.tail _ List.mem_cons_self))).1
        have zD := (N₄ (D, LCg.lst ys) (.tail _ (.tail _ (.tail _ List.mem_cons_self)))).1
        have N₄' : News h₀ L h₄ news₄ := fun p hp => N₄ p (.tail _ (.tail _ (.tail _ (.tail _ hp))))
        have hst₄ : St (i + 1) h₄ := hSt _ _ _ _ _ hst₃ heI zI F₄.keep N₄' hS₄
        refine append_at (hsz := by show ys.toArray.size ≤ sizeLine; rw [List.size_toArray, hyl]; exact Nat.le_trans hi hsz) zD fun h₅ hs₅ hD₅ => ?_
        refine ⟨n + 1 - (i + 1), by omega, h₅, tk₄, i + 1, ys ++ [y], news₄, rfl, hlt, rfl, by rw [List.length_append, List.length_singleton, hyl], W.frame _ _ _ hst₄ fun b hb o e => hs₅.extBut b o (fun q => fpn D (Nat.le_refl _) (q ▸ hb)) e, F₄.change hs₅ hDL (fresh₀ D (Nat.le_refl _)),
          ⟨_, (hoC.ns zC).sameBut hs₅ (Ne.symm hDC)⟩, ⟨_, ⟨oK, hs₅.extBut _ _ (Ne.symm hDK) zK, hoK⟩⟩, fun p hp => ?_, off₄, hS₄, J₄⟩
        rcases List.mem_cons.mp hp with rfl | hp
        · exact ⟨hD₅.trans (congrArg some (LCg.lst_snoc ys y)), hDL, fresh₀ D (Nat.le_refl _)⟩
        · exact ⟨hs₅.extBut _ _ (off₄ p hp).2.2.2 (N₄' p hp).1, (N₄' p hp).2⟩
      · obtain rfl : i = n := Nat.le_antisymm hi (Nat.not_lt.mp hlt)
        refine W.done _ _ _ hst' fun h₂ tk₂ hk₂ => ?_
        exact hRR _ _ h₂ tk₂ _ ys news' (LCg.fr_but F' hk₂ hIL hI₀) (LCg.news_but N' hk₂ fun p hp => by
          rcases List.mem_cons.mp hp with rfl | hp
          · exact Ne.symm hDI
          · exact (off' p hp).1) (fun p hp => (off' p hp).2.2.2) (hn'.at' fun o e => hk₂ _ o (by simpa using Ne.symm hCI) e) (fresh₀ C leC) (fresh₀ D (Nat.le_refl _)) hCL hDL (Ne.symm hDC) (fun p hp => (off' p hp).2.2.1) J'
    · rcases List.mem_cons.mp hp with rfl | hp
      · exact ⟨hD1, Ne.symm (ltn L D hLlt (Nat.le_refl _)), fresh₀ D (Nat.le_refl _)⟩
      · exact ⟨old _ _ (N p hp).1, (N p hp).2⟩
    · have q := Heap.lt_size (N p hp).1
      rw [hDe] at q
      exact ⟨off p hp, ltn _ K q leK, ltn _ C q leC, ltn _ D q (Nat.le_refl _)⟩
  exact codeAny_compStart_list (loop _ rfl rfl rfl rfl) (W.self 0 _ _ _ hst₁ (loop _ rfl rfl rfl rfl))
end
end Mine

namespace Mine
abbrev CompTail (w : World) (A : Around) (env : Env) (scope : Scope) (cl : List (Str × Addr)) (elt iter : Expr) (x : Str) (px pos : Pos) (E : Value → Shared → Prop) (use : Option (Value → Sem Unit)) (Q : Value → Shared → Prop) (it : Value) (s₂ : Shared) : Prop :=
  wpAny (model PG w) A (newList []) (fun acc s₃ => wpAny (model PG w) A (newFunctionEnv scope env.globals cl [] env.qual none .none (some env)) (fun cenv s₄ =>
    codeAny (model PG w) A (.compStart (.ListComp elt [⟨.Name x px, iter, [], 0⟩] scope pos) 0 it acc { cenv with scope := relabel scope env }) (compPost (model PG w) A E use Q acc cenv.locals) s₄) E s₃) E s₂
section
variable {w : World} {A : Around} {E : Value → Shared → Prop} {s : Shared} {h₀ : Heap} {L : Addr} {m : Str → Option Value} {env : Env} {elt iter : Expr} {x y : Str} {px py pos spos : Pos} {scope : Scope} {cl : List (Str × Addr)} {news : List (Addr × Obj)}
theorem listcomp_eval {Q : Value → Shared → Prop} (hclos : closureFor scope env = pure cl) (hkind : scope.kind = .function) (hnames : ∀ y ∈ scope.names, y.2 = .local → scope.names.lookup y.1 = some .local)
    (h : wpAny (model PG w) A (eval iter env) (fun xv s₁ => wpAny (model PG w) A (pyIter xv) (CompTail w A env scope cl elt iter x px pos E none Q) E s₁) E s)
    (hs : ∀ x, foldedSetIterable iter env x = pure x := by intro _; rfl) :
    wpAny (model PG w) A (eval (.ListComp elt [⟨.Name x px, iter, [], 0⟩] scope pos) env) Q E s := by
  rw [eval_ListComp]
  exact wpAny_comprehension_free (use := none) rfl hs hclos hkind hnames h
theorem listcomp_assign {Q : Flow → Shared → Prop} (hsw : swapsWith (.ListComp elt [⟨.Name x px, iter, [], 0⟩] scope pos) (some (.Name y py)) spos.line env = pure true)
    (hclos : closureFor scope env = pure cl) (hkind : scope.kind = .function) (hnames : ∀ y ∈ scope.names, y.2 = .local → scope.names.lookup y.1 = some .local)
    (h : wpAny (model PG w) A (eval iter env) (fun xv s₁ => wpAny (model PG w) A (pyIter xv) (CompTail w A env scope cl elt iter x px pos E (some (assign (.Name y py) env)) (fun _ s' => Q .next s')) E s₁) E s)
    (hs : ∀ x, foldedSetIterable iter env x = pure x := by intro _; rfl) :
    wpAny (model PG w) A (exec (.Assign [.Name y py] (.ListComp elt [⟨.Name x px, iter, [], 0⟩] scope pos) spos) env) Q E s := by
  rw [exec_Assign_Name_used _ _ _ _ hsw]
  refine wpAny_bind (wpAny_standAt (wpAny_bind ?_))
  show wpAny _ A (do let _ ← comprehension (.ListComp elt [⟨.Name x px, iter, [], 0⟩] scope pos) scope env _ (newList []) false (eval iter env) (some (assign (.Name y py) env))) _ _ s
  exact wpAny_bind (wpAny_mono (wpAny_comprehension_free (use := some (assign (.Name y py) env)) (Q := fun _ s' => Q .next s') rfl hs hclos hkind hnames h) (fun _ s' hq => wpAny_pure (wpAny_pure hq)) fun _ _ e => e)
theorem postN {Q : Value → Shared → Prop} {D C : Addr} {h : Heap} {tk : Nat} {m' : Str → Option Value} {ys : List Value} (F : Fr h₀ L h m) (N : News h₀ L h ((D, LCg.lst ys) :: news)) (off : ∀ p ∈ news, p.1 ≠ D) (hn : h.Ns C m') (hC₀ : h₀.get? C = none) (hCL : C ≠ L) (hCD : C ≠ D) (offC : ∀ p ∈ news, p.1 ≠ C)
    (fin : ∀ D h tk, Fr h₀ L h m → News h₀ L h ((D, LCg.lst ys) :: news) → (∀ p ∈ news, p.1 ≠ D) → Q (.ref D) { s with heap := h, toks := tk }) :
    compPost (model PG w) A E none Q (.ref D) C (.ok .next) { s with heap := h, toks := tk } := by
  refine ⟨m', hn, fun h'' hs'' => fin D h'' tk (F.change hs'' hCL hC₀) (fun p hp => ?_) off⟩
  refine ⟨hs''.extBut _ _ ?_ (N p hp).1, (N p hp).2⟩
  rcases List.mem_cons.mp hp with rfl | hp
  · exact Ne.symm hCD
  · exact offC p hp
theorem postA {Q : Shared → Prop} {D C : Addr} {h : Heap} {tk : Nat} {m' : Str → Option Value} {ys : List Value} (hL : env.locals = L) (hy : env.kindOf y = some .local) (hp : (env.scope.kind == .class || (env.scope.kind == .module && env.locals != env.globals)) = false)
    (F : Fr h₀ L h m) (N : News h₀ L h ((D, LCg.lst ys) :: news)) (off : ∀ p ∈ news, p.1 ≠ D) (hn : h.Ns C m') (hC₀ : h₀.get? C = none) (hCL : C ≠ L) (hCD : C ≠ D) (offC : ∀ p ∈ news, p.1 ≠ C)
    (fin : ∀ D h tk, Fr h₀ L h (fun z => if z = y then some (.ref D) else m z) → News h₀ L h ((D, LCg.lst ys) :: news) → (∀ p ∈ news, p.1 ≠ D) → Q { s with heap := h, toks := tk }) :
    compPost (model PG w) A E (some (assign (.Name y py) env)) (fun _ s' => Q s') (.ref D) C (.ok .next) { s with heap := h, toks := tk } := by
  subst hL
  show wpAny _ A (assign (.Name y py) env (.ref D)) _ _ _
  refine wpAny_assign_Name (wpAny_storeName_local hy F.ns (fun h₂ hn₂ hs₂ => ?_) hp)
  have hL₀ : h₀.get? env.locals = none := Heap.get?_none_of_le F.above
  have F₂ : Fr h₀ env.locals h₂ (fun z => if z = y then some (.ref D) else m z) := ⟨hn₂, fun b o e => hs₂.extBut b o (fun q => by rw [q, hL₀] at e; cases e) (F.keep b o e), F.above⟩
  refine ⟨m', hn.sameBut hs₂ hCL, fun h'' hs'' => fin D h'' _ (F₂.change hs'' hCL hC₀) (fun p hp => ?_) off⟩
  have z : h₂.get? p.1 = some p.2 := hs₂.extBut _ _ (N p hp).2.1 (N p hp).1
  refine ⟨hs''.extBut _ _ ?_ z, (N p hp).2⟩
  rcases List.mem_cons.mp hp with rfl | hp
  · exact Ne.symm hCD
  · exact offC p hp
abbrev StepC (w : World) (A : Around) (h₀ : Heap) (L : Addr) (m : Str → Option Value) (env : Env) (elt : Expr) (x : Str) (scope : Scope) (cl : List (Str × Addr)) (s : Shared) (n : Nat) (P : Nat → Value → Prop) (S : List (Addr × Obj) → Prop) (J : Nat → List Value → List (Addr × Obj) → Prop) : Prop :=
  ∀ i ys news v I oI K oK C oC D m₂ h tk (E' : Value → Shared → Prop), i < n → P i v → J i ys news → LCg.NsObj oC m₂ → oK.data = .cell (some v) → Fr h₀ L h m → News h₀ L h ((I, oI) :: (K, oK) :: (C, oC) :: (D, LCg.lst ys) :: news) → (∀ p ∈ news, p.1 ≠ I ∧ p.1 ≠ K ∧ p.1 ≠ C ∧ p.1 ≠ D) → S news →
    wpAny (model PG w) A (eval elt (compEnvC scope ((x, K) :: cl) C env)) (CellEnd h₀ L m { s with heap := h, toks := tk } I oI K oK C oC D (LCg.lst ys) S (fun y news' => J (i + 1) (ys ++ [y]) news')) E' { s with heap := h, toks := tk }
variable (J : Nat → List Value → List (Addr × Obj) → Prop)
theorem cell_list {use : Option (Value → Sem Unit)} {Q : Value → Shared → Prop} {ax : Addr} {its : Array Value} (hh : A.handled = none) (F : Fr h₀ L s.heap m) (N : News h₀ L s.heap news) (hl : LCg.SrcAt h₀ ax its news) (hsz : its.size ≤ sizeLine)
    (hcf : ∀ a, cellsFrom a scope.names cl = (x, a) :: cl) (hpc : ∀ h, pushCells h scope.names = h.push { cls := .type "cell", data := .cell none }) (hkind : scope.kind = .function) (hx : (relabel scope env).names.lookup x = some .cell) (hJ : J 0 [] news)
    (step : ∀ g, StepC w A h₀ L m env elt x scope cl { s with heap := g } its.size (fun i v => its[i]? = some v) (LCg.SrcAt h₀ ax its) J)
    (fin : ∀ g D C h tk m' ys news', Fr h₀ L h m → News h₀ L h ((D, LCg.lst ys) :: news') → (∀ p ∈ news', p.1 ≠ D) → h.Ns C m' → h₀.get? C = none → h₀.get? D = none → C ≠ L → D ≠ L → C ≠ D → (∀ p ∈ news', p.1 ≠ C) → J its.size ys news' → compPost (model PG w) A E use Q (.ref D) C (.ok .next) { { s with heap := g } with heap := h, toks := tk }) :
    wpAny (model PG w) A (pyIter (.ref ax)) (CompTail w A env scope cl elt iter x px pos E use Q) E s := by
  have hl' := hl.list F.keep N
  have hlt : ax < s.heap.objs.size := by obtain ⟨_, e, _⟩ := hl'; exact Heap.lt_size e
  refine wpAny_pyIter_list hl' ?_
  have up : ∀ b o, s.heap.get? b = some o → (s.heap.push { cls := .type "list_iterator", data := .fields #[.ref ax, .int 0 0] }).get? b = some o := fun b o e => Heap.get?_push_of_some _ e
  refine block_C (news := news) J (Walks.list hh s.heap.objs.size ax (Nat.ne_of_lt hlt) its) hsz (fun i h st => by obtain ⟨o, e, _⟩ := st.1; exact ⟨o, e⟩) LCg.list_st hcf hpc hkind hx ⟨⟨_, Heap.get?_push_size _ rfl, rfl, rfl⟩, hl'.push _⟩ (fun b hb => ?_)
    (F.keeps up) (N.grown up) (Nat.ne_of_lt F.ns.lt) (fresh_size F) (fun p hp => Nat.ne_of_lt (Heap.lt_size (N p hp).1)) hl hJ (step _) (fin _)
  show b < (s.heap.push _).objs.size
  rw [Heap.size_push]
  rcases List.mem_cons.mp hb with rfl | hb
  · exact Nat.lt_succ_self _
  · rw [List.mem_singleton.mp hb]; exact Nat.lt_succ_of_lt hlt
theorem cell_range {use : Option (Value → Sem Unit)} {Q : Value → Shared → Prop} {r : Addr} {a b : Int} {t u v : Tok} {n : Nat} (hh : A.handled = none) (F : Fr h₀ L s.heap m) (N : News h₀ L s.heap news) (hr : IsRange s.heap r a b 1 t u v) (hsm : Builtin.Range.small a b 1 = true) (hn : Builtin.Range.rangeSize a b 1 = ((n : Nat) : Int)) (hsz : n ≤ sizeLine)
    (hcf : ∀ a, cellsFrom a scope.names cl = (x, a) :: cl) (hpc : ∀ h, pushCells h scope.names = h.push { cls := .type "cell", data := .cell none }) (hkind : scope.kind = .function) (hx : (relabel scope env).names.lookup x = some .cell) (hJ : J 0 [] news)
    (step : ∀ g, StepC w A h₀ L m env elt x scope cl { s with heap := g } n (fun i v => ∃ t, v = .int (a + (i : Int)) t) (fun _ => True) J)
    (fin : ∀ g D C h tk m' ys news', Fr h₀ L h m → News h₀ L h ((D, LCg.lst ys) :: news') → (∀ p ∈ news', p.1 ≠ D) → h.Ns C m' → h₀.get? C = none → h₀.get? D = none → C ≠ L → D ≠ L → C ≠ D → (∀ p ∈ news', p.1 ≠ C) → J n ys news' → compPost (model PG w) A E use Q (.ref D) C (.ok .next) { { s with heap := g } with heap := h, toks := tk }) :
    wpAny (model PG w) A (pyIter (.ref r)) (CompTail w A env scope cl elt iter x px pos E use Q) E s := by
  refine wpAny_pyIter_range hr hsm ?_
  refine block_C (news := news) J (LCg.range_walks hh a n) hsz (fun i h st => ⟨_, st⟩) LCg.range_st hcf hpc hkind hx (by show IsRangeIter _ _ _ _ _; rw [hn]; simpa using Heap.get?_push_size _ rfl) (fun b hb => ?_)
    (F.keeps fun _ _ e => Heap.get?_push_of_some _ e) (N.grown fun _ _ e => Heap.get?_push_of_some _ e) (Nat.ne_of_lt F.ns.lt) (fresh_size F) (fun p hp => Nat.ne_of_lt (Heap.lt_size (N p hp).1)) trivial hJ (step _) (fin _)
  rw [List.mem_singleton.mp hb]
  show s.heap.objs.size < (s.heap.push _).objs.size
  rw [Heap.size_push]; exact Nat.lt_succ_self _
end
end Mine

namespace Mine
theorem fillit : (fun (_ : OpenLaw) (_ : Params → Frag) => True) PySem.Challenge.rw_nq0091_01 Mine.hd.heap_39 := by w_top off; k_fill; trivial
end Mine

set_option maxHeartbeats 40000000
namespace Mine

def rowOf (d : Int) : List Int := (List.range (1 + Int.fmod d 3).toNat).map fun i => Int.fmod (Int.fdiv (Int.fdiv d 3) (4 ^ i)) 4
theorem paired_ints {f : Nat → Int} : ∀ {n k : Nat} {vs ys : List Value}, vs.length = n → (∀ (j : Nat) v, vs[j]? = some v → ∃ t, v = .int (k + j : Nat) t) →
    Paired (fun v y => ∃ (i : Nat) (t t' : Tok), v = Value.int i t ∧ y = Value.int (f i) t') (vs.filter fun _ => true) ys → IntsAre ys ((List.range' k n).map f)
  | 0, _, [], _, _, _, h => by cases h; exact .nil
  | n + 1, k, v :: vs, _, hl, hv, h => by
    cases h with
    | cons h1 h2 =>
      obtain ⟨i, t, t', e1, rfl⟩ := h1
      obtain ⟨t2, e2⟩ := hv 0 v rfl
      rw [e2] at e1
      have hi : i = k := by have := Value.int.inj e1; omega
      subst hi
      rw [List.range'_succ, List.map_cons]
      refine .cons _ _ ?_
      refine paired_ints (by simpa using hl) (fun j v hj => ?_) h2
      obtain ⟨t, e⟩ := hv (j + 1) v (by simpa using hj)
      exact ⟨t, by rw [e]; congr 1; omega⟩
theorem row_c {w : World} {p : Program} {loose : List Str} {mean : ExcName → Option Value} {mg mb : Str → Option Value} {dp un : Nat} {gd : Option (List Code)} {cn : Str} {cs : Scope} {a : Addr} {ccd : Value} {cl : List (Str × Addr)} {outer : List Env} {A₀ : Around} {base h₀ : Heap} {L : Addr} {m : Str → Option Value} {s : Shared} {Q E : Value → Shared → Prop} (d : Int) (t : Tok) (G : Gd 2 w p loose mean mg mb dp un cs outer A₀ base h₀ L m s.heap)
    (hret : ∀ r vs h' tk', (∀ b o, s.heap.get? b = some o → h'.get? b = some o) → s.heap.get? r = none → h'.PlainList r vs → IntsAre vs.toList (rowOf d) → Q (.ref r) { s with heap := h', toks := tk' }) :
    wpAny (model PG w) (ktrTop dp un gd cn cs L a ccd cl outer) (call (.ref 118) [.int d t]) Q E s := by
  obtain ⟨B, F, X, T, hk, hd, hu⟩ := G
  refine wpAny_call ?_
  k_dflt (refine' enterC ?k1 ?k2 ?k3 ?k5 ?kA ?kF ?kK ?k6 ?k7 ?k8 ?k9 ?kB ?kD ?_ ?c2 ?c3 ?c4; (case kA => exact rfl); (case kF => exact rfl); (case kK => assumption); (case k1 => k_asm); (case k2 => k_asm); (case k3 => k_asm); (case k5 => k_asm); (case k6 => k_is); (case k7 => k_is); (case k8 => ktr_room); (case k9 => exact BindsTo.of_eq rfl); (case kB => exact rfl); (case kD => decide +kernel); (case c2 => exact rfl); (case c3 => exact rfl); (case c4 => exact rfl); k_whole)
  intro L1 h1 tk1 cells1 F1 N1 Y1 B1 X1 T1
  obtain ⟨o1, hE1, d1⟩ := CellsAre.one Y1
  subst hE1; clear Y1
  replace d1 : o1.data = .cell (some (.int d t)) := d1
  iterate 2 (first | walk1 | (dsimp only; walk1))
  refine wpAny_ListComp_free (fun _ => true) (fun v y => ∃ (i : Nat) (t t' : Tok), v = Value.int i t ∧ y = Value.int (Int.fmod (Int.fdiv (Int.fdiv d 3) (4 ^ i)) 4) t') (by with_unfolding_all rfl) (by decide) (by rfl) (by decide) (by rfl) ?_
  iterate 13 (first | walk1 | (dsimp only; walk1))
  have hm := fdiv_fmod_facts d 3
  refine src_range (n := (1 + Int.fmod d 3).toNat) rfl (by assumption) (by assumption) (by assumption) (by omega) (by omega) ?_ ?_ ?_
  · intro C oC i t s₃ m₃ E' hi hoC hx F₃ N₃ hk₃
    exact forIn_nil ⟨rfl, _, _, rfl, fun _ _ e => e⟩
  · intro C oC i t s₃ m₃ E' hi hp hoC hx F₃ N₃ hk₃
    iterate 9 (first | walk1 | (dsimp only; walk1))
    refine pow_int_small (by omega) (by omega) (by decide) ?_
    have hpos : (4 : Int) ^ (i : Int).toNat ≠ 0 := Int.pow_ne_zero (by decide)
    have hi2 : i ≤ 2 := by omega
    refine floordiv_int hpos ?_ (Or.inl (PyProof.noPylong_small (by rcases (show i = 0 ∨ i = 1 ∨ i = 2 by omega) with rfl | rfl | rfl <;> decide)))
    iterate 2 (first | walk1 | (dsimp only; walk1))
    exact ⟨⟨i, t, _, rfl, by simp; rfl⟩, _, _, rfl, fun _ _ e => e⟩
  · intro D h' tk ys vs hD hpl hlen hj hF F₃ N₃ hk₃
    refine hret D ys h' tk ?_ ?_ hpl ?_
    · intro b o e; exact F₃.keep b o e
    · exact hD
    · have := paired_ints (k := 0) hlen (by simpa using hj) hF
      rw [rowOf, List.range_eq_range']
      exact this

def figs (d : Int) : List Int := (List.range 3).map fun i => Int.fmod (Int.fdiv (Int.fdiv d 192) (5 ^ i)) 5
def names3 : List Str := [Str.ofString "1", Str.ofString "a", Str.ofString ""]
def bookOf (d : Int) : List (Str × Int) := (names3.zip (figs d)).filter fun p => p.2 < 4
theorem len_three {α : Type} {l : List α} (h : l.length = 3) : ∃ a b c, l = [a, b, c] := by
  match l, h with
  | [a, b, c], _ => exact ⟨a, b, c, rfl⟩
theorem storedAll_paired {K : Type} [DecidableEq K] {FK : Value → K → Prop} {FV : Value → Value → Prop} {kf : Value → K} {vf : Value → Int} (hk : ∀ v k, FK v k → k = kf v) (hv : ∀ v y, FV v y → ∃ t, y = Value.int (vf v) t)
    {l : List Value} {kvs : List (K × Value)} (h : StoredAll FK FV l kvs) : (l.map kf).Nodup → Paired (fun p (q : K × Int) => p.1 = q.1 ∧ ∃ t, p.2 = Value.int q.2 t) kvs (l.map fun v => (kf v, vf v)) := by
  induction h with
  | nil => intro _; exact .nil
  | @snoc l kvs v k y _ h1 h2 ih =>
    intro hn
    rw [List.map_append, List.nodup_append] at hn
    have ih' := ih hn.1
    have ek := hk _ _ h1
    have keys : ∀ {kvs : List (K × Value)} {l : List Value}, Paired (fun p (q : K × Int) => p.1 = q.1 ∧ ∃ t, p.2 = Value.int q.2 t) kvs (l.map fun v => (kf v, vf v)) → ∀ kv ∈ kvs, kv.1 ∈ l.map kf := by
      intro kvs l hp
      generalize hq : (l.map fun v => (kf v, vf v)) = qs at hp
      induction hp generalizing l with
      | nil => intro kv hm; cases hm
      | cons hh _ ihp =>
        intro kv hm
        cases l with
        | nil => cases hq
        | cons v0 l0 =>
          simp only [List.map_cons, List.cons.injEq] at hq
          rcases List.mem_cons.mp hm with rfl | hm
          · rw [hh.1, ← hq.1]; exact List.mem_cons_self
          · exact List.mem_cons_of_mem _ (ihp hq.2 kv hm)
    have hno : kvs.any (fun kv => kv.1 = k) = false := by
      rw [List.any_eq_false]
      intro kv hm e
      have e' : kv.1 = k := by simpa using e
      have := keys ih' kv hm
      rw [e', ek] at this
      exact hn.2.2 _ this (kf v) (by simp) rfl
    rw [stored, hno, List.map_append]
    simp only [Bool.false_eq_true, if_false]
    exact Paired.snoc ih' ⟨ek, hv _ _ h2⟩
theorem book_c {w : World} {p : Program} {loose : List Str} {mean : ExcName → Option Value} {mg mb : Str → Option Value} {dp un : Nat} {gd : Option (List Code)} {cn : Str} {cs : Scope} {a : Addr} {ccd : Value} {cl : List (Str × Addr)} {outer : List Env} {A₀ : Around} {base h₀ : Heap} {L : Addr} {m : Str → Option Value} {s : Shared} {Q E : Value → Shared → Prop} (d : Int) (t : Tok) (G : Gd 2 w p loose mean mg mb dp un cs outer A₀ base h₀ L m s.heap)
    (hret : ∀ r kvs h' tk', (∀ b o, s.heap.get? b = some o → h'.get? b = some o) → s.heap.get? r = none → h'.DictOf (strKind PG w) r kvs → Paired (fun p q => p.1 = q.1 ∧ ∃ t, p.2 = .int q.2 t) kvs (bookOf d) → Q (.ref r) { s with heap := h', toks := tk' }) :
    wpAny (model PG w) (ktrTop dp un gd cn cs L a ccd cl outer) (call (.ref 123) [.int d t]) Q E s := by
  obtain ⟨B, F, X, T, hk, hd, hu⟩ := G
  refine wpAny_call ?_
  k_dflt (refine' enterC ?k1 ?k2 ?k3 ?k5 ?kA ?kF ?kK ?k6 ?k7 ?k8 ?k9 ?kB ?kD ?_ ?c2 ?c3 ?c4; (case kA => exact rfl); (case kF => exact rfl); (case kK => assumption); (case k1 => k_asm); (case k2 => k_asm); (case k3 => k_asm); (case k5 => k_asm); (case k6 => k_is); (case k7 => k_is); (case k8 => ktr_room); (case k9 => exact BindsTo.of_eq rfl); (case kB => exact rfl); (case kD => decide +kernel); (case c2 => exact rfl); (case c3 => exact rfl); (case c4 => exact rfl); k_whole)
  intro L1 h1 tk1 cells1 F1 N1 Y1 B1 X1 T1
  obtain ⟨o1, o2, hE1, d1, d2⟩ := CellsAre.two Y1
  subst hE1; clear Y1
  replace d1 : o1.data = .cell none := d1
  replace d2 : o2.data = .cell (some (.int d t)) := d2
  iterate 2 (first | walk1 | (dsimp only; walk1))
  k_fold
  refine wpAny_ListComp_free (fun _ => true) (fun v y => ∃ (i : Nat) (t t' : Tok), v = Value.int i t ∧ y = Value.int (Int.fmod (Int.fdiv (Int.fdiv d 192) (5 ^ i)) 5) t') (by with_unfolding_all rfl) (by decide) (by rfl) (by decide) (by rfl) ?_
  iterate 7 (first | walk1 | (dsimp only; walk1))
  rename_i hR FR NR kR
  refine src_range (b := 3) (n := 3) rfl FR NR hR (by rfl) (by omega) ?_ ?_ ?_
  · intro C oC i t s₃ m₃ E' hi hoC hx F₃ N₃ hk₃
    exact forIn_nil ⟨rfl, _, _, rfl, fun _ _ e => e⟩
  · intro C oC i t s₃ m₃ E' hi hp hoC hx F₃ N₃ hk₃
    iterate 9 (first | walk1 | (dsimp only; walk1))
    refine pow_int_small (by omega) (by omega) (by decide) ?_
    have hpos : (5 : Int) ^ (i : Int).toNat ≠ 0 := Int.pow_ne_zero (by decide)
    refine floordiv_int hpos ?_ (Or.inl (PyProof.noPylong_small (by rcases (show i = 0 ∨ i = 1 ∨ i = 2 by omega) with rfl | rfl | rfl <;> decide)))
    iterate 2 (first | walk1 | (dsimp only; walk1))
    exact ⟨⟨i, t, _, rfl, by simp; rfl⟩, _, _, rfl, fun _ _ e => e⟩
  intro D h' tk ys vs hD hpl hlen hj hF F₃ N₃ hk₃
  have hI : IntsAre ys.toList (figs d) := by
    have := paired_ints (k := 0) hlen (by simpa using hj) hF
    rw [figs, List.range_eq_range']
    exact this
  obtain ⟨nD, eD⟩ := hpl
  have N₄ := News.more F₃ N₃ eD (fun es n q => by cases q) hD
  clear N₃ NR FR hR kR hk₃
  k_unmd
  k_unfold
  iterate 3 (first | walk1 | (dsimp only; walk1))
  k_fold
  refine wpAny_DictComp_free (strKind PG w) (fun v => match v with | .int i _ => decide ((figs d)[i.toNat]! < 4) | _ => false) (fun v k => ∃ (i : Nat) (t : Tok), v = .int i t ∧ names3[i]? = some k) (fun v y => ∃ (i : Nat) (t t' : Tok), v = .int i t ∧ y = .int (figs d)[i]! t') (by with_unfolding_all rfl) (by decide) (by rfl) (by decide) (by rfl) ?_
  iterate 7 (first | walk1 | (dsimp only; walk1))
  rename_i hC2 hR FR NR kR
  simp only [List.cons_append, List.nil_append] at NR
  have hfl : (figs d).length = 3 := by simp [figs]
  have hfig : ∀ {h : Heap} {nn : List (Addr × Obj)}, News s.heap L1 h ((D, { cls := Value.type "list", data := Data.seq ys nD }) :: nn) → h.IsList D ys := fun N => ⟨_, (N _ (.head _)).1, rfl, nD, rfl⟩
  have hat : ∀ {i : Nat}, i < 3 → ∃ t, ys[i]? = some (.int (figs d)[i]! t) := fun {i} hi => by
    have e : (figs d)[i]? = some (figs d)[i]! := by
      rw [List.getElem!_eq_getElem?_getD, List.getElem?_eq_getElem (by omega)]; rfl
    obtain ⟨t, ht⟩ := ints_at hI e
    exact ⟨t, by simpa using ht⟩
  refine src_rangeD (b := 3) (n := 3) rfl FR NR hR (by rfl) (by omega) ?_ ?_ ?_ ?_
  · intro C i t s₃ m₃ E' hi hns hx F₃ N₃ hk₃
    obtain ⟨t9, ht9⟩ := hat hi
    refine tests_one ?_
    iterate 3 (first | walk1 | (dsimp only; walk1))
    refine ldVarK hns hx ?_
    refine item_at (hfig N₃) (by omega) (by omega) ht9 ?_
    iterate 3 (first | walk1 | (dsimp only; walk1))
    exact ⟨by simp, _, _, rfl, fun _ _ e => e⟩
  · intro C i t s₃ m₃ E' hi hp hns hx F₃ N₃ hk₃
    iterate 9 (first | walk1 | (dsimp only; walk1))
    refine wpAny_newObj_type ?_ (by show _ ≤ sizeLine; rw [sizeLine_eq]; simp)
    refine ldVarK (hns.push _) hx ?_
    have hi' : i = 0 ∨ i = 1 ∨ i = 2 := by omega
    obtain ⟨x9, t9, h9, n9⟩ : ∃ (x : Str) (t : Tok), ([Value.str (Str.ofString "1") s₃.toks, Value.str (Str.ofString "a") (s₃.toks + 1), Value.str (Str.ofString "") (s₃.toks + 1 + 1)].toArray)[((i : Int)).toNat]? = some (Value.str x t) ∧ names3[i]? = some x := by
      rcases hi' with rfl | rfl | rfl
      · exact ⟨_, _, rfl, rfl⟩
      · exact ⟨_, _, rfl, rfl⟩
      · exact ⟨_, _, rfl, rfl⟩
    refine item_at ⟨_, Heap.get?_push_size _ rfl, rfl, _, rfl⟩ (by omega) (by omega) h9 ?_
    exact ⟨⟨x9, strKind_is PG w x9 t9, i, t, rfl, n9⟩, _, _, rfl, fun _ _ e => Heap.get?_push_of_some _ e⟩
  · intro C i t s₃ m₃ E' hi hp hns hx F₃ N₃ hk₃
    obtain ⟨t9, ht9⟩ := hat hi
    iterate 2 (first | walk1 | (dsimp only; walk1))
    refine ldVarK hns hx ?_
    refine item_at (hfig N₃) (by omega) (by omega) ht9 ?_
    exact ⟨⟨i, t, t9, rfl, rfl⟩, _, _, rfl, fun _ _ e => e⟩
  · intro D2 h2 tk2 kvs vs2 hD2 hd2 hlen2 hj2 hS F₃ N₃ hk₃
    k_unmd
    k_unfold
    refine hret D2 kvs h2 tk2 (fun b o e => F₃.keep b o e) hD2 hd2 ?_
    have hS' := storedAll_paired (kf := fun v => match v with | .int i _ => names3[i.toNat]! | _ => default) (vf := fun v => match v with | .int i _ => (figs d)[i.toNat]! | _ => 0)
      (fun v k hvk => by obtain ⟨i, t, rfl, e⟩ := hvk; simp [List.getElem!_eq_getElem?_getD, e])
      (fun v y hvy => by obtain ⟨i, t, t', rfl, rfl⟩ := hvy; exact ⟨t', by simp⟩) hS
    obtain ⟨v0, v1, v2, rfl⟩ := len_three hlen2
    obtain ⟨t0, rfl⟩ := hj2 0 v0 rfl
    obtain ⟨t1, rfl⟩ := hj2 1 v1 rfl
    obtain ⟨t2, rfl⟩ := hj2 2 v2 rfl
    obtain ⟨f0, f1, f2, hf⟩ : ∃ f0 f1 f2, figs d = [f0, f1, f2] := ⟨_, _, _, rfl⟩
    rw [bookOf, hf]
    rw [hf] at hS'
    by_cases c0 : f0 < 4 <;> by_cases c1 : f1 < 4 <;> by_cases c2 : f2 < 4 <;>
      simpa [names3, List.filter_cons, c0, c1, c2] using hS' (by simp [List.filter_cons, c0, c1, c2, names3]; try decide)

def IsKey (v : Value) : Prop := (∃ k t, v = .int k t ∧ -3 ≤ k ∧ k ≤ 2) ∨ v = .bool true ∨ (∃ x t, v = .str x t ∧ (x = Str.ofString "1" ∨ x = Str.ofString "a" ∨ x = Str.ofString "")) ∨ v = .none
theorem paired_all {F : Value → Value → Prop} {P : Value → Prop} (hF : ∀ v y, F v y → P y) {vs ys : List Value} (h : Paired F vs ys) : ys.length = vs.length ∧ ∀ y ∈ ys, P y := by
  induction h with
  | nil => exact ⟨rfl, fun y hy => nomatch hy⟩
  | cons h1 _ ih =>
    refine ⟨by simp [ih.1], fun y hy => ?_⟩
    rcases List.mem_cons.mp hy with rfl | hy
    · exact hF _ _ h1
    · exact ih.2 y hy
theorem kinds_at (t0 t1 t2 t3 t4 t5 t6 t7 t8 : Tok) : ∀ n : Nat, n < 11 → ∃ v, (#[Value.int 0 t0, Value.int 1 t1, Value.int 2 t2, Value.int (-1) t3, Value.int (-2) t4, Value.int (-3) t5, Value.bool true, Value.str (Str.ofString "1") t6, Value.str (Str.ofString "a") t7, Value.str (Str.ofString "") t8, Value.none])[n]? = some v ∧ IsKey v
  | 0, _ => ⟨_, rfl, .inl ⟨_, _, rfl, by decide, by decide⟩⟩
  | 1, _ => ⟨_, rfl, .inl ⟨_, _, rfl, by decide, by decide⟩⟩
  | 2, _ => ⟨_, rfl, .inl ⟨_, _, rfl, by decide, by decide⟩⟩
  | 3, _ => ⟨_, rfl, .inl ⟨_, _, rfl, by decide, by decide⟩⟩
  | 4, _ => ⟨_, rfl, .inl ⟨_, _, rfl, by decide, by decide⟩⟩
  | 5, _ => ⟨_, rfl, .inl ⟨_, _, rfl, by decide, by decide⟩⟩
  | 6, _ => ⟨_, rfl, .inr (.inl rfl)⟩
  | 7, _ => ⟨_, rfl, .inr (.inr (.inl ⟨_, _, rfl, .inl rfl⟩))⟩
  | 8, _ => ⟨_, rfl, .inr (.inr (.inl ⟨_, _, rfl, .inr (.inl rfl)⟩))⟩
  | 9, _ => ⟨_, rfl, .inr (.inr (.inl ⟨_, _, rfl, .inr (.inr rfl)⟩))⟩
  | 10, _ => ⟨_, rfl, .inr (.inr (.inr rfl))⟩
  | n + 11, h => absurd h (by omega)
theorem keys_c {w : World} {p : Program} {loose : List Str} {mean : ExcName → Option Value} {mg mb : Str → Option Value} {dp un : Nat} {gd : Option (List Code)} {cn : Str} {cs : Scope} {a : Addr} {ccd : Value} {cl : List (Str × Addr)} {outer : List Env} {A₀ : Around} {base h₀ : Heap} {L : Addr} {m : Str → Option Value} {s : Shared} {Q E : Value → Shared → Prop} (d : Int) (t : Tok) (G : Gd 2 w p loose mean mg mb dp un cs outer A₀ base h₀ L m s.heap)
    (hret : ∀ r vs h' tk', (∀ b o, s.heap.get? b = some o → h'.get? b = some o) → s.heap.get? r = none → h'.PlainList r vs → vs.size = 5 → (∀ v ∈ vs.toList, IsKey v) → Q (.ref r) { s with heap := h', toks := tk' }) :
    wpAny (model PG w) (ktrTop dp un gd cn cs L a ccd cl outer) (call (.ref 128) [.int d t]) Q E s := by
  obtain ⟨B, F, X, T, hk, hd, hu⟩ := G
  refine wpAny_call ?_
  k_dflt (refine' enterC ?k1 ?k2 ?k3 ?k5 ?kA ?kF ?kK ?k6 ?k7 ?k8 ?k9 ?kB ?kD ?_ ?c2 ?c3 ?c4; (case kA => exact rfl); (case kF => exact rfl); (case kK => assumption); (case k1 => k_asm); (case k2 => k_asm); (case k3 => k_asm); (case k5 => k_asm); (case k6 => k_is); (case k7 => k_is); (case k8 => ktr_room); (case k9 => exact BindsTo.of_eq rfl); (case kB => exact rfl); (case kD => decide +kernel); (case c2 => exact rfl); (case c3 => exact rfl); (case c4 => exact rfl); k_whole)
  intro L1 h1 tk1 cells1 F1 N1 Y1 B1 X1 T1
  obtain ⟨o1, o2, hE1, d1, d2⟩ := CellsAre.two Y1
  subst hE1; clear Y1
  replace d1 : o1.data = .cell none := d1
  replace d2 : o2.data = .cell (some (.int d t)) := d2
  iterate 37 (first | walk1 | (dsimp only; walk1))
  k_fold
  refine wpAny_ListComp_free (fun _ => true) (fun v y => IsKey y) (by with_unfolding_all rfl) (by decide) (by rfl) (by decide) (by rfl) ?_
  iterate 7 (first | walk1 | (dsimp only; walk1))
  rename_i hR FR NR kR
  refine src_range (b := 5) (n := 5) rfl FR NR hR (by rfl) (by omega) ?_ ?_ ?_
  · intro C oC i t s₃ m₃ E' hi hoC hx F₃ N₃ hk₃
    exact forIn_nil ⟨rfl, _, _, rfl, fun _ _ e => e⟩
  · intro C oC i t s₃ m₃ E' hi hp hoC hx F₃ N₃ hk₃
    iterate 8 (first | walk1 | (dsimp only; walk1))
    refine pow_int_small (by omega) (by omega) (by decide) ?_
    have hpos : (11 : Int) ^ (i : Int).toNat ≠ 0 := Int.pow_ne_zero (by decide)
    refine floordiv_int hpos ?_ (Or.inl (PyProof.noPylong_small (by rcases (show i = 0 ∨ i = 1 ∨ i = 2 ∨ i = 3 ∨ i = 4 by omega) with rfl | rfl | rfl | rfl | rfl <;> decide)))
    iterate 2 (first | walk1 | (dsimp only; walk1))
    have hm := fdiv_fmod_facts (d.fdiv (11 ^ (i : Int).toNat)) 11
    generalize (d.fdiv (11 ^ (i : Int).toNat)).fmod 11 = z at hm ⊢
    have hz : 0 ≤ z ∧ z < 11 := hm.2.2.1 (by decide)
    have hL9 : s₃.heap.IsList _ _ := ⟨_, (N₃ _ (.tail _ (.head _))).1, rfl, 0, rfl⟩
    obtain ⟨v9, e9, k9⟩ := kinds_at tk1 (tk1 + 1) (tk1 + 1 + 1) (tk1 + 1 + 1 + 1 + 1) (tk1 + 1 + 1 + 1 + 1 + 1 + 1) (tk1 + 1 + 1 + 1 + 1 + 1 + 1 + 1 + 1) (tk1 + 1 + 1 + 1 + 1 + 1 + 1 + 1 + 1 + 1) (tk1 + 1 + 1 + 1 + 1 + 1 + 1 + 1 + 1 + 1 + 1) (tk1 + 1 + 1 + 1 + 1 + 1 + 1 + 1 + 1 + 1 + 1 + 1) z.toNat (by omega)
    refine item_at hL9 hz.1 (by omega) e9 ?_
    exact ⟨k9, _, _, rfl, fun _ _ e => e⟩
  · intro D h' tk ys vs hD hpl hlen hj hF F₃ N₃ hk₃
    k_unmd
    k_unfold
    have hall := paired_all (P := IsKey) (fun v y h => h) hF
    refine hret D ys h' tk (fun b o e => F₃.keep b o e) hD hpl ?_ hall.2
    have := hall.1
    rw [filter_tt] at this
    simpa [hlen] using this

theorem paired_all' {vs ys : List Value} (h : Paired (fun _ y => ∃ n t', y = Value.int n t') vs ys) : ∀ y ∈ ys, ∃ n t', y = Value.int n t' := by
  induction h with
  | nil => intro y hy; cases hy
  | cons h1 _ ih =>
    intro y hy
    rcases List.mem_cons.mp hy with rfl | hy
    · exact h1
    · exact ih y hy
theorem heap_c {w : World} {p : Program} {loose : List Str} {mean : ExcName → Option Value} {mg mb : Str → Option Value} {dp un : Nat} {gd : Option (List Code)} {cn : Str} {cs : Scope} {a : Addr} {ccd : Value} {cl : List (Str × Addr)} {outer : List Env} {A₀ : Around} {base h₀ : Heap} {L : Addr} {m : Str → Option Value} {s : Shared} {Q E : Value → Shared → Prop} (sa : Addr) (vs : List Value) (ns : List Int) (k d : Int) (t u : Tok) (G : Gd 2 w p loose mean mg mb dp un cs outer A₀ base h₀ L m s.heap) (hl : s.heap.IsList sa vs.toArray) (hi : IntsAre vs ns) (hlen : ns.length ≤ 63) (hk0 : 0 ≤ k) (hk5 : k < 5) (hd0 : 0 ≤ d) (hd1 : d < 100000)
    (hret : ∀ n t' h' tk', (∀ b o, s.heap.get? b = some o → h'.get? b = some o) → Q (.int n t') { s with heap := h', toks := tk' }) :
    wpAny (model PG w) (ktrTop dp un gd cn cs L a ccd cl outer) (call (.ref 113) [.ref sa, .int k t, .int d u]) Q E s := by
  obtain ⟨B, F, X, T, hk, hd, hu⟩ := G
  refine wpAny_call ?_
  k_dflt (refine' enterP ?k1 ?k2 ?k3 ?k5 ?kA ?kF ?kK ?k6 ?k7 ?k8 ?k9 ?kB ?_ ?c2 ?c3 ?c4 ?c5; (case kA => exact rfl); (case kF => exact rfl); (case kK => assumption); (case k1 => k_asm); (case k2 => k_asm); (case k3 => k_asm); (case k5 => k_asm); (case k6 => k_is); (case k7 => k_is); (case k8 => ktr_room); (case k9 => exact BindsTo.of_eq rfl); (case c5 => decide); (case kB => exact locs rfl); (case c2 => exact rfl); (case c3 => exact rfl); (case c4 => exact rfl); k_whole)
  intro L1 h1 F1 N1 B1 X1 T1
  iterate 9 (first | walk1 | (dsimp only; walk1))
  k_fold
  refine wpAny_ListComp_free (fun _ => true) (fun v y => ∃ n t', y = Value.int n t') (by with_unfolding_all rfl) (by decide) (by rfl) (by decide) (by rfl) ?_
  iterate 10 (first | walk1 | (dsimp only; walk1))
  rename_i FR NR
  have hpk := IntsAre.pick hi (some k) (some 63) (some 5)
  have hL9 := (⟨_, (NR _ (.head _)).1, rfl, _, rfl⟩ : Heap.IsList _ _ (slicePick vs.toArray (some k) (some 63) (some 5)))
  have hsz := slicePick_size_le vs.toArray (some k) (some 63) (some 5)
  have hvl := hi.length
  have hsz' : (slicePick vs.toArray (some k) (some 63) (some 5)).size ≤ vs.length := by simpa using hsz
  refine src_list rfl FR NR hL9 (by rw [sizeLine_eq]; omega) ?_ ?_ ?_
  · intro C oC i v s₃ m₃ E' hv hoC hx F₃ N₃ hk₃
    exact forIn_nil ⟨rfl, _, _, rfl, fun _ _ e => e⟩
  · intro C oC i v s₃ m₃ E' hv hp hoC hx F₃ N₃ hk₃
    obtain ⟨n9, t9, rfl⟩ : ∃ n t, v = Value.int n t := by
      have hm : v ∈ (slicePick vs.toArray (some k) (some 63) (some 5)).toList := by simpa using Array.mem_of_getElem? hv
      revert hm hpk
      generalize (slicePick vs.toArray (some k) (some 63) (some 5)).toList = l
      intro hpk hm
      clear hx hv
      generalize pickNums ns (some k) (some 63) (some 5) = q at hpk
      induction hpk with
      | nil => cases hm
      | cons a b _ ih => rcases List.mem_cons.mp hm with rfl | hm; exact ⟨a, b, rfl⟩; exact ih hm
    iterate 7 (first | walk1 | (dsimp only; walk1))
    exact ⟨⟨_, _, rfl⟩, _, _, rfl, fun _ _ e => e⟩
  · intro D h' tk ys vs2 hD hpl hlen2 hj hF F₃ N₃ hk₃
    have hall := (paired_all' hF)
    k_unmd
    k_unfold
    iterate 1 (first | walk1 | (dsimp only; walk1))
    refine call_sum_walkG ?_
    have hlD := hpl.isList
    have hltD : D < h'.objs.size := by obtain ⟨_, e, _⟩ := hlD; exact Heap.lt_size e
    refine wpAny_pyIter_list hlD ⟨_, _, _, _, _, _, fun i => match ys[i]? with | some (.int n _) => n | _ => 0, rfl, Walks.list rfl _ D (Nat.ne_of_lt hltD) ys, ⟨⟨_, Heap.get?_push_size _ rfl, rfl, rfl⟩, hlD.push _⟩, ?_, ?_, ?_⟩
    · intro b hb
      show b < (Heap.push _ _).objs.size
      rw [Heap.size_push]
      rcases List.mem_cons.mp hb with rfl | hb
      · exact Nat.lt_succ_self _
      · rw [List.mem_singleton.mp hb]; exact Nat.lt_succ_of_lt hltD
    · intro i v hv
      obtain ⟨n, t, rfl⟩ := hall v (by simpa using Array.mem_of_getElem? hv)
      exact ⟨t, by dsimp only; rw [hv]⟩
    · intro h'' tk'' t'' hk''
      iterate 1 (first | walk1 | (dsimp only; walk1))
      refine hret _ _ h'' _ fun b o e => hk'' b o (fun hm => ?_) (Heap.get?_push_of_some _ (F₃.keep b o e))
      rw [List.mem_singleton.mp hm] at e
      exact Nat.lt_irrefl _ (Heap.lt_size (F₃.keep _ _ e))

theorem paired_ints_f {f : Nat → Int} {p : Value → Bool} {q : Nat → Bool} (hpq : ∀ (i : Nat) t, p (.int i t) = q i) : ∀ {n k : Nat} {vs ys : List Value}, vs.length = n → (∀ (j : Nat) v, vs[j]? = some v → ∃ t, v = .int (k + j : Nat) t) →
    Paired (fun v y => ∃ (i : Nat) (t t' : Tok), v = Value.int i t ∧ y = Value.int (f i) t') (vs.filter p) ys → IntsAre ys (((List.range' k n).filter q).map f)
  | 0, _, [], _, _, _, h => by cases h; exact .nil
  | n + 1, k, v :: vs, ys, hl, hv, h => by
    obtain ⟨t2, e2⟩ := hv 0 v rfl
    have e3 : v = .int (k : Nat) t2 := by rw [e2]; simp
    subst e3
    have ih := fun ys h => paired_ints_f (f := f) (q := q) hpq (n := n) (k := k + 1) (vs := vs) (ys := ys) (by simpa using hl) (fun j v hj => by
      obtain ⟨t, e⟩ := hv (j + 1) v (by simpa using hj)
      exact ⟨t, by rw [e]; congr 1; omega⟩) h
    rw [List.filter_cons, hpq] at h
    rw [List.range'_succ, List.filter_cons]
    cases hq : q k with
    | false =>
      rw [hq] at h
      simp only [Bool.false_eq_true, if_false] at h ⊢
      exact ih _ h
    | true =>
      rw [hq] at h
      simp only [if_true] at h ⊢
      cases h with
      | cons h1 h2 =>
        obtain ⟨i, t, t', e1, rfl⟩ := h1
        have hi : i = k := by have := Value.int.inj e1; omega
        subst hi
        rw [List.map_cons]
        exact .cons _ _ (ih _ h2)
def pick (ns : List Int) (k : Int) : Option Int := if 0 ≤ k then ns[k.toNat]? else if 0 ≤ k + ns.length then ns[(k + ns.length).toNat]? else none
def fsI (ns : List Int) (k : Int) : List Int := ((List.range ns.length).filter fun (i : Nat) => decide ((i : Int) = k ∨ (i : Int) - ns.length = k)).map fun i => ns[i]!
theorem fsI_head (ns : List Int) (k : Int) : (fsI ns k).head? = pick ns k := by
  unfold fsI pick
  rw [List.head?_map, List.head?_filter]
  by_cases h0 : 0 ≤ k
  · rw [if_pos h0]
    by_cases h1 : k.toNat < ns.length
    · have hf : (List.range ns.length).find? (fun (i : Nat) => decide ((i : Int) = k ∨ (i : Int) - ns.length = k)) = some k.toNat := by
        rw [List.find?_range_eq_some]
        refine ⟨?_, ?_, ?_⟩
        · simp; omega
        · simpa using h1
        · intro j hj; simp; omega
      rw [hf, List.getElem?_eq_getElem h1]
      simp [h1]
    · have hf : (List.range ns.length).find? (fun (i : Nat) => decide ((i : Int) = k ∨ (i : Int) - ns.length = k)) = none := by
        rw [List.find?_eq_none]
        intro j hj
        have := List.mem_range.mp hj
        simp; omega
      rw [hf, List.getElem?_eq_none (by omega)]; rfl
  · rw [if_neg h0]
    by_cases h1 : 0 ≤ k + ns.length
    · rw [if_pos h1]
      have h2 : (k + ns.length).toNat < ns.length := by omega
      have hf : (List.range ns.length).find? (fun (i : Nat) => decide ((i : Int) = k ∨ (i : Int) - ns.length = k)) = some (k + ns.length).toNat := by
        rw [List.find?_range_eq_some]
        refine ⟨?_, ?_, ?_⟩
        · simp; omega
        · simpa using h2
        · intro j hj; simp; omega
      rw [hf, List.getElem?_eq_getElem h2]
      simp [h2]
    · rw [if_neg h1]
      have hf : (List.range ns.length).find? (fun (i : Nat) => decide ((i : Int) = k ∨ (i : Int) - ns.length = k)) = none := by
        rw [List.find?_eq_none]
        intro j hj
        have := List.mem_range.mp hj
        simp; omega
      rw [hf]; rfl

def look (key : Value) (ns : List Int) (bk : List (Str × Int)) : Except Bool Int := match key with
  | .int k _ => (match pick ns k with | some n => .ok n | none => .error true)
  | .bool b => (match pick ns (if b then 1 else 0) with | some n => .ok n | none => .error true)
  | .str x _ => (match bk.lookup x with | some n => .ok n | none => .error false)
  | _ => .error false
def OutIs (r : Except Bool Int) (v : Value) : Prop := match r with
  | .ok n => ∃ t, v = .int n t
  | .error true => ∃ t, v = .str (Str.ofString "IndexError") t
  | .error false => ∃ t, v = .str (Str.ofString "KeyError") t
def BookAt (w : World) (h : Heap) (a : Addr) (bk : List (Str × Int)) : Prop := (a == sysModules) = false ∧ ∃ kvs, h.DictOf (strKind PG w) a kvs ∧ Paired (fun p (q : Str × Int) => p.1 = q.1 ∧ ∃ t, p.2 = Value.int q.2 t) kvs bk
theorem reads_ints {h : Heap} {vs : List Value} {ns : List Int} (x : IntsAre vs ns) : ReadsAll h vs (ns.map PyData.int) [] := by
  induction x with
  | nil => exact .nil
  | cons n t _ ih => exact ReadsAll.cons (as := []) (.int n t) ih
theorem reads_list {h : Heap} {D : Addr} {ys : List Value} {n : Nat} {ds : List PyData} {as : List Addr} (e : h.get? D = some { cls := .type "list", data := .seq ys.toArray n }) (r : ReadsAll h ys ds as) : Reads h (.ref D) (.list ds) (D :: as) :=
  Reads.list e rfl rfl (by simpa using r)
theorem shaped_ints (ns : List Int) : SeqAt.shaped (.list (ns.map PyData.int)) = true := by
  have h1 : ∀ ns : List Int, PyData.canLayAll0 (ns.map PyData.int) = true ∧ PyData.depthAll (ns.map PyData.int) ≤ 0 := fun ns => by
    induction ns with
    | nil => simp [PyData.canLayAll0, PyData.depthAll]
    | cons n ns ih => simp [PyData.canLayAll0, PyData.depthAll, PyData.canLay0, PyData.depth, ih.1, Nat.le_zero.mp ih.2]
  have := h1 ns
  unfold SeqAt.shaped
  simp only [PyData.canLay0, PyData.depth, this.1, Nat.le_zero.mp this.2, Bool.true_and]
  decide
theorem eqv_nil (ns : List Int) : PyData.eqv (.list (ns.map PyData.int)) (.list []) = ns.isEmpty := by
  cases ns <;> simp [PyData.eqv, PyData.eqvAll]
theorem next_int {w : World} {p : Program} {loose : List Str} {mean : ExcName → Option Value} {mg mb : Str → Option Value} {dp un : Nat} {gd : Option (List Code)} {cn : Str} {cs : Scope} {a : Addr} {ccd : Value} {cl : List (Str × Addr)} {outer : List Env} {A₀ : Around} {base h₀ : Heap} {L : Addr} {m : Str → Option Value} {s : Shared} {Q E : Value → Shared → Prop} (ra ba : Addr) (vs : List Value) (ns : List Int) (k : Int) (t : Tok) (G : Gd 2 w p loose mean mg mb dp un cs outer A₀ base h₀ L m s.heap) (hl : s.heap.IsList ra vs.toArray) (hi : IntsAre vs ns) (hlen : ns.length ≤ 1000) (hk0 : -3 ≤ k) (hk5 : k ≤ 2)
    (hret : ∀ v h' tk', (∀ b o, s.heap.get? b = some o → h'.get? b = some o) → OutIs (look (.int k t) ns []) v → Q v { s with heap := h', toks := tk' }) :
    wpAny (model PG w) (ktrTop dp un gd cn cs L a ccd cl outer) (call (.ref 133) [.int k t, .ref ra, .ref ba]) Q E s := by
  obtain ⟨B, F, X, T, hk, hd, hu⟩ := G
  have hat : ∀ {i : Nat}, i < ns.length → ∃ t, vs.toArray[i]? = some (.int ns[i]! t) := fun {i} hj => by
    have e : ns[i]? = some ns[i]! := by rw [List.getElem!_eq_getElem?_getD, List.getElem?_eq_getElem hj]; rfl
    obtain ⟨t, ht⟩ := ints_at hi e
    exact ⟨t, by simpa using ht⟩
  have hvl := hi.length
  refine wpAny_call ?_
  k_dflt (refine' enterC ?k1 ?k2 ?k3 ?k5 ?kA ?kF ?kK ?k6 ?k7 ?k8 ?k9 ?kB ?kD ?_ ?c2 ?c3 ?c4; (case kA => exact rfl); (case kF => exact rfl); (case kK => assumption); (case k1 => k_asm); (case k2 => k_asm); (case k3 => k_asm); (case k5 => k_asm); (case k6 => k_is); (case k7 => k_is); (case k8 => ktr_room); (case k9 => exact BindsTo.of_eq rfl); (case kB => exact rfl); (case kD => decide +kernel); (case c2 => exact rfl); (case c3 => exact rfl); (case c4 => exact rfl); k_whole)
  intro L1 h1 tk1 cells1 F1 N1 Y1 B1 X1 T1
  obtain ⟨o1, o2, o3, hE1, d1, d2, d3⟩ := CellsAre.three Y1
  subst hE1; clear Y1
  replace d1 : o1.data = .cell (some (.ref ba)) := d1
  replace d2 : o2.data = .cell (some (.ref ra)) := d2
  replace d3 : o3.data = .cell (some (.int k t)) := d3
  iterate 27 (first | walk1 | (dsimp only; walk1))
  k_fold
  refine wpAny_Assign_ListComp_free (fun v => match v with | .int i _ => decide (i = k ∨ i - ns.length = k) | _ => false) (fun v y => ∃ (i : Nat) (t t' : Tok), v = .int i t ∧ y = .int ns[i]! t') (by rfl) (by with_unfolding_all rfl) (by decide) (by rfl) (by decide) (by rfl) (by rfl) (by rfl) ?_
  iterate 10 (first | walk1 | (dsimp only; walk1))
  have hl1 : h1.IsList ra vs.toArray := by obtain ⟨o, e, r⟩ := hl; exact ⟨o, F1.keep _ _ e, r⟩
  refine call_len_list hl1 (by rw [List.size_toArray]; omega) ?_
  iterate 2 (first | walk1 | (dsimp only; walk1))
  rename_i hR FR NR kR
  have hlR : ∀ {h : Heap}, (∀ b o, s.heap.get? b = some o → h.get? b = some o) → h.IsList ra vs.toArray := fun kp => by obtain ⟨o, e, r⟩ := hl; exact ⟨o, kp _ _ e, r⟩
  refine srcA_range (L := L1) rfl rfl FR NR hR rfl hlen ?_ ?_ ?_
  · intro C oC i t9 s₃ m₃ E' hi9 hoC hx F₃ N₃ hk₃
    refine tests_one ?_
    iterate 6 (first | walk1 | (dsimp only; walk1))
    by_cases hc : (i : Int) = k
    · rw [if_pos (by simpa using hc)]
      exact ⟨by simp [hc], _, _, rfl, fun _ _ e => e⟩
    · rw [if_neg (by simpa using hc)]
      iterate 10 (first | walk1 | (dsimp only; walk1))
      refine call_len_list (hlR F₃.keep) (by rw [List.size_toArray]; omega) ?_
      iterate 4 (first | walk1 | (dsimp only; walk1))
      by_cases hc2 : (i : Int) - (vs.toArray.size : Int) = k
      · rw [if_pos (by simpa using hc2)]
        refine ⟨?_, _, _, rfl, fun _ _ e => e⟩
        rw [List.size_toArray, hvl] at hc2
        simp [hc2]
      · rw [if_neg (by simpa using hc2)]
        iterate 1 (first | walk1 | (dsimp only; walk1))
        refine ⟨?_, _, _, rfl, fun _ _ e => e⟩
        rw [List.size_toArray, hvl] at hc2
        simp [hc, hc2]
  · intro C oC i t9 s₃ m₃ E' hi9 hp hoC hx F₃ N₃ hk₃
    obtain ⟨t8, e8⟩ := hat hi9
    iterate 3 (first | walk1 | (dsimp only; walk1))
    refine item_at (hlR F₃.keep) (by omega) (by omega) (v := .int ns[i]! t8) e8 ?_
    exact ⟨⟨i, t9, t8, rfl, rfl⟩, _, _, rfl, fun _ _ e => e⟩
  · intro D h' tk9 ys vs9 hD hpl hlen9 hj hF F₃ N₃
    obtain ⟨nD, eD⟩ := hpl
    have N₄ := News.more F₃ N₃ eD (fun es n q => by cases q) hD
    clear N₃ NR FR hR kR
    k_unmd
    k_unfold
    iterate 8 (first | walk1 | (dsimp only; walk1))
    rename_i l9 h9 F9 N9 l19
    have hI : IntsAre ys.toList (fsI ns k) := by
      have := paired_ints_f (q := fun (i : Nat) => decide ((i : Int) = k ∨ (i : Int) - ns.length = k)) (fun i t => rfl) (k := 0) hlen9 (by simpa using hj) hF
      rw [fsI, List.range_eq_range']
      exact this
    have hh := fsI_head ns k
    have r1 : Reads h9 (.ref D) (.list ((fsI ns k).map PyData.int)) [D] := reads_list (ys := ys.toList) (by simpa using (N9 _ (.tail _ (.head _))).1) (reads_ints hI)
    have r2 : Reads h9 (.ref l9) (.list []) [l9] := reads_list (ys := []) (N9 _ (.head _)).1 .nil
    refine ne_dataH r1 r2 (shaped_ints _) (shaped_ints []) (by show un + 3 + 64 < cLine; omega) ?_
    rw [eqv_nil]
    have hlD : h9.IsList D ys := ⟨_, (N9 _ (.tail _ (.head _))).1, rfl, _, rfl⟩
    cases hfs : fsI ns k with
    | nil =>
      rw [hfs] at hh
      iterate 3 (first | walk1 | (dsimp only; walk1))
      refine hret _ _ _ (fun b o e => F9.keep b o e) ?_
      simp only [look, ← hh]
      exact ⟨_, rfl⟩
    | cons f9 r9 =>
      rw [hfs] at hh hI
      simp only [List.isEmpty_cons, Bool.not_false]
      iterate 5 (first | walk1 | (dsimp only; walk1))
      obtain ⟨t8, e8⟩ := ints_at hI (i := 0) (n := f9) rfl
      refine item_at hlD (by decide) (by decide) (v := .int f9 t8) (by simpa using e8) ?_
      refine hret _ _ _ (fun b o e => F9.keep b o e) ?_
      simp only [look, ← hh]
      exact ⟨_, rfl⟩

theorem next_true {w : World} {p : Program} {loose : List Str} {mean : ExcName → Option Value} {mg mb : Str → Option Value} {dp un : Nat} {gd : Option (List Code)} {cn : Str} {cs : Scope} {a : Addr} {ccd : Value} {cl : List (Str × Addr)} {outer : List Env} {A₀ : Around} {base h₀ : Heap} {L : Addr} {m : Str → Option Value} {s : Shared} {Q E : Value → Shared → Prop} (ra ba : Addr) (vs : List Value) (ns : List Int) (G : Gd 2 w p loose mean mg mb dp un cs outer A₀ base h₀ L m s.heap) (hl : s.heap.IsList ra vs.toArray) (hi : IntsAre vs ns) (hlen : ns.length ≤ 1000)
    (hret : ∀ v h' tk', (∀ b o, s.heap.get? b = some o → h'.get? b = some o) → OutIs (look (.bool true) ns []) v → Q v { s with heap := h', toks := tk' }) :
    wpAny (model PG w) (ktrTop dp un gd cn cs L a ccd cl outer) (call (.ref 133) [.bool true, .ref ra, .ref ba]) Q E s := by
  obtain ⟨B, F, X, T, hk, hd, hu⟩ := G
  have hat : ∀ {i : Nat}, i < ns.length → ∃ t, vs.toArray[i]? = some (.int ns[i]! t) := fun {i} hj => by
    have e : ns[i]? = some ns[i]! := by rw [List.getElem!_eq_getElem?_getD, List.getElem?_eq_getElem hj]; rfl
    obtain ⟨t, ht⟩ := ints_at hi e
    exact ⟨t, by simpa using ht⟩
  have hvl := hi.length
  refine wpAny_call ?_
  k_dflt (refine' enterC ?k1 ?k2 ?k3 ?k5 ?kA ?kF ?kK ?k6 ?k7 ?k8 ?k9 ?kB ?kD ?_ ?c2 ?c3 ?c4; (case kA => exact rfl); (case kF => exact rfl); (case kK => assumption); (case k1 => k_asm); (case k2 => k_asm); (case k3 => k_asm); (case k5 => k_asm); (case k6 => k_is); (case k7 => k_is); (case k8 => ktr_room); (case k9 => exact BindsTo.of_eq rfl); (case kB => exact rfl); (case kD => decide +kernel); (case c2 => exact rfl); (case c3 => exact rfl); (case c4 => exact rfl); k_whole)
  intro L1 h1 tk1 cells1 F1 N1 Y1 B1 X1 T1
  obtain ⟨o1, o2, o3, hE1, d1, d2, d3⟩ := CellsAre.three Y1
  subst hE1; clear Y1
  replace d1 : o1.data = .cell (some (.ref ba)) := d1
  replace d2 : o2.data = .cell (some (.ref ra)) := d2
  replace d3 : o3.data = .cell (some (.bool true)) := d3
  iterate 27 (first | walk1 | (dsimp only; walk1))
  k_fold
  refine wpAny_Assign_ListComp_free (fun v => match v with | .int i _ => decide (i = 1 ∨ i - ns.length = 1) | _ => false) (fun v y => ∃ (i : Nat) (t t' : Tok), v = .int i t ∧ y = .int ns[i]! t') (by rfl) (by with_unfolding_all rfl) (by decide) (by rfl) (by decide) (by rfl) (by rfl) (by rfl) ?_
  iterate 10 (first | walk1 | (dsimp only; walk1))
  have hl1 : h1.IsList ra vs.toArray := by obtain ⟨o, e, r⟩ := hl; exact ⟨o, F1.keep _ _ e, r⟩
  refine call_len_list hl1 (by rw [List.size_toArray]; omega) ?_
  iterate 2 (first | walk1 | (dsimp only; walk1))
  rename_i hR FR NR kR
  have hlR : ∀ {h : Heap}, (∀ b o, s.heap.get? b = some o → h.get? b = some o) → h.IsList ra vs.toArray := fun kp => by obtain ⟨o, e, r⟩ := hl; exact ⟨o, kp _ _ e, r⟩
  refine srcA_range (L := L1) rfl rfl FR NR hR rfl hlen ?_ ?_ ?_
  · intro C oC i t9 s₃ m₃ E' hi9 hoC hx F₃ N₃ hk₃
    refine tests_one ?_
    iterate 6 (first | walk1 | (dsimp only; walk1))
    by_cases hc : (i : Int) = 1
    · rw [if_pos (by simpa using hc)]
      exact ⟨by simp [hc], _, _, rfl, fun _ _ e => e⟩
    · rw [if_neg (by simpa using hc)]
      iterate 10 (first | walk1 | (dsimp only; walk1))
      refine call_len_list (hlR F₃.keep) (by rw [List.size_toArray]; omega) ?_
      iterate 4 (first | walk1 | (dsimp only; walk1))
      by_cases hc2 : (i : Int) - (vs.toArray.size : Int) = 1
      · rw [if_pos (by simpa using hc2)]
        refine ⟨?_, _, _, rfl, fun _ _ e => e⟩
        rw [List.size_toArray, hvl] at hc2
        simp [hc2]
      · rw [if_neg (by simpa using hc2)]
        iterate 1 (first | walk1 | (dsimp only; walk1))
        refine ⟨?_, _, _, rfl, fun _ _ e => e⟩
        rw [List.size_toArray, hvl] at hc2
        simp [hc, hc2]
  · intro C oC i t9 s₃ m₃ E' hi9 hp hoC hx F₃ N₃ hk₃
    obtain ⟨t8, e8⟩ := hat hi9
    iterate 3 (first | walk1 | (dsimp only; walk1))
    refine item_at (hlR F₃.keep) (by omega) (by omega) (v := .int ns[i]! t8) e8 ?_
    exact ⟨⟨i, t9, t8, rfl, rfl⟩, _, _, rfl, fun _ _ e => e⟩
  · intro D h' tk9 ys vs9 hD hpl hlen9 hj hF F₃ N₃
    obtain ⟨nD, eD⟩ := hpl
    have N₄ := News.more F₃ N₃ eD (fun es n q => by cases q) hD
    clear N₃ NR FR hR kR
    k_unmd
    k_unfold
    iterate 8 (first | walk1 | (dsimp only; walk1))
    rename_i l9 h9 F9 N9 l19
    have hI : IntsAre ys.toList (fsI ns 1) := by
      have := paired_ints_f (q := fun (i : Nat) => decide ((i : Int) = 1 ∨ (i : Int) - ns.length = 1)) (fun i t => rfl) (k := 0) hlen9 (by simpa using hj) hF
      rw [fsI, List.range_eq_range']
      exact this
    have hh := fsI_head ns 1
    have r1 : Reads h9 (.ref D) (.list ((fsI ns 1).map PyData.int)) [D] := reads_list (ys := ys.toList) (by simpa using (N9 _ (.tail _ (.head _))).1) (reads_ints hI)
    have r2 : Reads h9 (.ref l9) (.list []) [l9] := reads_list (ys := []) (N9 _ (.head _)).1 .nil
    refine ne_dataH r1 r2 (shaped_ints _) (shaped_ints []) (by show un + 3 + 64 < cLine; omega) ?_
    rw [eqv_nil]
    have hlD : h9.IsList D ys := ⟨_, (N9 _ (.tail _ (.head _))).1, rfl, _, rfl⟩
    cases hfs : fsI ns 1 with
    | nil =>
      rw [hfs] at hh
      iterate 3 (first | walk1 | (dsimp only; walk1))
      refine hret _ _ _ (fun b o e => F9.keep b o e) ?_
      simp only [look, if_true, ← hh]
      exact ⟨_, rfl⟩
    | cons f9 r9 =>
      rw [hfs] at hh hI
      simp only [List.isEmpty_cons, Bool.not_false]
      iterate 5 (first | walk1 | (dsimp only; walk1))
      obtain ⟨t8, e8⟩ := ints_at hI (i := 0) (n := f9) rfl
      refine item_at hlD (by decide) (by decide) (v := .int f9 t8) (by simpa using e8) ?_
      refine hret _ _ _ (fun b o e => F9.keep b o e) ?_
      simp only [look, if_true, ← hh]
      exact ⟨_, rfl⟩

theorem ints_of {ys : List Value} (h : ∀ y ∈ ys, ∃ n t, y = Value.int n t) : ∃ fs, IntsAre ys fs := by
  induction ys with
  | nil => exact ⟨[], .nil⟩
  | cons y ys ih =>
    obtain ⟨n, t, rfl⟩ := h y List.mem_cons_self
    obtain ⟨fs, hf⟩ := ih fun z hz => h z (List.mem_cons_of_mem _ hz)
    exact ⟨n :: fs, .cons n t hf⟩
theorem book_val {kvs : List (Str × Value)} {bk : List (Str × Int)} (h : Paired (fun p (q : Str × Int) => p.1 = q.1 ∧ ∃ t, p.2 = Value.int q.2 t) kvs bk) (x : Str) :
    (valueAt kvs x = none ∧ bk.lookup x = none) ∨ ∃ n t, valueAt kvs x = some (.int n t) ∧ bk.lookup x = some n := by
  induction h with
  | nil => exact .inl ⟨rfl, rfl⟩
  | @cons a b l₁ l₂ h1 _ ih =>
    obtain ⟨ka, va⟩ := a
    obtain ⟨kb, vb⟩ := b
    obtain ⟨e1, t1, e2⟩ := h1
    dsimp only at e1 e2
    subst e1 e2
    by_cases hx : ka = x
    · subst hx
      exact .inr ⟨vb, t1, by simp [valueAt], by simp [List.lookup_cons]⟩
    · have hx' : (x == ka) = false := by simpa using fun e => hx e.symm
      have e3 : valueAt ((ka, Value.int vb t1) :: l₁) x = valueAt l₁ x := by simp [valueAt, List.find?_cons, hx]
      rw [e3, List.lookup_cons, hx']
      exact ih
theorem valueAt_none {kvs : List (Str × Value)} {x : Str} (h : ∀ (j : Nat) kx kv, kvs[j]? = some (kx, kv) → kx ≠ x) : valueAt kvs x = none := by
  unfold valueAt
  rw [List.find?_eq_none.mpr]
  · rfl
  · intro e he hx
    obtain ⟨j, hj, e3⟩ := List.getElem_of_mem he
    exact h j e.1 e.2 (by rw [List.getElem?_eq_getElem hj, e3]) (by simpa using hx)
theorem valueAt_nodup {kvs : List (Str × Value)} (hn : (kvs.map (·.1)).Nodup) {j : Nat} {kx : Str} {kv : Value} (h : kvs[j]? = some (kx, kv)) : valueAt kvs kx = some kv := by
  induction kvs generalizing j with
  | nil => simp at h
  | cons e r ih =>
    obtain ⟨ke, ve⟩ := e
    rw [List.map_cons, List.nodup_cons] at hn
    cases j with
    | zero => simp at h; obtain ⟨rfl, rfl⟩ := h; simp [valueAt]
    | succ j =>
      have h' : r[j]? = some (kx, kv) := by simpa using h
      have hm : kx ∈ r.map (·.1) := List.mem_map.mpr ⟨_, List.mem_of_getElem? h', rfl⟩
      have hne : ke ≠ kx := fun e => hn.1 (e ▸ hm)
      have := ih hn.2 h'
      simp only [valueAt, List.find?_cons, decide_eq_false hne] at this ⊢
      exact this
theorem next_str {w : World} {p : Program} {loose : List Str} {mean : ExcName → Option Value} {mg mb : Str → Option Value} {dp un : Nat} {gd : Option (List Code)} {cn : Str} {cs : Scope} {a : Addr} {ccd : Value} {cl : List (Str × Addr)} {outer : List Env} {A₀ : Around} {base h₀ : Heap} {L : Addr} {m : Str → Option Value} {s : Shared} {Q E : Value → Shared → Prop} (ra ba : Addr) (kvs : List (Str × Value)) (bk : List (Str × Int)) (x : Str) (t : Tok) (G : Gd 2 w p loose mean mg mb dp un cs outer A₀ base h₀ L m s.heap) (hs : (ba == sysModules) = false) (hb : s.heap.DictOf (strKind PG w) ba kvs) (hbk : Paired (fun p (q : Str × Int) => p.1 = q.1 ∧ ∃ t, p.2 = Value.int q.2 t) kvs bk) (hlen : kvs.length ≤ 1000)
    (hret : ∀ v h' tk', (∀ b o, s.heap.get? b = some o → h'.get? b = some o) → OutIs (look (.str x t) [] bk) v → Q v { s with heap := h', toks := tk' }) :
    wpAny (model PG w) (ktrTop dp un gd cn cs L a ccd cl outer) (call (.ref 133) [.str x t, .ref ra, .ref ba]) Q E s := by
  obtain ⟨B, F, X, T, hk, hd, hu⟩ := G
  refine wpAny_call ?_
  k_dflt (refine' enterC ?k1 ?k2 ?k3 ?k5 ?kA ?kF ?kK ?k6 ?k7 ?k8 ?k9 ?kB ?kD ?_ ?c2 ?c3 ?c4; (case kA => exact rfl); (case kF => exact rfl); (case kK => assumption); (case k1 => k_asm); (case k2 => k_asm); (case k3 => k_asm); (case k5 => k_asm); (case k6 => k_is); (case k7 => k_is); (case k8 => ktr_room); (case k9 => exact BindsTo.of_eq rfl); (case kB => exact rfl); (case kD => decide +kernel); (case c2 => exact rfl); (case c3 => exact rfl); (case c4 => exact rfl); k_whole)
  intro L1 h1 tk1 cells1 F1 N1 Y1 B1 X1 T1
  obtain ⟨o1, o2, o3, hE1, d1, d2, d3⟩ := CellsAre.three Y1
  subst hE1; clear Y1
  replace d1 : o1.data = .cell (some (.ref ba)) := d1
  replace d2 : o2.data = .cell (some (.ref ra)) := d2
  replace d3 : o3.data = .cell (some (.str x t)) := d3
  have hnd : (kvs.map (·.1)).Nodup := by obtain ⟨_, _, _, _, _, _, _, _, hn⟩ := hb; exact hn
  iterate 24 (first | walk1 | (dsimp only; walk1))
  k_fold
  refine wpAny_Assign_ListComp_free (fun v => match v with | .str y _ => decide (y = x) | _ => false) (fun v y => ∃ kx t, v = Value.str kx t ∧ valueAt kvs kx = some y) (by rfl) (by with_unfolding_all rfl) (by decide) (by rfl) (by decide) (by rfl) (by rfl) (by rfl) ?_
  iterate 1 (first | walk1 | (dsimp only; walk1))
  have hb1 := hb.keep F1.keep
  refine srcA_dict (L := L1) rfl rfl F1 N1 hb1 hs hlen ?_ ?_ ?_
  · intro C oC i kx kv t9 s₃ m₃ E' hi9 hoC hx F₃ N₃ hk₃
    refine tests_one ?_
    iterate 5 (first | walk1 | (dsimp only; walk1))
    exact ⟨rfl, _, _, rfl, fun _ _ e => e⟩
  · intro C oC i kx kv t9 s₃ m₃ E' hi9 hp hoC hx F₃ N₃ hk₃
    iterate 3 (first | walk1 | (dsimp only; walk1))
    have hm := (hb.keep F₃.keep).mapOf
    refine tail_any hm.typeIs slot_dict_getitem.lookup (wpAny_getItem_of (strKind_is PG w kx t9) hm (valueAt_nodup hnd hi9) ?_) (by with_unfolding_all rfl)
    exact ⟨⟨kx, t9, rfl, valueAt_nodup hnd hi9⟩, _, _, rfl, fun _ _ e => e⟩
  · intro D h' tk9 ys vs9 hD hpl hlen9 hj hF F₃ N₃
    obtain ⟨nD, eD⟩ := hpl
    have N₄ := News.more F₃ N₃ eD (fun es n q => by cases q) hD
    clear N₃
    have hval := book_val hbk x
    have hall : ∀ {l ys : List Value}, Paired (fun v y => ∃ kx t, v = Value.str kx t ∧ valueAt kvs kx = some y) (l.filter fun v => match v with | .str y _ => decide (y = x) | _ => false) ys → ∀ y ∈ ys, valueAt kvs x = some y := by
      intro l ys hp
      have hl : ∀ v ∈ l.filter (fun v => match v with | .str y _ => decide (y = x) | _ => false), ∃ t, v = Value.str x t := fun v hv => by
        have h2 := (List.mem_filter.mp hv).2
        cases v <;> first | (simp at h2; done) | (simp at h2; subst h2; exact ⟨_, rfl⟩)
      generalize (l.filter fun v => match v with | .str y _ => decide (y = x) | _ => false) = l' at hp hl
      induction hp with
      | nil => intro y hy; cases hy
      | cons h1 _ ih =>
        intro y hy
        rcases List.mem_cons.mp hy with rfl | hy
        · obtain ⟨kx, t, rfl, h2⟩ := h1
          obtain ⟨t', e⟩ := hl _ List.mem_cons_self
          cases e
          exact h2
        · exact ih (fun v hv => hl v (List.mem_cons_of_mem _ hv)) y hy
    have hally := hall hF
    have hints : ∃ fs, IntsAre ys.toList fs := ints_of fun y hy => by
      have e := hally y hy
      rcases hval with ⟨e2, _⟩ | ⟨n, t, e2, _⟩
      · rw [e] at e2; cases e2
      · rw [e] at e2; cases e2; exact ⟨n, t, rfl⟩
    obtain ⟨fs, hI⟩ := hints
    k_unmd
    k_unfold
    iterate 8 (first | walk1 | (dsimp only; walk1))
    rename_i l9 h9 F9 N9 l19
    have r1 : Reads h9 (.ref D) (.list (fs.map PyData.int)) [D] := reads_list (ys := ys.toList) (by simpa using (N9 _ (.tail _ (.head _))).1) (reads_ints hI)
    have r2 : Reads h9 (.ref l9) (.list []) [l9] := reads_list (ys := []) (N9 _ (.head _)).1 .nil
    refine ne_dataH r1 r2 (shaped_ints _) (shaped_ints []) (by show un + 3 + 64 < cLine; omega) ?_
    rw [eqv_nil]
    have hlD : h9.IsList D ys := ⟨_, (N9 _ (.tail _ (.head _))).1, rfl, _, rfl⟩
    cases hfs : fs with
    | nil =>
      rw [hfs] at hI
      have hy0 : ys.toList = [] := List.length_eq_zero_iff.mp hI.length
      iterate 3 (first | walk1 | (dsimp only; walk1))
      refine hret _ _ _ (fun b o e => F9.keep b o e) ?_
      have hnone : valueAt kvs x = none := by
        rw [hy0] at hF
        have hf0 : (vs9.filter fun v => match v with | .str y _ => decide (y = x) | _ => false) = [] := by
          revert hF
          generalize (vs9.filter fun v => match v with | .str y _ => decide (y = x) | _ => false) = l
          intro hF; cases hF; rfl
        refine valueAt_none fun j kx kv hj2 e => ?_
        have hjl : j < vs9.length := by rw [hlen9]; exact (List.getElem?_eq_some_iff.mp hj2).1
        obtain ⟨kx', kv', t', e1, e2⟩ := hj j vs9[j] (List.getElem?_eq_getElem hjl)
        rw [hj2] at e1; cases e1
        have hm : vs9[j] ∈ vs9.filter fun v => match v with | .str y _ => decide (y = x) | _ => false := List.mem_filter.mpr ⟨List.getElem_mem hjl, by rw [e2]; simpa using e⟩
        rw [hf0] at hm
        cases hm
      have hlk : bk.lookup x = none := by
        rcases hval with ⟨_, e⟩ | ⟨n, t, e, _⟩
        · exact e
        · rw [hnone] at e; cases e
      simp only [look, hlk]
      exact ⟨_, rfl⟩
    | cons f9 r9 =>
      rw [hfs] at hI
      simp only [List.isEmpty_cons, Bool.not_false]
      iterate 5 (first | walk1 | (dsimp only; walk1))
      obtain ⟨t8, e8⟩ := ints_at hI (i := 0) (n := f9) rfl
      refine item_at hlD (by decide) (by decide) (v := .int f9 t8) (by simpa using e8) ?_
      refine hret _ _ _ (fun b o e => F9.keep b o e) ?_
      have hlk : bk.lookup x = some f9 := by
        have e := hally (.int f9 t8) (List.mem_of_getElem? e8)
        rcases hval with ⟨e2, _⟩ | ⟨n, t, e2, e3⟩
        · rw [e] at e2; cases e2
        · rw [e] at e2; cases e2; exact e3
      simp only [look, hlk]
      exact ⟨_, rfl⟩

theorem next_none {w : World} {p : Program} {loose : List Str} {mean : ExcName → Option Value} {mg mb : Str → Option Value} {dp un : Nat} {gd : Option (List Code)} {cn : Str} {cs : Scope} {a : Addr} {ccd : Value} {cl : List (Str × Addr)} {outer : List Env} {A₀ : Around} {base h₀ : Heap} {L : Addr} {m : Str → Option Value} {s : Shared} {Q E : Value → Shared → Prop} (ra ba : Addr) (kvs : List (Str × Value)) (bk : List (Str × Int)) (G : Gd 2 w p loose mean mg mb dp un cs outer A₀ base h₀ L m s.heap) (hs : (ba == sysModules) = false) (hb : s.heap.DictOf (strKind PG w) ba kvs) (hlen : kvs.length ≤ 1000)
    (hret : ∀ v h' tk', (∀ b o, s.heap.get? b = some o → h'.get? b = some o) → OutIs (look .none [] bk) v → Q v { s with heap := h', toks := tk' }) :
    wpAny (model PG w) (ktrTop dp un gd cn cs L a ccd cl outer) (call (.ref 133) [.none, .ref ra, .ref ba]) Q E s := by
  obtain ⟨B, F, X, T, hk, hd, hu⟩ := G
  refine wpAny_call ?_
  k_dflt (refine' enterC ?k1 ?k2 ?k3 ?k5 ?kA ?kF ?kK ?k6 ?k7 ?k8 ?k9 ?kB ?kD ?_ ?c2 ?c3 ?c4; (case kA => exact rfl); (case kF => exact rfl); (case kK => assumption); (case k1 => k_asm); (case k2 => k_asm); (case k3 => k_asm); (case k5 => k_asm); (case k6 => k_is); (case k7 => k_is); (case k8 => ktr_room); (case k9 => exact BindsTo.of_eq rfl); (case kB => exact rfl); (case kD => decide +kernel); (case c2 => exact rfl); (case c3 => exact rfl); (case c4 => exact rfl); k_whole)
  intro L1 h1 tk1 cells1 F1 N1 Y1 B1 X1 T1
  obtain ⟨o1, o2, o3, hE1, d1, d2, d3⟩ := CellsAre.three Y1
  subst hE1; clear Y1
  replace d1 : o1.data = .cell (some (.ref ba)) := d1
  replace d2 : o2.data = .cell (some (.ref ra)) := d2
  replace d3 : o3.data = .cell (some .none) := d3
  iterate 11 (first | walk1 | (dsimp only; walk1))
  k_fold
  refine wpAny_Assign_ListComp_free (fun _ => false) (fun v y => False) (by rfl) (by with_unfolding_all rfl) (by decide) (by rfl) (by decide) (by rfl) (by rfl) (by rfl) ?_
  iterate 1 (first | walk1 | (dsimp only; walk1))
  have hb1 := hb.keep F1.keep
  refine srcA_dict (L := L1) rfl rfl F1 N1 hb1 hs hlen ?_ ?_ ?_
  · intro C oC i kx kv t9 s₃ m₃ E' hi9 hoC hx F₃ N₃ hk₃
    refine tests_one ?_
    iterate 5 (first | walk1 | (dsimp only; walk1))
    exact ⟨rfl, _, _, rfl, fun _ _ e => e⟩
  · intro C oC i kx kv t9 s₃ m₃ E' hi9 hp hoC hx F₃ N₃ hk₃
    cases hp
  · intro D h' tk9 ys vs9 hD hpl hlen9 hj hF F₃ N₃
    obtain ⟨nD, eD⟩ := hpl
    have N₄ := News.more F₃ N₃ eD (fun es n q => by cases q) hD
    clear N₃
    have hy0 : ys.toList = [] := by
      have : (vs9.filter fun _ => false) = [] := by simp
      rw [this] at hF
      revert hF
      generalize ys.toList = l
      intro hF; cases hF; rfl
    have hI : IntsAre ys.toList [] := by rw [hy0]; exact .nil
    k_unmd
    k_unfold
    iterate 8 (first | walk1 | (dsimp only; walk1))
    rename_i l9 h9 F9 N9 l19
    have r1 : Reads h9 (.ref D) (.list (([] : List Int).map PyData.int)) [D] := reads_list (ys := ys.toList) (by simpa using (N9 _ (.tail _ (.head _))).1) (reads_ints hI)
    have r2 : Reads h9 (.ref l9) (.list []) [l9] := reads_list (ys := []) (N9 _ (.head _)).1 .nil
    refine ne_dataH r1 r2 (shaped_ints _) (shaped_ints []) (by show un + 3 + 64 < cLine; omega) ?_
    rw [eqv_nil]
    iterate 3 (first | walk1 | (dsimp only; walk1))
    refine hret _ _ _ (fun b o e => F9.keep b o e) ?_
    exact ⟨_, rfl⟩

theorem paired_length {α β : Type} {F : α → β → Prop} {l : List α} {l' : List β} (h : Paired F l l') : l.length = l'.length := by
  induction h with
  | nil => rfl
  | cons _ _ ih => simp [ih]
theorem next_c {w : World} {p : Program} {loose : List Str} {mean : ExcName → Option Value} {mg mb : Str → Option Value} {dp un : Nat} {gd : Option (List Code)} {cn : Str} {cs : Scope} {a : Addr} {ccd : Value} {cl : List (Str × Addr)} {outer : List Env} {A₀ : Around} {base h₀ : Heap} {L : Addr} {m : Str → Option Value} {s : Shared} {Q E : Value → Shared → Prop} (key : Value) (ra ba : Addr) (vs : List Value) (ns : List Int) (bk : List (Str × Int)) (G : Gd 2 w p loose mean mg mb dp un cs outer A₀ base h₀ L m s.heap) (hkey : IsKey key) (hl : s.heap.IsList ra vs.toArray) (hi : IntsAre vs ns) (hlen : ns.length ≤ 1000) (hb : BookAt w s.heap ba bk) (hbl : bk.length ≤ 1000)
    (hret : ∀ v h' tk', (∀ b o, s.heap.get? b = some o → h'.get? b = some o) → OutIs (look key ns bk) v → Q v { s with heap := h', toks := tk' }) :
    wpAny (model PG w) (ktrTop dp un gd cn cs L a ccd cl outer) (call (.ref 133) [key, .ref ra, .ref ba]) Q E s := by
  obtain ⟨hs, kvs, hd, hp⟩ := hb
  have hkl := paired_length hp
  rcases hkey with ⟨k, t, rfl, h0, h1⟩ | rfl | ⟨x, t, rfl, _⟩ | rfl
  · exact next_int ra ba vs ns k t G hl hi hlen h0 h1 hret
  · exact next_true ra ba vs ns G hl hi hlen hret
  · exact next_str ra ba kvs bk x t G hs hd hp (by omega) hret
  · exact next_none ra ba kvs bk G hs hd (by omega) hret

def RaisedBy (r : Except Bool Int) (X : String) : Prop := match r with
  | .ok _ => False
  | .error true => X = "IndexError"
  | .error false => X = "KeyError"
theorem getv_int {w : World} {p : Program} {loose : List Str} {mean : ExcName → Option Value} {mg mb : Str → Option Value} {dp un : Nat} {gd : Option (List Code)} {cn : Str} {cs : Scope} {a : Addr} {ccd : Value} {cl : List (Str × Addr)} {outer : List Env} {A₀ : Around} {base h₀ : Heap} {L : Addr} {m : Str → Option Value} {s : Shared} {Q E : Value → Shared → Prop} (sf ra ba : Addr) (vs : List Value) (ns : List Int) (k : Int) (t : Tok) (G : Gd 2 w p loose mean mg mb dp un cs outer A₀ base h₀ L m s.heap) (hl : s.heap.IsList ra vs.toArray) (hi : IntsAre vs ns) (hk0 : -3 ≤ k) (hk5 : k ≤ 2)
    (hret : ∀ n t' h' tk', (∀ b o, s.heap.get? b = some o → h'.get? b = some o) → look (.int k t) ns [] = .ok n → Q (.int n t') { s with heap := h', toks := tk' })
    (hexc : ∀ X e h' tk', Flew (envX cn cs L a ccd cl :: outer) s.heap X e h' → RaisedBy (look (.int k t) ns []) X → E e { s with heap := h', toks := tk' }) :
    wpAny (model PG w) (ktrTop dp un gd cn cs L a ccd cl outer) (call (.ref 57) [.ref sf, .int k t, .ref ra, .ref ba]) Q E s := by
  obtain ⟨B, F, X, T, hk, hd, hu⟩ := G
  have hvl := hi.length
  have hat : ∀ {i : Nat} {n : Int}, ns[i]? = some n → ∃ t, vs.toArray[i]? = some (.int n t) := fun {i n} e => by
    obtain ⟨t, ht⟩ := ints_at hi e
    exact ⟨t, by simpa using ht⟩
  refine wpAny_call ?_
  k_dflt (refine' enterP ?k1 ?k2 ?k3 ?k5 ?kA ?kF ?kK ?k6 ?k7 ?k8 ?k9 ?kB ?_ ?c2 ?c3 ?c4 ?c5; (case kA => exact rfl); (case kF => exact rfl); (case kK => assumption); (case k1 => k_asm); (case k2 => k_asm); (case k3 => k_asm); (case k5 => k_asm); (case k6 => k_is); (case k7 => k_is); (case k8 => ktr_room); (case k9 => exact BindsTo.of_eq rfl); (case c5 => decide); (case kB => exact locs rfl); (case c2 => exact rfl); (case c3 => exact rfl); (case c4 => exact rfl); k_whole)
  intro L1 h1 F1 N1 B1 X1 T1
  iterate 20 (first | walk1 | (dsimp only; walk1))
  have hl1 : h1.IsList ra vs.toArray := by obtain ⟨o, e, r⟩ := hl; exact ⟨o, F1.keep _ _ e, r⟩
  by_cases h0 : 0 ≤ k
  · cases hp : ns[k.toNat]? with
    | some n =>
      obtain ⟨t9, e9⟩ := hat hp
      refine item_at hl1 h0 (by omega) e9 ?_
      exact hret n t9 _ _ (fun b o e => F1.keep b o e) (by simp only [look, pick, if_pos h0, hp])
    | none =>
      have hlen : ns.length ≤ k.toNat := List.getElem?_eq_none_iff.mp hp
      refine tail_any hl1.typeIs slot_list_getitem.lookup (wpAny_getItem_list_out rfl hl1 (by rw [List.size_toArray]; omega) (by omega) (by omega) fun h' tk' e hx => ?_) (by with_unfolding_all rfl)
      refine leave_new B1 F1 hx rfl rfl fun h'' hfl => ?_
      exact hexc _ _ h'' _ hfl (by simp only [look, pick, if_pos h0, hp, RaisedBy])
  · by_cases h2 : 0 ≤ k + ns.length
    · have hlt : (k + ns.length).toNat < ns.length := by omega
      have hp : ns[(k + ns.length).toNat]? = some ns[(k + ns.length).toNat] := List.getElem?_eq_getElem hlt
      obtain ⟨t9, e9⟩ := hat hp
      refine tail_any hl1.typeIs slot_list_getitem.lookup (wpAny_getItem_list_neg hl1 (by omega) (by rw [List.size_toArray]; omega) (by omega) (by rw [List.size_toArray, hvl]; exact e9) ?_) (by with_unfolding_all rfl)
      exact hret _ t9 _ _ (fun b o e => F1.keep b o e) (by simp only [look, pick, if_neg h0, if_pos h2, hp])
    · refine tail_any hl1.typeIs slot_list_getitem.lookup (wpAny_getItem_list_out rfl hl1 (by rw [List.size_toArray]; omega) (by omega) (by omega) fun h' tk' e hx => ?_) (by with_unfolding_all rfl)
      refine leave_new B1 F1 hx rfl rfl fun h'' hfl => ?_
      exact hexc _ _ h'' _ hfl (by simp only [look, pick, if_neg h0, if_neg h2, RaisedBy])

theorem getv_true {w : World} {p : Program} {loose : List Str} {mean : ExcName → Option Value} {mg mb : Str → Option Value} {dp un : Nat} {gd : Option (List Code)} {cn : Str} {cs : Scope} {a : Addr} {ccd : Value} {cl : List (Str × Addr)} {outer : List Env} {A₀ : Around} {base h₀ : Heap} {L : Addr} {m : Str → Option Value} {s : Shared} {Q E : Value → Shared → Prop} (sf ra ba : Addr) (vs : List Value) (ns : List Int) (G : Gd 2 w p loose mean mg mb dp un cs outer A₀ base h₀ L m s.heap) (hl : s.heap.IsList ra vs.toArray) (hi : IntsAre vs ns)
    (hret : ∀ n t' h' tk', (∀ b o, s.heap.get? b = some o → h'.get? b = some o) → look (.bool true) ns [] = .ok n → Q (.int n t') { s with heap := h', toks := tk' })
    (hexc : ∀ X e h' tk', Flew (envX cn cs L a ccd cl :: outer) s.heap X e h' → RaisedBy (look (.bool true) ns []) X → E e { s with heap := h', toks := tk' }) :
    wpAny (model PG w) (ktrTop dp un gd cn cs L a ccd cl outer) (call (.ref 57) [.ref sf, .bool true, .ref ra, .ref ba]) Q E s := by
  obtain ⟨B, F, X, T, hk, hd, hu⟩ := G
  have hvl := hi.length
  have hat : ∀ {i : Nat} {n : Int}, ns[i]? = some n → ∃ t, vs.toArray[i]? = some (.int n t) := fun {i n} e => by
    obtain ⟨t, ht⟩ := ints_at hi e
    exact ⟨t, by simpa using ht⟩
  refine wpAny_call ?_
  k_dflt (refine' enterP ?k1 ?k2 ?k3 ?k5 ?kA ?kF ?kK ?k6 ?k7 ?k8 ?k9 ?kB ?_ ?c2 ?c3 ?c4 ?c5; (case kA => exact rfl); (case kF => exact rfl); (case kK => assumption); (case k1 => k_asm); (case k2 => k_asm); (case k3 => k_asm); (case k5 => k_asm); (case k6 => k_is); (case k7 => k_is); (case k8 => ktr_room); (case k9 => exact BindsTo.of_eq rfl); (case c5 => decide); (case kB => exact locs rfl); (case c2 => exact rfl); (case c3 => exact rfl); (case c4 => exact rfl); k_whole)
  intro L1 h1 F1 N1 B1 X1 T1
  iterate 20 (first | walk1 | (dsimp only; walk1))
  have hl1 : h1.IsList ra vs.toArray := by obtain ⟨o, e, r⟩ := hl; exact ⟨o, F1.keep _ _ e, r⟩
  cases hp : ns[1]? with
  | some n =>
    obtain ⟨t9, e9⟩ := hat hp
    refine tail_any hl1.typeIs slot_list_getitem.lookup (getItem_true hl1 e9 ?_) (by with_unfolding_all rfl)
    exact hret n t9 _ _ (fun b o e => F1.keep b o e) (by simp [look, pick, hp])
  | none =>
    have hlen : ns.length ≤ 1 := List.getElem?_eq_none_iff.mp hp
    refine tail_any hl1.typeIs slot_list_getitem.lookup (getItem_true_out rfl hl1 (by rw [List.size_toArray]; omega) fun h' tk' e hx => ?_) (by with_unfolding_all rfl)
    refine leave_new B1 F1 hx rfl rfl fun h'' hfl => ?_
    exact hexc _ _ h'' _ hfl (by simp [look, pick, hp, RaisedBy])
theorem getv_str {w : World} {p : Program} {loose : List Str} {mean : ExcName → Option Value} {mg mb : Str → Option Value} {dp un : Nat} {gd : Option (List Code)} {cn : Str} {cs : Scope} {a : Addr} {ccd : Value} {cl : List (Str × Addr)} {outer : List Env} {A₀ : Around} {base h₀ : Heap} {L : Addr} {m : Str → Option Value} {s : Shared} {Q E : Value → Shared → Prop} (sf ra ba : Addr) (kvs : List (Str × Value)) (bk : List (Str × Int)) (x : Str) (t : Tok) (G : Gd 2 w p loose mean mg mb dp un cs outer A₀ base h₀ L m s.heap) (hs : (ba == sysModules) = false) (hb : s.heap.DictOf (strKind PG w) ba kvs) (hbk : Paired (fun p (q : Str × Int) => p.1 = q.1 ∧ ∃ t, p.2 = Value.int q.2 t) kvs bk)
    (hret : ∀ n t' h' tk', (∀ b o, s.heap.get? b = some o → h'.get? b = some o) → look (.str x t) [] bk = .ok n → Q (.int n t') { s with heap := h', toks := tk' })
    (hexc : ∀ X e h' tk', Flew (envX cn cs L a ccd cl :: outer) s.heap X e h' → RaisedBy (look (.str x t) [] bk) X → E e { s with heap := h', toks := tk' }) :
    wpAny (model PG w) (ktrTop dp un gd cn cs L a ccd cl outer) (call (.ref 57) [.ref sf, .str x t, .ref ra, .ref ba]) Q E s := by
  obtain ⟨B, F, X, T, hk, hd, hu⟩ := G
  refine wpAny_call ?_
  k_dflt (refine' enterP ?k1 ?k2 ?k3 ?k5 ?kA ?kF ?kK ?k6 ?k7 ?k8 ?k9 ?kB ?_ ?c2 ?c3 ?c4 ?c5; (case kA => exact rfl); (case kF => exact rfl); (case kK => assumption); (case k1 => k_asm); (case k2 => k_asm); (case k3 => k_asm); (case k5 => k_asm); (case k6 => k_is); (case k7 => k_is); (case k8 => ktr_room); (case k9 => exact BindsTo.of_eq rfl); (case c5 => decide); (case kB => exact locs rfl); (case c2 => exact rfl); (case c3 => exact rfl); (case c4 => exact rfl); k_whole)
  intro L1 h1 F1 N1 B1 X1 T1
  iterate 21 (first | walk1 | (dsimp only; walk1))
  have hm := (hb.keep F1.keep).mapOf
  rcases book_val hbk x with ⟨e1, e2⟩ | ⟨n, t9, e1, e2⟩
  · refine tail_any hm.typeIs slot_dict_getitem.lookup (wpAny_getItem_missing_of (strKind_is PG w x t) hs rfl hm e1 fun h' e hx => ?_) (by with_unfolding_all rfl)
    refine leave_new B1 F1 hx rfl rfl fun h'' hfl => ?_
    exact hexc _ _ h'' _ hfl (by simp [look, e2, RaisedBy])
  · refine tail_any hm.typeIs slot_dict_getitem.lookup (wpAny_getItem_of (strKind_is PG w x t) hm e1 ?_) (by with_unfolding_all rfl)
    exact hret n t9 _ _ (fun b o e => F1.keep b o e) (by simp [look, e2])
theorem getv_none {w : World} {p : Program} {loose : List Str} {mean : ExcName → Option Value} {mg mb : Str → Option Value} {dp un : Nat} {gd : Option (List Code)} {cn : Str} {cs : Scope} {a : Addr} {ccd : Value} {cl : List (Str × Addr)} {outer : List Env} {A₀ : Around} {base h₀ : Heap} {L : Addr} {m : Str → Option Value} {s : Shared} {Q E : Value → Shared → Prop} (sf ra ba : Addr) (kvs : List (Str × Value)) (bk : List (Str × Int)) (G : Gd 2 w p loose mean mg mb dp un cs outer A₀ base h₀ L m s.heap) (hs : (ba == sysModules) = false) (hb : s.heap.DictOf (strKind PG w) ba kvs)
    (hexc : ∀ X e h' tk', Flew (envX cn cs L a ccd cl :: outer) s.heap X e h' → RaisedBy (look .none [] bk) X → E e { s with heap := h', toks := tk' }) :
    wpAny (model PG w) (ktrTop dp un gd cn cs L a ccd cl outer) (call (.ref 57) [.ref sf, .none, .ref ra, .ref ba]) Q E s := by
  obtain ⟨B, F, X, T, hk, hd, hu⟩ := G
  refine wpAny_call ?_
  k_dflt (refine' enterP ?k1 ?k2 ?k3 ?k5 ?kA ?kF ?kK ?k6 ?k7 ?k8 ?k9 ?kB ?_ ?c2 ?c3 ?c4 ?c5; (case kA => exact rfl); (case kF => exact rfl); (case kK => assumption); (case k1 => k_asm); (case k2 => k_asm); (case k3 => k_asm); (case k5 => k_asm); (case k6 => k_is); (case k7 => k_is); (case k8 => ktr_room); (case k9 => exact BindsTo.of_eq rfl); (case c5 => decide); (case kB => exact locs rfl); (case c2 => exact rfl); (case c3 => exact rfl); (case c4 => exact rfl); k_whole)
  intro L1 h1 F1 N1 B1 X1 T1
  iterate 21 (first | walk1 | (dsimp only; walk1))
  have hm := (dictOf_mix (hb.keep F1.keep)).mapOf
  have e1 : valueAt (kvs.map fun kv => (some kv.1, kv.2)) none = none := by
    unfold valueAt
    rw [List.find?_eq_none.mpr]
    · rfl
    · intro e he
      obtain ⟨kv, _, rfl⟩ := List.mem_map.mp he
      simp
  refine tail_any hm.typeIs slot_dict_getitem.lookup (wpAny_getItem_missing_of (knd := mixKind w) (k := none) rfl hs rfl hm e1 fun h' e hx => ?_) (by with_unfolding_all rfl)
  refine leave_new B1 F1 hx rfl rfl fun h'' hfl => ?_
  exact hexc _ _ h'' _ hfl (by simp [look, RaisedBy])
theorem getv_c {w : World} {p : Program} {loose : List Str} {mean : ExcName → Option Value} {mg mb : Str → Option Value} {dp un : Nat} {gd : Option (List Code)} {cn : Str} {cs : Scope} {a : Addr} {ccd : Value} {cl : List (Str × Addr)} {outer : List Env} {A₀ : Around} {base h₀ : Heap} {L : Addr} {m : Str → Option Value} {s : Shared} {Q E : Value → Shared → Prop} (sf : Addr) (key : Value) (ra ba : Addr) (vs : List Value) (ns : List Int) (bk : List (Str × Int)) (G : Gd 2 w p loose mean mg mb dp un cs outer A₀ base h₀ L m s.heap) (hkey : IsKey key) (hl : s.heap.IsList ra vs.toArray) (hi : IntsAre vs ns) (hb : BookAt w s.heap ba bk)
    (hret : ∀ n t' h' tk', (∀ b o, s.heap.get? b = some o → h'.get? b = some o) → look key ns bk = .ok n → Q (.int n t') { s with heap := h', toks := tk' })
    (hexc : ∀ X e h' tk', Flew (envX cn cs L a ccd cl :: outer) s.heap X e h' → RaisedBy (look key ns bk) X → E e { s with heap := h', toks := tk' }) :
    wpAny (model PG w) (ktrTop dp un gd cn cs L a ccd cl outer) (call (.ref 57) [.ref sf, key, .ref ra, .ref ba]) Q E s := by
  obtain ⟨hs, kvs, hd, hp⟩ := hb
  rcases hkey with ⟨k, t, rfl, h0, h1⟩ | rfl | ⟨x, t, rfl, _⟩ | rfl
  · exact getv_int sf ra ba vs ns k t G hl hi h0 h1 hret hexc
  · exact getv_true sf ra ba vs ns G hl hi hret hexc
  · exact getv_str sf ra ba kvs bk x t G hs hd hp hret hexc
  · exact getv_none sf ra ba kvs bk G hs hd hexc

structure Wd (w : World) (h : Heap) (ra ba : Addr) (R : List (List Int)) (Bk : List (List (Str × Int))) : Prop where
  rows : ∃ ras : List Addr, h.IsList ra (ras.map Value.ref).toArray ∧ ∀ i, i < 4 → ∃ a vs, ras[i]? = some a ∧ h.IsList a vs.toArray ∧ IntsAre vs R[i]!
  books : ∃ bas : List Addr, h.IsList ba (bas.map Value.ref).toArray ∧ ∀ i, i < 4 → ∃ a, bas[i]? = some a ∧ BookAt w h a Bk[i]!
theorem isList_keep {h h' : Heap} {a : Addr} {its : Array Value} (x : h.IsList a its) (k : ∀ b o, h.get? b = some o → h'.get? b = some o) : h'.IsList a its := let ⟨o, e, r⟩ := x; ⟨o, k _ _ e, r⟩
theorem BookAt.keep {w : World} {h h' : Heap} {a : Addr} {bk : List (Str × Int)} (x : BookAt w h a bk) (k : ∀ b o, h.get? b = some o → h'.get? b = some o) : BookAt w h' a bk := let ⟨e, kvs, d, p⟩ := x; ⟨e, kvs, d.keep k, p⟩
theorem Wd.keep {w : World} {h h' : Heap} {ra ba : Addr} {R : List (List Int)} {Bk : List (List (Str × Int))} (x : Wd w h ra ba R Bk) (k : ∀ b o, h.get? b = some o → h'.get? b = some o) : Wd w h' ra ba R Bk where
  rows := let ⟨ras, hl, hr⟩ := x.rows; ⟨ras, isList_keep hl k, fun i hi => let ⟨a, vs, e, l, r⟩ := hr i hi; ⟨a, vs, e, isList_keep l k, r⟩⟩
  books := let ⟨bas, hl, hr⟩ := x.books; ⟨bas, isList_keep hl k, fun i hi => let ⟨a, e, b⟩ := hr i hi; ⟨a, e, b.keep k⟩⟩
structure OkD (R : List (List Int)) (Bk : List (List (Str × Int))) : Prop where
  rl : ∀ i, i < 4 → R[i]!.length ≤ 1000
  rn : ∀ i, i < 4 → ∀ n ∈ R[i]!, 0 ≤ n ∧ n < 4
  bl : ∀ i, i < 4 → Bk[i]!.length ≤ 1000
  bn : ∀ i, i < 4 → ∀ e ∈ Bk[i]!, 0 ≤ e.2 ∧ e.2 < 4
theorem pick_mem {ns : List Int} {k n : Int} (h : pick ns k = some n) : n ∈ ns := by
  unfold pick at h
  split at h
  · exact List.mem_of_getElem? h
  · split at h
    · exact List.mem_of_getElem? h
    · cases h
theorem lookup_mem {bk : List (Str × Int)} {x : Str} {n : Int} (h : bk.lookup x = some n) : ∃ e ∈ bk, e.2 = n := by
  induction bk with
  | nil => cases h
  | cons e r ih =>
    obtain ⟨y, v⟩ := e
    rw [List.lookup_cons] at h
    cases hq : x == y with
    | true => rw [hq] at h; cases h; exact ⟨_, List.mem_cons_self, rfl⟩
    | false => rw [hq] at h; obtain ⟨e, he, e2⟩ := ih h; exact ⟨e, List.mem_cons_of_mem _ he, e2⟩
theorem look_mem {key : Value} {ns : List Int} {bk : List (Str × Int)} {n : Int} (h : look key ns bk = .ok n) : n ∈ ns ∨ ∃ e ∈ bk, e.2 = n := by
  unfold look at h
  split at h
  · split at h
    · rename_i hp; cases h; exact .inl (pick_mem hp)
    · cases h
  · split at h
    · rename_i hp; cases h; exact .inl (pick_mem hp)
    · cases h
  · split at h
    · rename_i hp; cases h; exact .inr (lookup_mem hp)
    · cases h
  · cases h
theorem OkD.look {R : List (List Int)} {Bk : List (List (Str × Int))} (ok : OkD R Bk) {key : Value} {i : Nat} (hi : i < 4) {n : Int} (h : look key R[i]! Bk[i]! = .ok n) : 0 ≤ n ∧ n < 4 := by
  rcases look_mem h with h | ⟨e, he, rfl⟩
  · exact ok.rn i hi n h
  · exact ok.bn i hi e he
def runS (R : List (List Int)) (Bk : List (List (Str × Int))) (st : Except Bool Int × List (Int × Value)) (k : Value) : Except Bool Int × List (Int × Value) := match st.1 with
  | .ok n => (look k R[n.toNat]! Bk[n.toNat]!, st.2 ++ [(n, k)])
  | .error _ => st
def run (R : List (List Int)) (Bk : List (List (Str × Int))) (ks : List Value) (n : Int) : Except Bool Int × List (Int × Value) := ks.foldl (runS R Bk) (.ok n, [])
theorem run_snoc (R : List (List Int)) (Bk : List (List (Str × Int))) (ks : List Value) (k : Value) (n : Int) : run R Bk (ks ++ [k]) n = runS R Bk (run R Bk ks n) k := by
  simp [run, List.foldl_append]
theorem run_ok {R : List (List Int)} {Bk : List (List (Str × Int))} (ok : OkD R Bk) {n : Int} (h0 : 0 ≤ n) (h4 : n < 4) (ks : List Value) : (∀ v, (run R Bk ks n).1 = .ok v → 0 ≤ v ∧ v < 4) ∧ (run R Bk ks n).2.length ≤ ks.length := by
  have gen : ∀ (l : List Value) (st : Except Bool Int × List (Int × Value)), (∀ v, st.1 = .ok v → 0 ≤ v ∧ v < 4) → (∀ v, (l.foldl (runS R Bk) st).1 = .ok v → 0 ≤ v ∧ v < 4) ∧ (l.foldl (runS R Bk) st).2.length ≤ st.2.length + l.length := by
    intro l
    induction l with
    | nil => intro st h; exact ⟨h, by simp⟩
    | cons k l ih =>
      intro st h
      rw [List.foldl_cons]
      obtain ⟨r, acc⟩ := st
      cases r with
      | ok v =>
        have hv := h v rfl
        have := ih (runS R Bk (.ok v, acc) k) fun v' hv' => ok.look (by omega) hv'
        refine ⟨this.1, Nat.le_trans this.2 ?_⟩
        simp only [runS, List.length_append, List.length_cons, List.length_nil]
        omega
      | error b =>
        have := ih (.error b, acc) h
        refine ⟨this.1, Nat.le_trans this.2 ?_⟩
        simp only [List.length_cons]
        omega
  have := gen ks (.ok n, []) (fun v hv => by cases hv; exact ⟨h0, h4⟩)
  exact ⟨this.1, by simpa [run] using this.2⟩
def NotesAt (nl : Addr) (notes : List (Int × Value)) (news : List (Addr × Obj)) : Prop :=
  ∃ prs k, news = (nl, W.listOf (prs.map fun p => Value.ref p.1).toArray k) :: prs ∧ Paired (fun (p : Addr × Obj) (q : Int × Value) => ∃ t j, p.2 = W.listOf #[Value.int q.1 t, q.2] j) prs notes ∧ ∀ p ∈ prs, p.1 ≠ nl

theorem newsFor {h₀ g h : Heap} {L L' : Addr} {m : Str → Option Value} {news : List (Addr × Obj)} (F : Fr h₀ L g m) (N : News g L' h news) : News g L h news := by
  intro p hp
  refine ⟨(N p hp).1, fun q => ?_, (N p hp).2.2⟩
  obtain ⟨o, _, _, e, _⟩ := F.ns
  have h2 := (N p hp).2.2
  rw [q, e] at h2
  cases h2
theorem own_c {w : World} {p : Program} {loose : List Str} {mean : ExcName → Option Value} {mg mb : Str → Option Value} {dp un : Nat} {gd : Option (List Code)} {cn : Str} {cs : Scope} {a : Addr} {ccd : Value} {cl : List (Str × Addr)} {outer : List Env} {A₀ : Around} {base h₀ : Heap} {L : Addr} {m : Str → Option Value} {s : Shared} {Q E : Value → Shared → Prop} (pa ra ba : Addr) (ks : List Value) (n : Int) (t : Tok) (R : List (List Int)) (Bk : List (List (Str × Int))) (G : Gd 4 w p loose mean mg mb dp un cs outer A₀ base h₀ L m s.heap) (hp : s.heap.IsList pa ks.toArray) (hks : ∀ k ∈ ks, IsKey k) (hkl : ks.length ≤ 1000) (hw : Wd w s.heap ra ba R Bk) (ok : OkD R Bk) (h0 : 0 ≤ n) (h4 : n < 4)
    (hret : ∀ r nl v news h' tk', (∀ b o, s.heap.get? b = some o → h'.get? b = some o) → News s.heap L h' ((r, W.listOf #[v, .ref nl] 0) :: news) → OutIs (run R Bk ks n).1 v → NotesAt nl (run R Bk ks n).2 news → Q (.ref r) { s with heap := h', toks := tk' }) :
    wpAny (model PG w) (ktrTop dp un gd cn cs L a ccd cl outer) (call (.ref 140) [.ref pa, .int n t, .ref ra, .ref ba]) Q E s := by
  obtain ⟨B, F, X, T, hk, hd, hu⟩ := G
  refine wpAny_call ?_
  k_dflt (refine' enterP ?k1 ?k2 ?k3 ?k5 ?kA ?kF ?kK ?k6 ?k7 ?k8 ?k9 ?kB ?_ ?c2 ?c3 ?c4 ?c5; (case kA => exact rfl); (case kF => exact rfl); (case kK => assumption); (case k1 => k_asm); (case k2 => k_asm); (case k3 => k_asm); (case k5 => k_asm); (case k6 => k_is); (case k7 => k_is); (case k8 => ktr_room); (case k9 => exact BindsTo.of_eq rfl); (case c5 => decide); (case kB => exact locs rfl); (case c2 => exact rfl); (case c3 => exact rfl); (case c4 => exact rfl); k_whole)
  intro L1 h1 F1 N1 B1 X1 T1
  replace F1 : Fr s.heap L1 h1 (fun y => List.lookup y [(Str.ofString "books", Value.ref ba), (Str.ofString "rows", Value.ref ra), (Str.ofString "start", Value.int n t), (Str.ofString "path", Value.ref pa)]) := F1
  iterate 12 (first | walk1 | (dsimp only; walk1))
  rename_i nl h2 l1 h3 F3 N3
  k_fold
  refine wpAny_For ?_
  iterate 1 (first | walk1 | (dsimp only; walk1))
  have hp3 : h3.IsList pa ks.toArray := isList_keep hp F3.keep
  refine wpAny_pyIter_list hp3 ?_
  have up3 : ∀ b o, h3.get? b = some o → (h3.push { cls := .type "list_iterator", data := .fields #[.ref pa, .int 0 0] }).get? b = some o := fun b o e => Heap.get?_push_of_some _ e
  refine loop_list (L := L1) (h₀ := s.heap) (l := pa) (items := ks.toArray) (m₀ := _) (news₀ := [(nl, W.listOf #[] 0)])
    (fun i m news => ∃ v kv, m = (fun y => if y = Str.ofString "end" then some v else if y = Str.ofString "notes" then some (Value.ref nl) else if y = Str.ofString "key" then kv else List.lookup y [(Str.ofString "books", Value.ref ba), (Str.ofString "rows", Value.ref ra), (Str.ofString "start", Value.int n t), (Str.ofString "path", Value.ref pa)]) ∧
      OutIs (run R Bk (ks.take i) n).1 v ∧ NotesAt nl (run R Bk (ks.take i) n).2 news)
    rfl rfl rfl rfl hp (i₀ := 0) (Nat.zero_le _) ⟨_, Heap.get?_push_size _ rfl, rfl, rfl⟩ (fresh_size F3) (Nat.ne_of_gt F3.ns.lt) ?_ (F3.keeps up3) (N3.grown up3) ?_ ?_ ?_
  · intro p hp
    exact Nat.ne_of_lt (Heap.lt_size (N3 p hp).1)
  · refine ⟨.int n t, none, ?_, ⟨t, rfl⟩, [], 0, rfl, .nil, fun p hp => nomatch hp⟩
    funext y
    by_cases e1 : y = Str.ofString "end"
    · subst e1; rfl
    · by_cases e2 : y = Str.ofString "notes"
      · subst e2; rfl
      · by_cases e3 : y = Str.ofString "key"
        · subst e3; rfl
        · simp only [e1, e2, e3, if_false]
  · rintro i key m₁ news₁ h tk oI hi ⟨v, kv, rfl, hv, hN⟩ F4 N4 off4
    dsimp only at N4 off4 ⊢
    have hIs : (h3.push { cls := .type "list_iterator", data := .fields #[.ref pa, .int 0 0] }).objs.size = h3.objs.size + 1 := Heap.size_push _ _
    generalize h3.objs.size = I at N4 off4 ⊢
    have hkey : IsKey key := hks key (List.mem_of_getElem? (by simpa using hi))
    have htk : run R Bk (ks.take (i + 1)) n = runS R Bk (run R Bk (ks.take i) n) key := by
      rw [List.take_add_one, show ks[i]? = some key by simpa using hi]
      exact run_snoc ..
    rw [htk]
    have hok := run_ok ok h0 h4 (ks.take i)
    generalize run R Bk (ks.take i) n = st at hv hN hok ⊢
    obtain ⟨r, notes⟩ := st
    dsimp only at hv hN hok ⊢
    cases r with
    | error b =>
      obtain ⟨xs, tx, rfl⟩ : ∃ x t, v = Value.str x t := by
        cases b
        · obtain ⟨t, e⟩ := hv; exact ⟨_, t, e⟩
        · obtain ⟨t, e⟩ := hv; exact ⟨_, t, e⟩
      iterate 16 (first | walk1 | (dsimp only; walk1))
      dsimp only
      iterate 1 (first | walk1 | (dsimp only; walk1))
      refine ⟨h, _, _, news₁, rfl, F4, N4, off4, .str xs tx, some key, ?_, hv, hN⟩
      funext y
      by_cases e1 : y = Str.ofString "end"
      · subst e1; rfl
      · by_cases e2 : y = Str.ofString "notes"
        · subst e2; rfl
        · by_cases e3 : y = Str.ofString "key"
          · subst e3; rfl
          · simp only [e1, e2, e3, if_false]
    | ok nn =>
      obtain ⟨tn, rfl⟩ := hv
      obtain ⟨prs, kk, rfl, hpr, hoff⟩ := hN
      iterate 29 (first | walk1 | (dsimp only; walk1))
      refine newList_K F4 N4 ?_
      intro l9 h9 F9 N9 l19
      iterate 1 (first | walk1 | (dsimp only; walk1))
      have hnl : (nl, W.listOf (List.map (fun p => Value.ref p.fst) prs).toArray kk) ∈ (I, oI) :: (nl, W.listOf (List.map (fun p => Value.ref p.fst) prs).toArray kk) :: prs := .tail _ (.head _)
      refine append_K F9 N9 (.tail (Nat.ne_of_gt (l19 _ hnl)) (.tail (Ne.symm (off4 _ (.head _))) (.head hoff))) ?_ ?_
      · intro h10 F10 N10
        iterate 12 (first | walk1 | (dsimp only; walk1))
        obtain ⟨ras, hra, hrs⟩ := hw.rows
        obtain ⟨bas, hba, hbs⟩ := hw.books
        have hnn := hok.1 nn rfl
        obtain ⟨rA, rV, e5, l5, i5⟩ := hrs nn.toNat (by omega)
        obtain ⟨bA, e6, b6⟩ := hbs nn.toNat (by omega)
        refine item_at (isList_keep hra F10.keep) hnn.1 (by omega) (v := .ref rA) (by simp [e5]) ?_
        iterate 4 (first | walk1 | (dsimp only; walk1))
        refine item_at (isList_keep hba F10.keep) hnn.1 (by omega) (v := .ref bA) (by simp [e6]) ?_
        iterate 1 (first | walk1 | (dsimp only; walk1))
        refine ⟨X1.keeps F10.keep, ?_⟩
        refine next_c key rA bA rV R[nn.toNat]! Bk[nn.toNat]! ⟨B1, F10, X1, T1, rfl, by show dp + 1 + 2 < _; omega, by show un + 3 + 20 * 2 + 80 < _; omega⟩ hkey (isList_keep l5 F10.keep) i5 (ok.rl _ (by omega)) (b6.keep F10.keep) (ok.bl _ (by omega)) ?_
        intro v' h11 tk11 k11 hv'
        have F11 := F10.keeps k11
        have N11 := N10.grown k11
        iterate 1 (first | walk1 | (dsimp only; walk1))
        rename_i h12 F12 N12
        iterate 2 (first | walk1 | (dsimp only; walk1))
        dsimp only
        iterate 1 (first | walk1 | (dsimp only; walk1))
        refine ⟨h12, _, _, (nl, W.listOf ((List.map (fun p => Value.ref p.fst) prs).toArray.push (.ref l9)) (kk + 1)) :: (prs ++ [(l9, W.listOf #[Value.int nn tn, key] 0)]), rfl, F12, fun p hp => N12 p ?_, fun p hp => ?_, v', some key, ?_, hv', prs ++ [(l9, W.listOf #[Value.int nn tn, key] 0)], kk + 1, ?_, Paired.snoc hpr ⟨tn, 0, rfl⟩, fun p hp => ?_⟩
        · simp only [List.mem_cons, List.mem_append, List.not_mem_nil, or_false] at hp ⊢
          rcases hp with h | h | h | h
          · exact .inr (.inl h)
          · exact .inr (.inr (.inl h))
          · exact .inr (.inr (.inr h))
          · exact .inl h
        · simp only [List.mem_cons, List.mem_append, List.not_mem_nil, or_false] at hp
          rcases hp with rfl | h | rfl
          · exact (show nl ≠ I from off4 (nl, W.listOf (List.map (fun p => Value.ref p.fst) prs).toArray kk) (.head _))
          · exact off4 _ (.tail _ h)
          · exact Nat.ne_of_gt (l19 _ (.head _))
        · funext y
          by_cases e1 : y = Str.ofString "end"
          · subst e1; rfl
          · by_cases e2 : y = Str.ofString "notes"
            · subst e2; rfl
            · by_cases e3 : y = Str.ofString "key"
              · subst e3; rfl
              · simp only [e1, e2, e3, if_false]
        · simp
        · simp only [List.mem_append, List.mem_cons, List.not_mem_nil, or_false] at hp
          rcases hp with h | rfl
          · exact hoff p h
          · exact Nat.ne_of_gt (l19 _ hnl)
      · have := paired_length hpr
        have := hok.2
        rw [sizeLine_eq]
        simp only [List.size_toArray, List.length_map]
        rw [List.length_take] at this
        omega
  · rintro m₁ news₁ h tk ⟨v, kv, rfl, hv, hN⟩ F4 N4
    dsimp only
    k_unmd
    k_unfold
    iterate 9 (first | walk1 | (dsimp only; walk1))
    rename_i r9 h9 F9 N9 l19
    have hall : ks.take ks.toArray.size = ks := by rw [List.size_toArray]; exact List.take_length
    rw [hall] at hv hN
    exact hret r9 nl v news₁ h9 _ F9.keep (newsFor F N9) hv hN

def StepOk (w : World) (p : Program) (loose : List Str) (mean : ExcName → Option Value) (mg mb : Str → Option Value) (g : Heap) (f : Value) (vs : List Value) (J : Nat → Value → List (Addr × Obj) → Prop) (JX : String → List (Addr × Obj) → Prop) : Prop :=
  ∀ {dp un : Nat} {gd : Option (List Code)} {cn : Str} {cs : Scope} {a : Addr} {ccd : Value} {cl : List (Str × Addr)} {outer : List Env} {A₀ : Around} {base : Heap} {L : Addr} {m : Str → Option Value} {s : Shared} {Q E : Value → Shared → Prop}
    (i : Nat) (v el : Value) (I : Addr) (oI : Obj) (news : List (Addr × Obj)),
    Gd 3 w p loose mean mg mb dp un cs outer A₀ base g L m s.heap → News g L s.heap ((I, oI) :: news) → (∀ p ∈ news, p.1 ≠ I) → vs[i]? = some el → J i v news →
    (∀ v' news' h' tk', Fr g L h' m → News g L h' ((I, oI) :: news') → (∀ p ∈ news', p.1 ≠ I) → J (i + 1) v' news' → Q v' { s with heap := h', toks := tk' }) →
    (∀ X e news' href h' tk', Fr g L href m → News g L href news' → Flew (envX cn cs L a ccd cl :: outer) href X e h' → JX X news' → E e { s with heap := h', toks := tk' }) →
    wpAny (model PG w) (ktrTop dp un gd cn cs L a ccd cl outer) (call f [v, el]) Q E s
theorem reduce_i {w : World} {p : Program} {loose : List Str} {mean : ExcName → Option Value} {mg mb : Str → Option Value} {dp un : Nat} {gd : Option (List Code)} {cn : Str} {cs : Scope} {a : Addr} {ccd : Value} {cl : List (Str × Addr)} {outer : List Env} {A₀ : Around} {base h₀ : Heap} {L : Addr} {m : Str → Option Value} {s : Shared} {Q E : Value → Shared → Prop} (f sa : Addr) (vs : List Value) (iv : Value) (news : List (Addr × Obj)) (J : Nat → Value → List (Addr × Obj) → Prop) (JX : String → List (Addr × Obj) → Prop) (G : Gd 5 w p loose mean mg mb dp un cs outer A₀ base h₀ L m s.heap) (N : News h₀ L s.heap news)
    (hf : ∃ fo fd, (under s.heap news).get? f = some fo ∧ fo.data = .func fd) (hiv : plainIs iv (.ref 100) = true) (hne : iv ≠ .ref 100) (hp : (under s.heap news).IsList sa vs.toArray) (hJ : J 0 iv news) (hst : StepOk w p loose mean mg mb (under s.heap news) (.ref f) vs J JX)
    (hret : ∀ v news' h' tk', (∀ b o, (under s.heap news).get? b = some o → h'.get? b = some o) → News (under s.heap news) L h' news' → J vs.length v news' → Q v { s with heap := h', toks := tk' })
    (hexc : ∀ X e news' href h' tk', (∀ b o, (under s.heap news).get? b = some o → href.get? b = some o) → News (under s.heap news) L href news' → Flew (envX cn cs L a ccd cl :: outer) href X e h' → JX X news' → E e { s with heap := h', toks := tk' }) :
    wpAny (model PG w) (ktrTop dp un gd cn cs L a ccd cl outer) (call (.ref 108) [.ref f, .ref sa, iv]) Q E s := by
  obtain ⟨B, F, X, T, hk, hd, hu⟩ := G
  obtain ⟨fo, fd, hf1, hf2⟩ := hf
  refine wpAny_call ?_
  k_dflt (refine' enterL ?k1 ?k2 ?kN ?k3 ?k5 ?kA ?kF ?kK ?k6 ?k7 ?k8 ?k9 ?kB ?_ ?c2 ?c3 ?c4 ?c5; (case kA => exact rfl); (case kF => exact rfl); (case kK => assumption); (case k1 => k_asm); (case k2 => k_asm); (case kN => assumption); (case k3 => k_asm); (case k5 => k_asm); (case k6 => k_is); (case k7 => k_is); (case k8 => ktr_room); (case k9 => first | exact BindsTo.of_eq rfl | exact binds_K (X.keeps F.keep) rfl (by k_is) rfl rfl rfl); (case c5 => decide); (case kB => exact locs rfl); (case c2 => exact rfl); (case c3 => exact rfl); (case c4 => exact rfl); k_whole)
  intro L1 h1 F1 N1 B1 X1 T1
  replace F1 : Fr (under s.heap news) L1 h1 (fun y => List.lookup y [(Str.ofString "initial", iv), (Str.ofString "sequence", Value.ref sa), (Str.ofString "function", Value.ref f)]) := F1
  have F1a := F1.above
  repeat (first | walk1 | (dsimp only; walk1))
  refine iter_list (isList_keep hp F1.keep) ?_
  have up1 : ∀ b o, h1.get? b = some o → (h1.push { cls := .type "list_iterator", data := .fields #[.ref sa, .int 0 0] }).get? b = some o := fun b o e => Heap.get?_push_of_some _ e
  have hIn := fresh_size F1
  have F2 := F1.keeps up1
  have N2 : News (under s.heap news) L1 _ ((h1.objs.size, { cls := .type "list_iterator", data := .fields #[.ref sa, .int 0 0] }) :: news) := News.push F1 N1 _ rfl
  have off2 : ∀ p ∈ news, p.1 ≠ h1.objs.size := fun p hp => Nat.ne_of_lt (Heap.lt_size (N1 p hp).1)
  generalize h1.objs.size = I at *
  generalize (h1.push { cls := .type "list_iterator", data := .fields #[.ref sa, .int 0 0] }) = h2 at *
  clear up1
  repeat (first | walk1 | (dsimp only; walk1))
  refine wpAny_is_other hiv hne ?_
  repeat (first | walk1 | (dsimp only; walk1))
  rename_i h3 F3 N3
  have hi0 : 0 ≤ vs.toArray.size := Nat.zero_le _
  have hit3 : h3.IsListIter I sa 0 := ⟨_, (N3 _ (.head _)).1, rfl, rfl⟩
  k_unmd
  k_fold
  refine wpAny_For ?_
  repeat (first | walk1 | (dsimp only; walk1))
  refine wpAny_pyIter_listiter hit3 ?_
  refine loop_list (L := L1) (h₀ := under s.heap news) (l := sa) (items := vs.toArray) (m₀ := _) (news₀ := news)
    (fun i m news => ∃ v kv, m = (fun y => if y = Str.ofString "value" then some v else if y = Str.ofString "it" then some (Value.ref I) else if y = Str.ofString "element" then kv else List.lookup y [(Str.ofString "initial", iv), (Str.ofString "sequence", Value.ref sa), (Str.ofString "function", Value.ref f)]) ∧ J i v news)
    rfl rfl rfl rfl hp (i₀ := 0) hi0 hit3 hIn (N3 _ (.head _)).2.1 off2 F3 (fun p hp => N3 p (.tail _ hp)) ⟨_, none, ?_, hJ⟩ ?_ ?_
  · funext y
    by_cases e1 : y = Str.ofString "value"
    · subst e1; rfl
    · by_cases e2 : y = Str.ofString "it"
      · subst e2; rfl
      · by_cases e3 : y = Str.ofString "element"
        · subst e3; rfl
        · simp only [e1, e2, e3, if_false]
  · rintro i el m₁ news₁ h tk oI hi ⟨v, kv, rfl, hv⟩ F4 N4 off4
    repeat (first | walk1 | (dsimp only; walk1))
    refine hst i v el I oI news₁ ⟨B1, F4, X1, T1, rfl, by show dp + 1 + 3 < _; omega, by show un + 3 + 20 * 3 + 80 < _; omega⟩ N4 off4 (by simpa using hi) hv ?_ ?_
    · intro v' news' h' tk' F5 N5 off5 hv'
      repeat (first | walk1 | (dsimp only; walk1))
      rename_i h9 F9 N9
      refine ⟨h9, _, _, news', rfl, F9, N9, off5, v', some el, ?_, hv'⟩
      funext y
      by_cases e1 : y = Str.ofString "value"
      · subst e1; rfl
      · by_cases e2 : y = Str.ofString "it"
        · subst e2; rfl
        · by_cases e3 : y = Str.ofString "element"
          · subst e3; rfl
          · simp only [e1, e2, e3, if_false]
    · intro X e news' href h' tk' F5 N5 fl jx
      refine loop_raise rfl rfl fl fun h2 held => ?_
      refine leave_held rfl held fun h3 fl3 => ?_
      have hk3 : ∀ b o, (under s.heap news).get? b = some o → (hideAll href [L1]).get? b = some o := fun b o e => hide_get (F5.keep b o e) fun q => by rw [q, Heap.get?_none_of_le F1a] at e; cases e
      refine hexc X e news' (hideAll href [L1]) h3 tk' hk3 (fun p hp => ⟨hide_get (N5 p hp).1 (N5 p hp).2.1, fun q => ?_, (N5 p hp).2.2⟩) fl3 jx
      obtain ⟨oL, _, _, eL, _⟩ := F.ns
      have h9 := (N5 p hp).2.2
      rw [q, hideAll_get _ eL (adrs_L N)] at h9
      cases h9
  · rintro m₁ news₁ h tk ⟨v, kv, rfl, hv⟩ F4 N4
    dsimp only
    k_unmd
    k_unfold
    repeat (first | walk1 | (dsimp only; walk1))
    refine hret v news₁ h _ F4.keep (fun p hp => ⟨(N4 p hp).1, fun q => ?_, (N4 p hp).2.2⟩) (by simpa using hv)
    obtain ⟨oL, _, _, eL, _⟩ := F.ns
    have h9 := (N4 p hp).2.2
    rw [q, hideAll_get _ eL (adrs_L N)] at h9
    cases h9


theorem reduce_m {w : World} {p : Program} {loose : List Str} {mean : ExcName → Option Value} {mg mb : Str → Option Value} {dp un : Nat} {gd : Option (List Code)} {cn : Str} {cs : Scope} {a : Addr} {ccd : Value} {cl : List (Str × Addr)} {outer : List Env} {A₀ : Around} {base h₀ : Heap} {L : Addr} {m : Str → Option Value} {s : Shared} {Q E : Value → Shared → Prop} (f sa : Addr) (vs : List Value) (v0 : Value) (news : List (Addr × Obj)) (J : Nat → Value → List (Addr × Obj) → Prop) (JX : String → List (Addr × Obj) → Prop) (G : Gd 5 w p loose mean mg mb dp un cs outer A₀ base h₀ L m s.heap) (N : News h₀ L s.heap news)
    (hf : ∃ fo fd, (under s.heap news).get? f = some fo ∧ fo.data = .func fd) (hv0 : vs[0]? = some v0) (hp : (under s.heap news).IsList sa vs.toArray) (hJ : J 1 v0 news) (hst : StepOk w p loose mean mg mb (under s.heap news) (.ref f) vs J JX)
    (hret : ∀ v news' h' tk', (∀ b o, (under s.heap news).get? b = some o → h'.get? b = some o) → News (under s.heap news) L h' news' → J vs.length v news' → Q v { s with heap := h', toks := tk' })
    (hexc : ∀ X e news' href h' tk', (∀ b o, (under s.heap news).get? b = some o → href.get? b = some o) → News (under s.heap news) L href news' → Flew (envX cn cs L a ccd cl :: outer) href X e h' → JX X news' → E e { s with heap := h', toks := tk' }) :
    wpAny (model PG w) (ktrTop dp un gd cn cs L a ccd cl outer) (call (.ref 108) [.ref f, .ref sa]) Q E s := by
  obtain ⟨B, F, X, T, hk, hd, hu⟩ := G
  obtain ⟨fo, fd, hf1, hf2⟩ := hf
  refine wpAny_call ?_
  k_dflt (refine' enterL ?k1 ?k2 ?kN ?k3 ?k5 ?kA ?kF ?kK ?k6 ?k7 ?k8 ?k9 ?kB ?_ ?c2 ?c3 ?c4 ?c5; (case kA => exact rfl); (case kF => exact rfl); (case kK => assumption); (case k1 => k_asm); (case k2 => k_asm); (case kN => assumption); (case k3 => k_asm); (case k5 => k_asm); (case k6 => k_is); (case k7 => k_is); (case k8 => ktr_room); (case k9 => first | exact BindsTo.of_eq rfl | exact binds_K (X.keeps F.keep) rfl (by k_is) rfl rfl rfl); (case c5 => decide); (case kB => exact locs rfl); (case c2 => exact rfl); (case c3 => exact rfl); (case c4 => exact rfl); k_whole)
  intro L1 h1 F1 N1 B1 X1 T1
  replace F1 : Fr (under s.heap news) L1 h1 (fun y => List.lookup y [(Str.ofString "initial", Value.ref 100), (Str.ofString "sequence", Value.ref sa), (Str.ofString "function", Value.ref f)]) := F1
  have F1a := F1.above
  repeat (first | walk1 | (dsimp only; walk1))
  refine iter_list (isList_keep hp F1.keep) ?_
  have up1 : ∀ b o, h1.get? b = some o → (h1.push { cls := .type "list_iterator", data := .fields #[.ref sa, .int 0 0] }).get? b = some o := fun b o e => Heap.get?_push_of_some _ e
  have hIn := fresh_size F1
  have F2 := F1.keeps up1
  have N2 : News (under s.heap news) L1 _ ((h1.objs.size, { cls := .type "list_iterator", data := .fields #[.ref sa, .int 0 0] }) :: news) := News.push F1 N1 _ rfl
  have off2 : ∀ p ∈ news, p.1 ≠ h1.objs.size := fun p hp => Nat.ne_of_lt (Heap.lt_size (N1 p hp).1)
  generalize h1.objs.size = I at *
  generalize (h1.push { cls := .type "list_iterator", data := .fields #[.ref sa, .int 0 0] }) = h2 at *
  clear up1
  repeat (first | walk1 | (dsimp only; walk1))
  rename_i h3 F3 N3
  have hit3 : h3.IsListIter I sa 0 := ⟨_, (N3 _ (.head _)).1, rfl, rfl⟩
  refine next_first hit3 (isList_keep hp F3.keep) (by simpa using hv0) fun h4 hit4 sb4 => ?_
  obtain ⟨oI4, e4, r4⟩ := id hit4
  have F4 := F3.change sb4 (N3 _ (.head _)).2.1 (N3 _ (.head _)).2.2
  have N4 : News (under s.heap news) L1 h4 ((I, oI4) :: news) := fun p hp => by
    rcases List.mem_cons.mp hp with rfl | hp
    · exact ⟨e4, (N3 _ (.head _)).2⟩
    · exact ⟨(sb4.2 _ (off2 p hp)).trans (N3 p (.tail _ hp)).1, (N3 p (.tail _ hp)).2⟩
  clear F3 N3 hit3
  repeat (first | walk1 | (dsimp only; walk1))
  rename_i h3 F3 N3
  have hi0 : 1 ≤ vs.toArray.size := by
    cases vs with
    | nil => cases hv0
    | cons _ _ => simp
  have hit3 : h3.IsListIter I sa 1 := ⟨_, (N3 _ (.head _)).1, r4⟩
  k_unmd
  k_fold
  refine wpAny_For ?_
  repeat (first | walk1 | (dsimp only; walk1))
  refine wpAny_pyIter_listiter hit3 ?_
  refine loop_list (L := L1) (h₀ := under s.heap news) (l := sa) (items := vs.toArray) (m₀ := _) (news₀ := news)
    (fun i m news => ∃ v kv, m = (fun y => if y = Str.ofString "value" then some v else if y = Str.ofString "it" then some (Value.ref I) else if y = Str.ofString "element" then kv else List.lookup y [(Str.ofString "initial", Value.ref 100), (Str.ofString "sequence", Value.ref sa), (Str.ofString "function", Value.ref f)]) ∧ J i v news)
    rfl rfl rfl rfl hp (i₀ := 1) hi0 hit3 hIn (N3 _ (.head _)).2.1 off2 F3 (fun p hp => N3 p (.tail _ hp)) ⟨_, none, ?_, hJ⟩ ?_ ?_
  · funext y
    by_cases e1 : y = Str.ofString "value"
    · subst e1; rfl
    · by_cases e2 : y = Str.ofString "it"
      · subst e2; rfl
      · by_cases e3 : y = Str.ofString "element"
        · subst e3; rfl
        · simp only [e1, e2, e3, if_false]
  · rintro i el m₁ news₁ h tk oI hi ⟨v, kv, rfl, hv⟩ F4 N4 off4
    repeat (first | walk1 | (dsimp only; walk1))
    refine hst i v el I oI news₁ ⟨B1, F4, X1, T1, rfl, by show dp + 1 + 3 < _; omega, by show un + 3 + 20 * 3 + 80 < _; omega⟩ N4 off4 (by simpa using hi) hv ?_ ?_
    · intro v' news' h' tk' F5 N5 off5 hv'
      repeat (first | walk1 | (dsimp only; walk1))
      rename_i h9 F9 N9
      refine ⟨h9, _, _, news', rfl, F9, N9, off5, v', some el, ?_, hv'⟩
      funext y
      by_cases e1 : y = Str.ofString "value"
      · subst e1; rfl
      · by_cases e2 : y = Str.ofString "it"
        · subst e2; rfl
        · by_cases e3 : y = Str.ofString "element"
          · subst e3; rfl
          · simp only [e1, e2, e3, if_false]
    · intro X e news' href h' tk' F5 N5 fl jx
      refine loop_raise rfl rfl fl fun h2 held => ?_
      refine leave_held rfl held fun h3 fl3 => ?_
      have hk3 : ∀ b o, (under s.heap news).get? b = some o → (hideAll href [L1]).get? b = some o := fun b o e => hide_get (F5.keep b o e) fun q => by rw [q, Heap.get?_none_of_le F1a] at e; cases e
      refine hexc X e news' (hideAll href [L1]) h3 tk' hk3 (fun p hp => ⟨hide_get (N5 p hp).1 (N5 p hp).2.1, fun q => ?_, (N5 p hp).2.2⟩) fl3 jx
      obtain ⟨oL, _, _, eL, _⟩ := F.ns
      have h9 := (N5 p hp).2.2
      rw [q, hideAll_get _ eL (adrs_L N)] at h9
      cases h9
  · rintro m₁ news₁ h tk ⟨v, kv, rfl, hv⟩ F4 N4
    dsimp only
    k_unmd
    k_unfold
    repeat (first | walk1 | (dsimp only; walk1))
    refine hret v news₁ h _ F4.keep (fun p hp => ⟨(N4 p hp).1, fun q => ?_, (N4 p hp).2.2⟩) (by simpa using hv)
    obtain ⟨oL, _, _, eL, _⟩ := F.ns
    have h9 := (N4 p hp).2.2
    rw [q, hideAll_get _ eL (adrs_L N)] at h9
    cases h9


abbrev stepPos : Pos := ⟨79, 4, 81, 62⟩
theorem runS_err (R : List (List Int)) (Bk : List (List (Str × Int))) (l : List Value) (b : Bool) (nt : List (Int × Value)) : l.foldl (runS R Bk) (.error b, nt) = (.error b, nt) := by
  induction l with
  | nil => rfl
  | cons k l ih => rw [List.foldl_cons]; exact ih
theorem run_stick {R : List (List Int)} {Bk : List (List (Str × Int))} {ks : List Value} {n : Int} {i : Nat} {b : Bool} {nt : List (Int × Value)} (h : run R Bk (ks.take i) n = (.error b, nt)) : run R Bk ks n = (.error b, nt) := by
  have e : run R Bk ks n = (ks.drop i).foldl (runS R Bk) (run R Bk (ks.take i) n) := by
    rw [run, run, ← List.foldl_append, List.take_append_drop]
  rw [e, h]
  exact runS_err ..
theorem run_take {R : List (List Int)} {Bk : List (List (Str × Int))} {ks : List Value} {n : Int} {i : Nat} {key : Value} (hi : ks[i]? = some key) : run R Bk (ks.take (i + 1)) n = runS R Bk (run R Bk (ks.take i) n) key := by
  rw [List.take_add_one, hi]
  exact run_snoc ..
abbrev wayScope : Scope :=
  { kind := ScopeKind.function,
    names :=
      [(Str.ofString "path", NameKind.local), (Str.ofString "start", NameKind.local),
        (Str.ofString "rows", NameKind.cell), (Str.ofString "books", NameKind.cell),
        (Str.ofString "bare", NameKind.local), (Str.ofString "_law_step", NameKind.local),
        (Str.ofString "end", NameKind.local), (Str.ofString "maker", NameKind.cell),
        (Str.ofString "notes", NameKind.cell), (Str.ofString "Formatter", NameKind.globalImplicit),
        (Str.ofString "reduce", NameKind.globalImplicit), (Str.ofString "IndexError", NameKind.globalImplicit),
        (Str.ofString "KeyError", NameKind.globalImplicit), (Str.ofString "TypeError", NameKind.globalImplicit)],
    isGenerator := false, isCoroutine := false }
theorem way_c {w : World} {p : Program} {loose : List Str} {mean : ExcName → Option Value} {mg mb : Str → Option Value} {dp un : Nat} {gd : Option (List Code)} {cn : Str} {cs : Scope} {a : Addr} {ccd : Value} {cl : List (Str × Addr)} {outer : List Env} {A₀ : Around} {base h₀ : Heap} {L : Addr} {m : Str → Option Value} {s : Shared} {Q E : Value → Shared → Prop} (pa ra ba : Addr) (ks : List Value) (n : Int) (t : Tok) (R : List (List Int)) (Bk : List (List (Str × Int))) (b : Bool) (ps : Array Value) (G : Gd 8 w p loose mean mg mb dp un cs outer A₀ base h₀ L m s.heap) (N : News h₀ L s.heap [(142, tabObj ps)]) (C : CodeHd h₀ 146 142)
    (hout : framesOf outer = []) (htab : TabIs stepPos (Str.ofString "_law_way.<locals>._law_step") (under s.heap [(142, tabObj ps)]) ps)
    (hp : (under s.heap [(142, tabObj ps)]).IsList pa ks.toArray) (hks : ∀ k ∈ ks, IsKey k) (hkl : ks.length ≤ 1000) (hw : Wd w (under s.heap [(142, tabObj ps)]) ra ba R Bk) (ok : OkD R Bk) (hs0 : 0 ≤ n) (hs4 : n < 4)
    (hret : ∀ r nl v news ps' cod h' tk', (∀ b o, s.heap.get? b = some o → b ≠ 142 → b ∉ framesOf (envX cn cs L a ccd cl :: outer) → h'.get? b = some o) → Fr h₀ L h' m →
      News (under s.heap [(142, tabObj ps)]) L h' ((142, tabObj ps') :: (r, W.listOf #[v, .ref nl] 0) :: (news ++ cod)) → TabOut stepPos (Str.ofString "_law_way.<locals>._law_step") 142 ps cod ps' → OutIs (run R Bk ks n).1 v → NotesAt nl (run R Bk ks n).2 news → Q (.ref r) { s with heap := h', toks := tk' }) :
    wpAny (model PG w) (ktrTop dp un gd cn cs L a ccd cl outer) (call (.ref 147) [.ref pa, .int n t, .ref ra, .ref ba, .bool b]) Q E s := by
  obtain ⟨B, F, X, T, hk, hd, hu⟩ := G
  have st : ∀ b o, h₀.get? b = some o → (under s.heap [(142, tabObj ps)]).get? b = some o := fun b o e => hideAll_get _ (F.keep b o e) (adrs_none N e)
  have C1 := C.keeps st
  refine wpAny_call ?_
  k_dflt (refine' enterLC ?k1 ?k2 ?kN ?k3 ?k5 ?kA ?kF ?kK ?k6 ?k7 ?k8 ?k9 ?kB ?kD ?_ ?c2 ?c3 ?c4; (case kA => exact rfl); (case kF => exact rfl); (case kK => assumption); (case k1 => k_asm); (case k2 => k_asm); (case kN => assumption); (case k3 => k_asm); (case k5 => k_asm); (case k6 => k_is); (case k7 => k_is); (case k8 => ktr_room); (case k9 => exact BindsTo.of_eq rfl); (case kB => exact rfl); (case kD => decide +kernel); (case c2 => exact rfl); (case c3 => exact rfl); (case c4 => exact rfl); k_whole)
  intro L1 h1 tk1 cells1 F1 N1 Y1 B1 X1 T1 lt1
  replace F1 : Fr (under s.heap [(142, tabObj ps)]) L1 h1 (fun y => if y = Str.ofString "bare" then some (Value.bool b) else if y = Str.ofString "start" then some (Value.int n t) else if y = Str.ofString "path" then some (Value.ref pa) else none) := F1
  obtain ⟨o1, o2, o3, o4, hE1, d1, d2, d3, d4⟩ := CellsAre.four Y1
  subst hE1; clear Y1
  replace d1 : o1.data = .cell none := d1
  replace d2 : o2.data = .cell none := d2
  replace d3 : o3.data = .cell (some (.ref ba)) := d3
  replace d4 : o4.data = .cell (some (.ref ra)) := d4
  repeat (first | walk1 | (dsimp only; walk1))
  rename_i xm dm h3 l31 l32 h4 om dom nl h5 F5 N5 l5
  replace N5 : News (under s.heap [(142, tabObj ps)]) L1 h5 [(nl, W.listOf #[] 0), (xm, instObj 95 dm), (dm, dictOf [] 0), (L1 + 1 + 1 + 1 + 1, o1), (L1 + 1 + 1 + 1, om), (L1 + 1 + 1, o3), (L1 + 1, o4), (142, tabObj ps)] := N5
  replace l5 : ∀ p ∈ [(xm, instObj 95 dm), (dm, dictOf [] 0), (L1 + 1 + 1 + 1 + 1, o1), (L1 + 1 + 1 + 1, om), (L1 + 1 + 1, o3), (L1 + 1, o4), (142, tabObj ps)], p.1 < nl := l5
  replace l31 : ∀ p ∈ [(L1 + 1 + 1 + 1 + 1, o1), (L1 + 1 + 1 + 1, o2), (L1 + 1 + 1, o3), (L1 + 1, o4), (142, tabObj ps)], p.1 < dm := l31
  k_lt l31
  k_lt l5
  have lt2 : Nat.lt 142 L1 := lt1 _ (.head _)
  k_unmd
  refine' storeX_C (c := L1 + 1 + 1 + 1 + 1) (o := o1) F5 N5 ?c (.tail ?a1 (.tail ?a2 (.tail ?a3 (.head ?a4)))) d1 ?_ ?a ?b
  (case a => rfl)
  (case b => rfl)
  (case c => rfl)
  (case a1 => exact Nat.ne_of_gt l5.2.2.1)
  (case a2 => exact Nat.ne_of_gt (Nat.lt_trans l31.1 l32))
  (case a3 => exact Nat.ne_of_gt l31.1)
  (case a4 =>
    intro p hp
    simp only [List.mem_cons, List.not_mem_nil, or_false] at hp
    rcases hp with rfl | rfl | rfl | rfl <;> refine Nat.ne_of_lt ?_ <;> dsimp only <;> first | omega | exact Nat.lt_trans lt2 (by omega))
  intro h6 on F6 N6 don
  try dsimp only at N6
  repeat (first | walk1 | (dsimp only; walk1))
  refine' nestDef_K ?d0 ?k0 ?a0 ?_
  (case d0 => exact rfl)
  (case k0 => exact rfl)
  (case a0 => exact rfl)
  show wpAny _ _ (makeFunction _ (Str.ofString "_law_way.<locals>._law_step") _ _ _ _ _ _ _ _ _) _ _ _
  have N6' : News (under s.heap [(142, tabObj ps)]) L1 h6 [(142, tabObj ps), (nl, W.listOf #[] 0), (xm, instObj 95 dm), (dm, dictOf [] 0), (L1 + 1 + 1 + 1 + 1, on), (L1 + 1 + 1 + 1, om), (L1 + 1 + 1, o3), (L1 + 1, o4)] := fun p hp => N6 p (by
    simp only [List.mem_cons, List.not_mem_nil, or_false] at hp ⊢
    rcases hp with rfl | rfl | rfl | rfl | rfl | rfl | rfl | rfl <;> simp)
  refine nest_any (P := 142) (c := 146) F6 N6' ?_ T1 C1 rfl htab rfl ?_
  · intro p hp
    simp only [List.mem_cons, List.not_mem_nil, or_false] at hp
    rcases hp with rfl | rfl | rfl | rfl | rfl | rfl | rfl <;> refine Nat.ne_of_gt ?_ <;> dsimp only <;> first | omega | exact Nat.lt_trans lt2 (by omega)
  · intro f c' oc vs tq ctv doc h7 tk7 cod F7 N7 ec7 d7 q7 cod7 l7 cn7
    repeat (first | walk1 | (dsimp only; walk1))
    rename_i h8 F8 N8
    have hcell : ∀ p ∈ [(xm, instObj 95 dm), (dm, dictOf [] 0), (L1 + 1 + 1 + 1 + 1, on), (L1 + 1 + 1 + 1, om), (L1 + 1 + 1, o3), (L1 + 1, o4), (nl, W.listOf #[] 0)], p ∈ [(nl, W.listOf #[] 0), (xm, instObj 95 dm), (dm, dictOf [] 0), (L1 + 1 + 1 + 1 + 1, on), (L1 + 1 + 1 + 1, om), (L1 + 1 + 1, o3), (L1 + 1, o4)] := by
      intro p hp
      simp only [List.mem_cons, List.not_mem_nil, or_false] at hp ⊢
      rcases hp with rfl | rfl | rfl | rfl | rfl | rfl | rfl <;> simp
    have NW : News (under s.heap [(142, tabObj ps)]) L1 h8 [(xm, instObj 95 dm), (dm, dictOf [] 0), (L1 + 1 + 1 + 1 + 1, on), (L1 + 1 + 1 + 1, om), (L1 + 1 + 1, o3), (L1 + 1, o4), (nl, W.listOf #[] 0)] := fun p hp => N8 p (.tail _ (.tail _ (List.mem_append_left _ (hcell p hp))))
    have ek : ∀ b o, (under s.heap [(142, tabObj ps)]).get? b = some o → (under h8 [(xm, instObj 95 dm), (dm, dictOf [] 0), (L1 + 1 + 1 + 1 + 1, on), (L1 + 1 + 1 + 1, om), (L1 + 1 + 1, o3), (L1 + 1, o4), (nl, W.listOf #[] 0)]).get? b = some o := fun b o e => hideAll_get _ (F8.keep b o e) (adrs_none NW e)
    have hfn : (under h8 [(xm, instObj 95 dm), (dm, dictOf [] 0), (L1 + 1 + 1 + 1 + 1, on), (L1 + 1 + 1 + 1, om), (L1 + 1 + 1, o3), (L1 + 1, o4), (nl, W.listOf #[] 0)]).get? f = some _ := hideAll_get (adrs [(xm, instObj 95 dm), (dm, dictOf [] 0), (L1 + 1 + 1 + 1 + 1, on), (L1 + 1 + 1 + 1, om), (L1 + 1 + 1, o3), (L1 + 1, o4), (nl, W.listOf #[] 0)]) (N8 _ (.head _)).1 (fun q => by
      obtain ⟨p, hp, e⟩ := List.mem_map.mp q
      have := l7 p (.tail _ (List.mem_append_left _ (hcell p hp)))
      rw [e] at this
      exact Nat.lt_irrefl _ this)
    dsimp only at hfn
    have hc8 : h8.get? c' = some oc := by
      rcases cod7 with ⟨_, e, _⟩ | rfl
      · exact F8.keep _ _ e
      · exact (N8 _ (.tail _ (.tail _ (List.mem_append_right _ (.head _))))).1
    have hcn : (under h8 [(xm, instObj 95 dm), (dm, dictOf [] 0), (L1 + 1 + 1 + 1 + 1, on), (L1 + 1 + 1 + 1, om), (L1 + 1 + 1, o3), (L1 + 1, o4), (nl, W.listOf #[] 0)]).get? c' = some oc := by
      rcases cod7 with ⟨_, e, _⟩ | rfl
      · exact ek _ _ e
      · refine hideAll_get _ hc8 fun q => ?_
        obtain ⟨p, hp, e⟩ := List.mem_map.mp q
        exact cn7 _ (.head _) p (.tail _ (hcell p hp)) e.symm
    have hw2 := hw.keep ek
    have stepc : ∀ (g2 : Heap), g2.get? f = h8.get? f → g2.get? c' = h8.get? c' → Wd w g2 ra ba R Bk → ∀ {dp un : Nat} {gd : Option (List Code)} {cn : Str} {cs : Scope} {a : Addr} {ccd : Value} {cl : List (Str × Addr)} {outer : List Env} {A₀ : Around} {base : Heap} {L : Addr} {m : Str → Option Value} {s' : Shared} {Q E : Value → Shared → Prop}
        (nn : Int) (tn : Tok) (key : Value) (I : Addr) (oI : Obj) (notes : List (Int × Value)) (nws : List (Addr × Obj)),
        Gd 3 w p loose mean mg mb dp un cs outer A₀ base g2 L m s'.heap →
        News g2 L s'.heap ((I, oI) :: (xm, instObj 95 dm) :: (dm, dictOf [] 0) :: (L1 + 1 + 1 + 1 + 1, on) :: (L1 + 1 + 1 + 1, om) :: (L1 + 1 + 1, o3) :: (L1 + 1, o4) :: nws) →
        I ≠ nl → (∀ p ∈ nws, p.1 ≠ I) → IsKey key → 0 ≤ nn → nn < 4 → NotesAt nl notes nws → notes.length ≤ 2000 →
        (∀ n' t' nws' h' tk', look key R[nn.toNat]! Bk[nn.toNat]! = .ok n' → Fr g2 L h' m →
          News g2 L h' ((I, oI) :: (xm, instObj 95 dm) :: (dm, dictOf [] 0) :: (L1 + 1 + 1 + 1 + 1, on) :: (L1 + 1 + 1 + 1, om) :: (L1 + 1 + 1, o3) :: (L1 + 1, o4) :: nws') →
          (∀ p ∈ nws', p.1 ≠ I) → NotesAt nl (notes ++ [(nn, key)]) nws' → Q (.int n' t') { s' with heap := h', toks := tk' }) →
        (∀ X e nws' href h' tk', RaisedBy (look key R[nn.toNat]! Bk[nn.toNat]!) X → Fr g2 L href m →
          News g2 L href ((I, oI) :: (xm, instObj 95 dm) :: (dm, dictOf [] 0) :: (L1 + 1 + 1 + 1 + 1, on) :: (L1 + 1 + 1 + 1, om) :: (L1 + 1 + 1, o3) :: (L1 + 1, o4) :: nws') →
          NotesAt nl (notes ++ [(nn, key)]) nws' → Flew (envX cn cs L a ccd cl :: outer) href X e h' → E e { s' with heap := h', toks := tk' }) →
        wpAny (model PG w) (ktrTop dp un gd cn cs L a ccd cl outer) (call (.ref f) [.int nn tn, key]) Q E s' := by
      intro g2 gf gc hw9
      have hfn9 := gf.trans (N8 _ (.head _)).1
      have hcn9 := gc.trans hc8
      dsimp only at hfn9
      clear hk hd hu B F X T C C1 N htab F8 N8 NW B1 X1 T1 hw2 hcn hfn ek hw hp hc8 l7 cn7 cod7 hcell ec7 hout st
      clear gf gc
      revert hw9 hfn9 hcn9
      intro hw2 hfn hcn
      intro dp un gd cn cs a ccd cl outer A₀ base L m s' Q E nn tn key I oI notes nws G N hInl offI hkey hn0 hn4 hN hlen hret hexc
      obtain ⟨B, F, X, T, hk, hd, hu⟩ := G
      obtain ⟨prs, kk, rfl, hpr, hoff⟩ := hN
      have hfn' := F.keep _ _ hfn
      have st2 := fun b o (e : g2.get? b = some o) => hideAll_get (adrs _) (F.keep b o e) (adrs_none N e)
      have hcn' := F.keep _ _ hcn
      refine wpAny_call ?_
      refine' enterF ?k1 ?k2 ?kN ?k3 ?k5 ?kA ?kF ?kK ?k6 ?kd ?k7 ?k8 ?k9 ?kB ?_ ?c2 ?c3 ?c4 ?c5
      (case kA => exact rfl)
      (case kF => exact rfl)
      (case kK => exact hk)
      (case k1 => exact B)
      (case k2 => exact F)
      (case kN => exact N)
      (case k3 => exact X)
      (case k5 => exact T)
      (case k6 => exact hfn')
      (case kd => exact rfl)
      (case k7 => exact ⟨c', oc, vs, tq, rfl, hcn', d7, q7⟩)
      (case k8 => ktr_room)
      (case k9 => exact BindsTo.of_eq rfl)
      (case c5 => decide)
      (case kB => exact locs rfl)
      (case c2 => exact rfl)
      (case c3 => exact rfl)
      (case c4 => exact rfl)
      intro L2 h2 F2 N2 B2 X2 T2
      iterate 4 (first | walk1 | (dsimp only; walk1))
      refine' nameX_F N2 ?c ?m don ?_ ?a ?b
      (case a => rfl)
      (case b => rfl)
      (case c => rfl)
      (case m => simp)
      iterate 9 (first | walk1 | (dsimp only; walk1))
      refine newList_K F2 N2 ?_
      intro l9 h9 F9 N9 l19
      iterate 1 (first | walk1 | (dsimp only; walk1))
      have hnl : (nl, W.listOf (List.map (fun p => Value.ref p.fst) prs).toArray kk) ∈ (I, oI) :: (xm, instObj 95 dm) :: (dm, dictOf [] 0) :: (L1 + 1 + 1 + 1 + 1, on) :: (L1 + 1 + 1 + 1, om) :: (L1 + 1 + 1, o3) :: (L1 + 1, o4) :: (nl, W.listOf (List.map (fun p => Value.ref p.fst) prs).toArray kk) :: prs := by simp
      refine append_K F9 N9 (.tail (Nat.ne_of_gt (l19 _ hnl)) (.tail hInl (.tail (Nat.ne_of_lt l5.1) (.tail (Nat.ne_of_lt l5.2.1) (.tail (Nat.ne_of_lt l5.2.2.1) (.tail (Nat.ne_of_lt l5.2.2.2.1) (.tail (Nat.ne_of_lt l5.2.2.2.2.1) (.tail (Nat.ne_of_lt l5.2.2.2.2.2.1) (.head hoff))))))))) ?_ ?_
      · intro h10 F10 N10
        iterate 4 (first | walk1 | (dsimp only; walk1))
        refine' nameX_F N10 ?c ?m dom ?_ ?a ?b
        (case a => rfl)
        (case b => rfl)
        (case c => rfl)
        (case m => simp)
        iterate 6 (first | walk1 | (dsimp only; walk1))
        refine' nameX_F N10 ?c ?m d4 ?_ ?a ?b
        (case a => rfl)
        (case b => rfl)
        (case c => rfl)
        (case m => simp)
        iterate 2 (first | walk1 | (dsimp only; walk1))
        have hw3 := hw2.keep fun b o e => F10.keep b o (st2 b o e)
        obtain ⟨ras, hra, hrs⟩ := hw3.rows
        obtain ⟨bas, hba, hbs⟩ := hw3.books
        obtain ⟨rA, rV, e5, l5', i5⟩ := hrs nn.toNat (by omega)
        obtain ⟨bA, e6, b6⟩ := hbs nn.toNat (by omega)
        refine item_at hra hn0 (by omega) (v := .ref rA) (by simp [e5]) ?_
        iterate 2 (first | walk1 | (dsimp only; walk1))
        refine' nameX_F ?N ?c ?m d3 ?_ ?a ?b
        (case N => assumption)
        (case a => rfl)
        (case b => rfl)
        (case c => rfl)
        (case m => simp)
        iterate 1 (first | walk1 | (dsimp only; walk1))
        refine item_at hba hn0 (by omega) (v := .ref bA) (by simp [e6]) ?_
        iterate 2 (first | walk1 | (dsimp only; walk1))
        have NX := ‹News _ L2 h10 _›
        refine getv_c xm key rA bA rV R[nn.toNat]! Bk[nn.toNat]! ⟨B2, F10, X2, T2, rfl, by show dp + 1 + 2 < _; omega, by show un + 3 + 20 * 2 + 80 < _; omega⟩ hkey l5' i5 b6 ?_ ?_
        · intro n' t' h11 tk11 k11 hlook
          obtain ⟨FB, NB, _, _⟩ := backL F N (fun b o e => k11 b o (F10.keep b o e)) (NX.grown k11)
          refine hret n' t' ((nl, W.listOf (List.map (fun p => Value.ref p.fst) prs ++ [Value.ref l9]).toArray (kk + 1)) :: (prs ++ [(l9, W.listOf #[Value.int nn tn, key] 0)])) h11 _ hlook FB (fun p hp => NB p ?_) (fun p hp => ?_) ⟨prs ++ [(l9, W.listOf #[Value.int nn tn, key] 0)], kk + 1, by simp, Paired.snoc hpr ⟨tn, 0, rfl⟩, fun p hp => ?_⟩
          · simp only [List.mem_cons, List.mem_append, List.not_mem_nil, or_false] at hp ⊢
            rcases hp with h | h | h | h | h | h | h | h | h | h
            · exact .inr (.inl h)
            · exact .inr (.inr (.inl h))
            · exact .inr (.inr (.inr (.inl h)))
            · exact .inr (.inr (.inr (.inr (.inl h))))
            · exact .inr (.inr (.inr (.inr (.inr (.inl h)))))
            · exact .inr (.inr (.inr (.inr (.inr (.inr (.inl h))))))
            · exact .inr (.inr (.inr (.inr (.inr (.inr (.inr (.inl h)))))))
            · exact .inr (.inr (.inr (.inr (.inr (.inr (.inr (.inr (.inl h))))))))
            · exact .inr (.inr (.inr (.inr (.inr (.inr (.inr (.inr (.inr h))))))))
            · exact .inl h
          · simp only [List.mem_cons, List.mem_append, List.not_mem_nil, or_false] at hp
            rcases hp with rfl | h | rfl
            · exact Ne.symm hInl
            · exact offI _ (.tail _ h)
            · exact Nat.ne_of_gt (l19 _ (.head _))
          · simp only [List.mem_append, List.mem_cons, List.not_mem_nil, or_false] at hp
            rcases hp with h | rfl
            · exact hoff p h
            · exact Nat.ne_of_gt (l19 _ hnl)
        · intro X e h11 tk11 fl rb
          refine leave_on rfl rfl fl fun h12 fl12 => ?_
          obtain ⟨FB, NB, _, _⟩ := backL (hx := hideAll h10 [L2]) (L' := L2) F N (fun b o e => hide_get (F10.keep b o e) fun q => by rw [q, Heap.get?_none_of_le F10.above] at e; cases e) (fun p hp => ⟨hide_get (NX p hp).1 (NX p hp).2.1, (NX p hp).2.1, (NX p hp).2.2⟩)
          refine hexc X e ((nl, W.listOf (List.map (fun p => Value.ref p.fst) prs ++ [Value.ref l9]).toArray (kk + 1)) :: (prs ++ [(l9, W.listOf #[Value.int nn tn, key] 0)])) (hideAll h10 [L2]) h12 _ rb FB (fun p hp => NB p ?_) ⟨prs ++ [(l9, W.listOf #[Value.int nn tn, key] 0)], kk + 1, by simp, Paired.snoc hpr ⟨tn, 0, rfl⟩, fun p hp => ?_⟩ fl12
          · simp only [List.mem_cons, List.mem_append, List.not_mem_nil, or_false] at hp ⊢
            rcases hp with h | h | h | h | h | h | h | h | h | h
            · exact .inr (.inl h)
            · exact .inr (.inr (.inl h))
            · exact .inr (.inr (.inr (.inl h)))
            · exact .inr (.inr (.inr (.inr (.inl h))))
            · exact .inr (.inr (.inr (.inr (.inr (.inl h)))))
            · exact .inr (.inr (.inr (.inr (.inr (.inr (.inl h))))))
            · exact .inr (.inr (.inr (.inr (.inr (.inr (.inr (.inl h)))))))
            · exact .inr (.inr (.inr (.inr (.inr (.inr (.inr (.inr (.inl h))))))))
            · exact .inr (.inr (.inr (.inr (.inr (.inr (.inr (.inr (.inr h))))))))
            · exact .inl h
          · simp only [List.mem_append, List.mem_cons, List.not_mem_nil, or_false] at hp
            rcases hp with h | rfl
            · exact hoff p h
            · exact Nat.ne_of_gt (l19 _ hnl)
      · have := paired_length hpr
        rw [sizeLine_eq]
        simp only [List.size_toArray, List.length_map]
        omega
    have hst0 : ∀ (g2 : Heap), g2.get? f = h8.get? f → g2.get? c' = h8.get? c' → Wd w g2 ra ba R Bk → StepOk w p loose mean mg mb g2 (.ref f) ks
        (fun i v nws => ∃ nn tn notes nws', v = .int nn tn ∧ nws = (xm, instObj 95 dm) :: (dm, dictOf [] 0) :: (L1 + 1 + 1 + 1 + 1, on) :: (L1 + 1 + 1 + 1, om) :: (L1 + 1 + 1, o3) :: (L1 + 1, o4) :: nws' ∧ run R Bk (ks.take i) n = (.ok nn, notes) ∧ NotesAt nl notes nws')
        (fun X nws => ∃ b notes nws', RaisedBy (.error b) X ∧ nws = (xm, instObj 95 dm) :: (dm, dictOf [] 0) :: (L1 + 1 + 1 + 1 + 1, on) :: (L1 + 1 + 1 + 1, om) :: (L1 + 1 + 1, o3) :: (L1 + 1, o4) :: nws' ∧ run R Bk ks n = (.error b, notes) ∧ NotesAt nl notes nws') := by
      intro g2 gf gc hw2 dp un gd cn cs a ccd cl outer A₀ base L m s' Q E i v el I oI nws G N offI hi hJ hret hexc
      obtain ⟨nn, tn, notes, nws', rfl, rfl, hrun, hN⟩ := hJ
      have hki : ks[i]? = some el := by
        exact hi
      have hnn := (run_ok ok hs0 hs4 (ks.take i)).1 nn (by rw [hrun])
      have hnl := (run_ok ok hs0 hs4 (ks.take i)).2
      rw [hrun] at hnl
      have htk := run_take (R := R) (Bk := Bk) (n := n) hki
      rw [hrun] at htk
      have hoffn : ∀ p ∈ nws', p.1 ≠ I := fun p hp => offI p (by simp [hp])
      have hInl : I ≠ nl := by
        obtain ⟨prs, kk, rfl, _, _⟩ := hN
        exact Ne.symm (hoffn _ (.head _))
      refine stepc g2 gf gc hw2 nn tn el I oI notes nws' G N hInl hoffn (hks el (List.mem_of_getElem? hki)) hnn.1 hnn.2 hN (by rw [List.length_take] at hnl; dsimp only at hnl; omega) ?_ ?_
      · intro n' t' nw2 h' tk' hl F' N' off' hN'
        refine hret _ _ h' tk' F' N' ?_ ⟨n', t', notes ++ [(nn, el)], nw2, rfl, rfl, ?_, hN'⟩
        · intro p hp
          simp only [List.mem_cons] at hp
          rcases hp with h | h | h | h | h | h | h
          · rw [h]; exact offI _ (by simp)
          · rw [h]; exact offI _ (by simp)
          · rw [h]; exact offI (L1 + 1 + 1 + 1 + 1, on) (by simp)
          · rw [h]; exact offI (L1 + 1 + 1 + 1, om) (by simp)
          · rw [h]; exact offI (L1 + 1 + 1, o3) (by simp)
          · rw [h]; exact offI (L1 + 1, o4) (by simp)
          · exact off' p h
        · rw [htk]; simp only [runS, hl]
      · intro X e nw2 href h' tk' rb F' N' hN' fl
        refine hexc X e _ href h' tk' F' (fun p hp => N' p (.tail _ hp)) fl ?_
        cases hl : look el R[nn.toNat]! Bk[nn.toNat]! with
        | ok v => rw [hl] at rb; exact rb.elim
        | error bb => exact ⟨bb, notes ++ [(nn, el)], nw2, hl ▸ rb, rfl, run_stick (by rw [htk]; simp only [runS, hl]), hN'⟩
    have hst1 : ∀ (g2 : Heap), g2.get? f = h8.get? f → g2.get? c' = h8.get? c' → Wd w g2 ra ba R Bk → StepOk w p loose mean mg mb g2 (.ref f) (.int n t :: ks)
        (fun i v nws => 1 ≤ i ∧ ∃ nn tn notes nws', v = .int nn tn ∧ nws = (xm, instObj 95 dm) :: (dm, dictOf [] 0) :: (L1 + 1 + 1 + 1 + 1, on) :: (L1 + 1 + 1 + 1, om) :: (L1 + 1 + 1, o3) :: (L1 + 1, o4) :: nws' ∧ run R Bk (ks.take (i - 1)) n = (.ok nn, notes) ∧ NotesAt nl notes nws')
        (fun X nws => ∃ b notes nws', RaisedBy (.error b) X ∧ nws = (xm, instObj 95 dm) :: (dm, dictOf [] 0) :: (L1 + 1 + 1 + 1 + 1, on) :: (L1 + 1 + 1 + 1, om) :: (L1 + 1 + 1, o3) :: (L1 + 1, o4) :: nws' ∧ run R Bk ks n = (.error b, notes) ∧ NotesAt nl notes nws') := by
      intro g2 gf gc hw2 dp un gd cn cs a ccd cl outer A₀ base L m s' Q E i v el I oI nws G N offI hi hJ hret hexc
      obtain ⟨hi1, nn, tn, notes, nws', rfl, rfl, hrun, hN⟩ := hJ
      have hki : ks[(i - 1)]? = some el := by
        obtain ⟨i, rfl⟩ : ∃ k, i = k + 1 := ⟨i - 1, by omega⟩; simpa using hi
      have hnn := (run_ok ok hs0 hs4 (ks.take (i - 1))).1 nn (by rw [hrun])
      have hnl := (run_ok ok hs0 hs4 (ks.take (i - 1))).2
      rw [hrun] at hnl
      have htk := run_take (R := R) (Bk := Bk) (n := n) hki
      rw [hrun] at htk
      have hoffn : ∀ p ∈ nws', p.1 ≠ I := fun p hp => offI p (by simp [hp])
      have hInl : I ≠ nl := by
        obtain ⟨prs, kk, rfl, _, _⟩ := hN
        exact Ne.symm (hoffn _ (.head _))
      refine stepc g2 gf gc hw2 nn tn el I oI notes nws' G N hInl hoffn (hks el (List.mem_of_getElem? hki)) hnn.1 hnn.2 hN (by rw [List.length_take] at hnl; dsimp only at hnl; omega) ?_ ?_
      · intro n' t' nw2 h' tk' hl F' N' off' hN'
        refine hret _ _ h' tk' F' N' ?_ ⟨by omega, n', t', notes ++ [(nn, el)], nw2, rfl, rfl, ?_, hN'⟩
        · intro p hp
          simp only [List.mem_cons] at hp
          rcases hp with h | h | h | h | h | h | h
          · rw [h]; exact offI _ (by simp)
          · rw [h]; exact offI _ (by simp)
          · rw [h]; exact offI (L1 + 1 + 1 + 1 + 1, on) (by simp)
          · rw [h]; exact offI (L1 + 1 + 1 + 1, om) (by simp)
          · rw [h]; exact offI (L1 + 1 + 1, o3) (by simp)
          · rw [h]; exact offI (L1 + 1, o4) (by simp)
          · exact off' p h
        · rw [show i + 1 - 1 = (i - 1) + 1 by omega]; rw [htk]; simp only [runS, hl]
      · intro X e nw2 href h' tk' rb F' N' hN' fl
        refine hexc X e _ href h' tk' F' (fun p hp => N' p (.tail _ hp)) fl ?_
        cases hl : look el R[nn.toNat]! Bk[nn.toNat]! with
        | ok v => rw [hl] at rb; exact rb.elim
        | error bb => exact ⟨bb, notes ++ [(nn, el)], nw2, hl ▸ rb, rfl, run_stick (by rw [htk]; simp only [runS, hl]), hN'⟩
    have hled : ∀ (h8 h9 : Heap), News (under s.heap [(142, tabObj ps)]) L1 h8 ((142, tabObj #[rawInt stepPos.line, rawInt stepPos.col, .ref c']) :: cod) → ∀ (nw2 : List (Addr × Obj)), (∀ b o, h8.get? b = some o → b ∉ adrs [(xm, instObj 95 dm), (dm, dictOf [] 0), (L1 + 1 + 1 + 1 + 1, on), (L1 + 1 + 1 + 1, om), (L1 + 1 + 1, o3), (L1 + 1, o4), (nl, W.listOf #[] 0)] → h9.get? b = some o) → News (under s.heap [(142, tabObj ps)]) L1 h9 ((xm, instObj 95 dm) :: (dm, dictOf [] 0) :: (L1 + 1 + 1 + 1 + 1, on) :: (L1 + 1 + 1 + 1, om) :: (L1 + 1 + 1, o3) :: (L1 + 1, o4) :: nw2) → News (under s.heap [(142, tabObj ps)]) L1 h9 ((142, tabObj #[rawInt stepPos.line, rawInt stepPos.col, .ref c']) :: (xm, instObj 95 dm) :: (dm, dictOf [] 0) :: (L1 + 1 + 1 + 1 + 1, on) :: (L1 + 1 + 1 + 1, om) :: (L1 + 1 + 1, o3) :: (L1 + 1, o4) :: (nw2 ++ cod)) := by
      intro h8 h9 N8 nw2 kp NB p hp
      simp only [List.mem_cons, List.mem_append] at hp
      have hx : ∀ q, q ∈ (142, tabObj #[rawInt stepPos.line, rawInt stepPos.col, .ref c']) :: cod → q.1 ∉ adrs [(xm, instObj 95 dm), (dm, dictOf [] 0), (L1 + 1 + 1 + 1 + 1, on), (L1 + 1 + 1 + 1, om), (L1 + 1 + 1, o3), (L1 + 1, o4), (nl, W.listOf #[] 0)] → h9.get? q.1 = some q.2 ∧ q.1 ≠ L1 ∧ (under s.heap [(142, tabObj ps)]).get? q.1 = none := fun q hq hn => by
        have h := N8 q hq
        exact ⟨kp _ _ h.1 hn, h.2⟩
      rcases hp with h | h | h | h | h | h | h | h | h
      · refine hx p (by rw [h]; exact .head _) fun q => ?_
        obtain ⟨p', hp', e⟩ := List.mem_map.mp q
        rw [h] at e
        have hlt : 142 < p'.1 := by
          simp only [List.mem_cons, List.not_mem_nil, or_false] at hp'
          rcases hp' with rfl | rfl | rfl | rfl | rfl | rfl | rfl <;> dsimp only <;> first | omega | exact Nat.lt_trans lt2 (by omega)
        rw [e] at hlt
        exact Nat.lt_irrefl _ hlt
      · exact NB p (by simp [h])
      · exact NB p (by simp [h])
      · exact NB p (by simp [h])
      · exact NB p (by simp [h])
      · exact NB p (by simp [h])
      · exact NB p (by simp [h])
      · exact NB p (by simp [h])
      · refine hx p (.tail _ h) fun q => ?_
        obtain ⟨p', hp', e⟩ := List.mem_map.mp q
        exact cn7 p h p' (.tail _ (hcell p' hp')) e.symm
    have hfin : ∀ (h9 : Heap) (nw2 : List (Addr × Obj)) (r : Addr) (v : Value) {m' : Str → Option Value}, Fr (under s.heap [(142, tabObj ps)]) L1 h9 m' → News (under s.heap [(142, tabObj ps)]) L1 h9 ((r, W.listOf #[v, .ref nl] 0) :: (142, tabObj #[rawInt stepPos.line, rawInt stepPos.col, .ref c']) :: (xm, instObj 95 dm) :: (dm, dictOf [] 0) :: (L1 + 1 + 1 + 1 + 1, on) :: (L1 + 1 + 1 + 1, om) :: (L1 + 1 + 1, o3) :: (L1 + 1, o4) :: (nw2 ++ cod)) →
        Fr h₀ L h9 m ∧ News (under s.heap [(142, tabObj ps)]) L h9 ((142, tabObj #[rawInt stepPos.line, rawInt stepPos.col, .ref c']) :: (r, W.listOf #[v, .ref nl] 0) :: (nw2 ++ cod)) := by
      intro h9 nw2 r v m' F9 N9
      obtain ⟨FB, NB, _, _⟩ := backL F N F9.keep N9
      obtain ⟨oL, _, _, eL, _⟩ := F.ns
      refine ⟨FB, fun p hp => ?_⟩
      · have hm : p ∈ (r, W.listOf #[v, .ref nl] 0) :: (142, tabObj #[rawInt stepPos.line, rawInt stepPos.col, .ref c']) :: (xm, instObj 95 dm) :: (dm, dictOf [] 0) :: (L1 + 1 + 1 + 1 + 1, on) :: (L1 + 1 + 1 + 1, om) :: (L1 + 1 + 1, o3) :: (L1 + 1, o4) :: (nw2 ++ cod) := by
          simp only [List.mem_cons, List.mem_append] at hp ⊢
          rcases hp with h | h | h
          · exact .inr (.inl h)
          · exact .inl h
          · exact .inr (.inr (.inr (.inr (.inr (.inr (.inr (.inr h)))))))
        exact ⟨(N9 p hm).1, (NB p hm).2.1, (N9 p hm).2.2⟩
    have htab' : TabOut stepPos (Str.ofString "_law_way.<locals>._law_step") 142 ps cod #[rawInt stepPos.line, rawInt stepPos.col, .ref c'] := by
      rcases cod7 with ⟨e1, _, e⟩ | e1
      · exact .inl ⟨e1, e.symm⟩
      · exact .inr ⟨c', oc, vs, tq, e1, cn7 (c', oc) (by rw [e1]; exact .head _) _ (.head _), rfl, d7, q7⟩
    have gf0 : (under h8 [(xm, instObj 95 dm), (dm, dictOf [] 0), (L1 + 1 + 1 + 1 + 1, on), (L1 + 1 + 1 + 1, om), (L1 + 1 + 1, o3), (L1 + 1, o4), (nl, W.listOf #[] 0)]).get? f = h8.get? f := hfn.trans (N8 _ (.head _)).1.symm
    have gc0 : (under h8 [(xm, instObj 95 dm), (dm, dictOf [] 0), (L1 + 1 + 1 + 1 + 1, on), (L1 + 1 + 1 + 1, om), (L1 + 1 + 1, o3), (L1 + 1, o4), (nl, W.listOf #[] 0)]).get? c' = h8.get? c' := hcn.trans hc8.symm
    have N8c : News (under s.heap [(142, tabObj ps)]) L1 h8 ((142, tabObj #[rawInt stepPos.line, rawInt stepPos.col, .ref c']) :: cod) := fun p hp => N8 p (by
      simp only [List.mem_cons, List.mem_append] at hp ⊢
      rcases hp with h | h
      · exact .inr (.inl h)
      · exact .inr (.inr (.inr h)))
    refine wpAny_Try_except ?_
    refine wpAny_mono (Q := fun fl s1 => fl = Flow.next ∧ ∃ nn tn notes nw2, ∃ m9 : Str → Option Value, ∃ h9 tk9, s1 = { s with heap := h9, toks := tk9 } ∧ Fr (under s.heap [(142, tabObj ps)]) L1 h9 (fun y => if y = Str.ofString "end" then some (.int nn tn) else m9 y) ∧ News (under s.heap [(142, tabObj ps)]) L1 h9 ((142, tabObj #[rawInt stepPos.line, rawInt stepPos.col, .ref c']) :: (xm, instObj 95 dm) :: (dm, dictOf [] 0) :: (L1 + 1 + 1 + 1 + 1, on) :: (L1 + 1 + 1 + 1, om) :: (L1 + 1 + 1, o3) :: (L1 + 1, o4) :: (nw2 ++ cod)) ∧ run R Bk ks n = (.ok nn, notes) ∧ NotesAt nl notes nw2)
      (E := fun e s1 => ∃ X href bb notes nw2 m9 h9 tk9, s1 = { s with heap := h9, toks := tk9 } ∧ Fr (under s.heap [(142, tabObj ps)]) L1 href m9 ∧ News (under s.heap [(142, tabObj ps)]) L1 href ((142, tabObj #[rawInt stepPos.line, rawInt stepPos.col, .ref c']) :: (xm, instObj 95 dm) :: (dm, dictOf [] 0) :: (L1 + 1 + 1 + 1 + 1, on) :: (L1 + 1 + 1 + 1, om) :: (L1 + 1 + 1, o3) :: (L1 + 1, o4) :: (nw2 ++ cod)) ∧ Flew (envOfC (Str.ofString "_law_way") wayScope L1 147 (.ref 146) :: envX cn cs L a ccd cl :: outer) href X e h9 ∧ RaisedBy (.error bb) X ∧ run R Bk ks n = (.error bb, notes) ∧ NotesAt nl notes nw2) ?_ ?_ ?_
    · cases b with
      | false =>
        repeat (first | walk1 | (dsimp only; walk1))
        refine reduce_i f pa ks (.int n t) [(xm, instObj 95 dm), (dm, dictOf [] 0), (L1 + 1 + 1 + 1 + 1, on), (L1 + 1 + 1 + 1, om), (L1 + 1 + 1, o3), (L1 + 1, o4), (nl, W.listOf #[] 0)] _ _ ⟨B1, F8, X1, T1, rfl, by show dp + 1 + 5 < _; omega, by show un + 3 + 20 * 5 + 80 < _; omega⟩ NW ⟨_, _, hfn, rfl⟩ rfl (fun h => nomatch h) (isList_keep hp ek) ⟨n, t, [], [(nl, W.listOf #[] 0)], rfl, rfl, rfl, [], 0, rfl, .nil, fun p hp => nomatch hp⟩ (hst0 _ gf0 gc0 hw2) ?_ ?_
        · rintro v nws9 h9 tk9 k9 N9 ⟨nn, tn, notes, nw2, rfl, rfl, hrun, hN⟩
          obtain ⟨F9, NB, kp9, fr9⟩ := backL F8 NW k9 N9
          have NZ := hled h8 h9 N8c nw2 kp9 NB
          clear stepc hst0 hst1 hled N9 NB NW N8
          rw [List.take_length] at hrun
          iterate 2 (first | walk1 | (dsimp only; walk1))
          rename_i hE FE NE
          refine wpAny_execs_nil ?_
          exact ⟨rfl, nn, tn, notes, nw2, _, hE, _, rfl, FE, NE, hrun, hN⟩
        · rintro X e nws9 href h9 tk9 k9 N9 fl ⟨bb, notes, nw2, rb, rfl, hrun, hN⟩
          obtain ⟨F9, NB, kp9, fr9⟩ := backL F8 NW k9 N9
          exact ⟨X, href, bb, notes, nw2, _, h9, _, rfl, F9, hled h8 href N8c nw2 kp9 NB, fl, rb, hrun, hN⟩
      | true =>
        clear stepc hst0
        iterate 19 (first | walk1 | (dsimp only; walk1))
        refine newList_K F8 N8 ?_ (by rw [sizeLine_eq]; show 1 ≤ _; exact Nat.le_of_ble_eq_true rfl)
        intro l6 h6b F6b N6b l6b
        iterate 1 (first | walk1 | (dsimp only; walk1))
        refine kmk_add_lit (zs := .int n t :: ks) F6b N6b ⟨_, (N6b _ (.head _)).1, rfl, _, rfl⟩ (isList_keep hp F6b.keep) (by simp) ?_ ?_
        · intro l7b h7b F7b N7b l7bb
          iterate 1 (first | walk1 | (dsimp only; walk1))
          have NWb : News (under s.heap [(142, tabObj ps)]) L1 h7b [(xm, instObj 95 dm), (dm, dictOf [] 0), (L1 + 1 + 1 + 1 + 1, on), (L1 + 1 + 1 + 1, om), (L1 + 1 + 1, o3), (L1 + 1, o4), (nl, W.listOf #[] 0)] := fun p hp => N7b p (.tail _ (.tail _ (.tail _ (.tail _ (List.mem_append_left _ (hcell p hp))))))
          have ekb : ∀ b o, (under s.heap [(142, tabObj ps)]).get? b = some o → (under h7b [(xm, instObj 95 dm), (dm, dictOf [] 0), (L1 + 1 + 1 + 1 + 1, on), (L1 + 1 + 1 + 1, om), (L1 + 1 + 1, o3), (L1 + 1, o4), (nl, W.listOf #[] 0)]).get? b = some o := fun b o e => hideAll_get _ (F7b.keep b o e) (adrs_none NWb e)
          have hfb : (under h7b [(xm, instObj 95 dm), (dm, dictOf [] 0), (L1 + 1 + 1 + 1 + 1, on), (L1 + 1 + 1 + 1, om), (L1 + 1 + 1, o3), (L1 + 1, o4), (nl, W.listOf #[] 0)]).get? f = _ := hideAll_get (adrs [(xm, instObj 95 dm), (dm, dictOf [] 0), (L1 + 1 + 1 + 1 + 1, on), (L1 + 1 + 1 + 1, om), (L1 + 1 + 1, o3), (L1 + 1, o4), (nl, W.listOf #[] 0)]) (N7b _ (.tail _ (.tail _ (.head _)))).1 (fun q => by
            obtain ⟨p, hp, e⟩ := List.mem_map.mp q
            have := l7 p (.tail _ (List.mem_append_left _ (hcell p hp)))
            rw [e] at this
            exact Nat.lt_irrefl _ this)
          dsimp only at hfb
          have hfnb : (under h7b [(xm, instObj 95 dm), (dm, dictOf [] 0), (L1 + 1 + 1 + 1 + 1, on), (L1 + 1 + 1 + 1, om), (L1 + 1 + 1, o3), (L1 + 1, o4), (nl, W.listOf #[] 0)]).get? f = h8.get? f := hfb.trans (N8 _ (.head _)).1.symm
          have hcnb : (under h7b [(xm, instObj 95 dm), (dm, dictOf [] 0), (L1 + 1 + 1 + 1 + 1, on), (L1 + 1 + 1 + 1, om), (L1 + 1 + 1, o3), (L1 + 1, o4), (nl, W.listOf #[] 0)]).get? c' = h8.get? c' := by
            rcases cod7 with ⟨_, e, _⟩ | rfl
            · exact (ekb _ _ e).trans hc8.symm
            · refine (hideAll_get _ (N7b (c', oc) (.tail _ (.tail _ (.tail _ (.tail _ (List.mem_append_right _ (.head _))))))).1 fun q => ?_).trans hc8.symm
              obtain ⟨p, hp, e⟩ := List.mem_map.mp q
              exact cn7 _ (.head _) p (.tail _ (hcell p hp)) e.symm
          have hlb : (under h7b [(xm, instObj 95 dm), (dm, dictOf [] 0), (L1 + 1 + 1 + 1 + 1, on), (L1 + 1 + 1 + 1, om), (L1 + 1 + 1, o3), (L1 + 1, o4), (nl, W.listOf #[] 0)]).IsList l7b (Value.int n t :: ks).toArray := ⟨_, hideAll_get _ (N7b _ (.head _)).1 (fun q => by
            obtain ⟨p, hp, e⟩ := List.mem_map.mp q
            have := l7bb p (.tail _ (.tail _ (.tail _ (List.mem_append_left _ (hcell p hp)))))
            rw [e] at this
            exact Nat.lt_irrefl _ this), rfl, _, rfl⟩
          have N7c : News (under s.heap [(142, tabObj ps)]) L1 h7b ((142, tabObj #[rawInt stepPos.line, rawInt stepPos.col, .ref c']) :: cod) := fun p hp => N7b p (by
            simp only [List.mem_cons, List.mem_append] at hp ⊢
            rcases hp with h | h
            · exact .inr (.inr (.inr (.inl h)))
            · exact .inr (.inr (.inr (.inr (.inr h)))))
          refine ⟨X1.keeps F7b.keep, ?_⟩
          refine reduce_m f l7b (.int n t :: ks) (.int n t) [(xm, instObj 95 dm), (dm, dictOf [] 0), (L1 + 1 + 1 + 1 + 1, on), (L1 + 1 + 1 + 1, om), (L1 + 1 + 1, o3), (L1 + 1, o4), (nl, W.listOf #[] 0)] _ _ ⟨B1, F7b, X1, T1, rfl, by show dp + 1 + 5 < _; omega, by show un + 3 + 20 * 5 + 80 < _; omega⟩ NWb ⟨_, _, hfb, rfl⟩ rfl hlb ⟨Nat.le_refl _, n, t, [], [(nl, W.listOf #[] 0)], rfl, rfl, rfl, [], 0, rfl, .nil, fun p hp => nomatch hp⟩ (hst1 _ hfnb hcnb (hw.keep ekb)) ?_ ?_
          · rintro v nws9 h9 tk9 k9 N9 ⟨_, nn, tn, notes, nw2, rfl, rfl, hrun, hN⟩
            obtain ⟨F9, NB, kp9, fr9⟩ := backL F7b NWb k9 N9
            have NZ := hled h7b h9 N7c nw2 kp9 NB
            clear hst1 hled N9 NB NW N8 NWb N7b N7c N6b N8c hfb
            rw [List.length_cons, Nat.add_sub_cancel, List.take_length] at hrun
            iterate 2 (first | walk1 | (dsimp only; walk1))
            rename_i hE FE NE
            refine wpAny_execs_nil ?_
            exact ⟨rfl, nn, tn, notes, nw2, _, hE, _, rfl, FE, NE, hrun, hN⟩
          · rintro X e nws9 href h9 tk9 k9 N9 fl ⟨bb, notes, nw2, rb, rfl, hrun, hN⟩
            obtain ⟨F9, NB, kp9, fr9⟩ := backL F7b NWb k9 N9
            exact ⟨X, href, bb, notes, nw2, _, h9, _, rfl, F9, hled h7b href N7c nw2 kp9 NB, fl, rb, hrun, hN⟩
        · rw [sizeLine_eq]; simp; omega
    · rintro fl s1 ⟨rfl, nn, tn, notes, nw2, m9, h9, tk9, rfl, F9, NZ, hrun, hN⟩
      clear stepc hst0 hst1 hled NW N8 F8 N8c
      dsimp only
      iterate 7 (first | walk1 | (dsimp only; walk1))
      refine' nameX_C ?qN ?qc ?qm don ?_ ?qa ?qb
      (case qa => rfl)
      (case qb => rfl)
      (case qN => assumption)
      (case qc => rfl)
      (case qm => simp)
      iterate 1 (first | walk1 | (dsimp only; walk1))
      refine newList_K F9 NZ ?_ (by rw [sizeLine_eq]; show 2 ≤ _; exact Nat.le_of_ble_eq_true rfl)
      intro r9 h10 F10 N10 l10
      have key := hfin h10 nw2 r9 (.int nn tn) F10 N10
      exact hret r9 nl (.int nn tn) nw2 _ cod h10 _ (fun b o e n1 n2 => F10.keep b o (hideAll_get _ e (by simpa using n1))) key.1 key.2 htab' (by rw [hrun]; exact ⟨tn, rfl⟩) (by rw [hrun]; exact hN)
    · rintro e s1 ⟨XX, href, bb, notes, nw2, m9, h9, tk9, rfl, F9, NZ, fl, rb, hrun, hN⟩
      clear stepc hst0 hst1 hled hfin NW N8 F8
      refine catch_at rfl rfl fl fun h5 fl5 => ?_
      dsimp only
      have hL0 : h₀.get? L = none := Heap.get?_none_of_le F.above
      obtain ⟨oL0, esL, epL, eL0, dL0, _⟩ := F.ns
      have gL : (under s.heap [(142, tabObj ps)]).get? L = some oL0 := hideAll_get _ eL0 (adrs_L N)
      have hLL1 : L ≠ L1 := fun q => by rw [q, Heap.get?_none_of_le F9.above] at gL; cases gL
      have hfr : framesOf (envOfC (Str.ofString "_law_way") wayScope L1 147 (.ref 146) :: envX cn cs L a ccd cl :: outer) = [L1, L] := by
        have : framesOf (envOfC (Str.ofString "_law_way") wayScope L1 147 (.ref 146) :: envX cn cs L a ccd cl :: outer) = L1 :: L :: framesOf outer := rfl
        rw [this, hout]
      have hnf : ∀ {b o}, (hideAll (under s.heap [(142, tabObj ps)]) [L]).get? b = some o → b ∉ framesOf (envOfC (Str.ofString "_law_way") wayScope L1 147 (.ref 146) :: envX cn cs L a ccd cl :: outer) := by
        intro b o e
        rw [hfr]
        intro q
        rcases List.mem_cons.mp q with rfl | q
        · rw [Heap.get?_none_of_le (by rw [hideAll_size]; exact F9.above)] at e; cases e
        · rw [hideAll_none [L] q] at e; cases e
      have st2 : ∀ b o, h₀.get? b = some o → (hideAll (under s.heap [(142, tabObj ps)]) [L]).get? b = some o := fun b o e => hideAll_get _ (st b o e) (fun q => by rw [List.mem_singleton.mp q, hL0] at e; cases e)
      have T2 := T.keeps st2
      have X2 := X.keeps st2
      have kp5 : ∀ {h'}, Flew (envOfC (Str.ofString "_law_way") wayScope L1 147 (.ref 146) :: envX cn cs L a ccd cl :: outer) href XX e h' → ∀ b o, (hideAll (under s.heap [(142, tabObj ps)]) [L]).get? b = some o → h'.get? b = some o := fun fl b o e => fl.keep (F9.keep b o (of_hideAll _ e)) (hnf e)
      have NL : ∀ {h'}, Flew (envOfC (Str.ofString "_law_way") wayScope L1 147 (.ref 146) :: envX cn cs L a ccd cl :: outer) href XX e h' → ∃ oL, oL.data = oL0.data ∧ Fr (hideAll (under s.heap [(142, tabObj ps)]) [L]) L1 h' m9 ∧ News (hideAll (under s.heap [(142, tabObj ps)]) [L]) L1 h' ((L, oL) :: (142, tabObj #[rawInt stepPos.line, rawInt stepPos.col, .ref c']) :: (xm, instObj 95 dm) :: (dm, dictOf [] 0) :: (L1 + 1 + 1 + 1 + 1, on) :: (L1 + 1 + 1 + 1, om) :: (L1 + 1 + 1, o3) :: (L1 + 1, o4) :: (nw2 ++ cod)) := by
        intro h' fl'
        obtain ⟨sl, esl⟩ := fl'.up L oL0 (F9.keep _ _ gL) (fun vs q => by rw [dL0] at q; cases q)
        refine ⟨{ oL0 with slots := sl }, rfl, ⟨fl'.up.ns F9.ns, kp5 fl', by rw [hideAll_size]; exact F9.above⟩, fun p hp => ?_⟩
        rcases List.mem_cons.mp hp with rfl | hp
        · exact ⟨esl, hLL1, hideAll_none [L] (.head _)⟩
        · have hz := NZ p hp
          refine ⟨fl'.keep hz.1 ?_, hz.2.1, ?_⟩
          · rw [hfr]
            intro q
            rcases List.mem_cons.mp q with q | q
            · exact hz.2.1 q
            · rw [List.mem_singleton.mp q, gL] at hz; cases hz.2.2
          · cases q : (hideAll (under s.heap [(142, tabObj ps)]) [L]).get? p.1 with
            | none => rfl
            | some o => have := of_hideAll _ q; rw [hz.2.2] at this; cases this
      have hfin2 : ∀ (h10 : Heap) (r : Addr) (v : Value) (oL : Obj) {m' : Str → Option Value}, oL.data = oL0.data → Fr (hideAll (under s.heap [(142, tabObj ps)]) [L]) L1 h10 m' → News (hideAll (under s.heap [(142, tabObj ps)]) [L]) L1 h10 ((r, W.listOf #[v, .ref nl] 0) :: (L, oL) :: (142, tabObj #[rawInt stepPos.line, rawInt stepPos.col, .ref c']) :: (xm, instObj 95 dm) :: (dm, dictOf [] 0) :: (L1 + 1 + 1 + 1 + 1, on) :: (L1 + 1 + 1 + 1, om) :: (L1 + 1 + 1, o3) :: (L1 + 1, o4) :: (nw2 ++ cod)) → L < r →
          Fr h₀ L h10 m ∧ News (under s.heap [(142, tabObj ps)]) L h10 ((142, tabObj #[rawInt stepPos.line, rawInt stepPos.col, .ref c']) :: (r, W.listOf #[v, .ref nl] 0) :: (nw2 ++ cod)) := by
        intro h10 r v oL m' dL F10 N10 hLr
        obtain ⟨oL1, es, ep, eL1, dL1, rL1⟩ := F.ns
        obtain rfl : oL1 = oL0 := by rw [eL0] at eL1; exact (Option.some.inj eL1).symm
        refine ⟨⟨⟨oL, es, ep, (N10 _ (.tail _ (.head _))).1, dL.trans dL1, rL1⟩, fun b o e => F10.keep b o (st2 b o e), F.above⟩, fun p hp => ?_⟩
        · have old : p ∈ (142, tabObj #[rawInt stepPos.line, rawInt stepPos.col, .ref c']) :: (xm, instObj 95 dm) :: (dm, dictOf [] 0) :: (L1 + 1 + 1 + 1 + 1, on) :: (L1 + 1 + 1 + 1, om) :: (L1 + 1 + 1, o3) :: (L1 + 1, o4) :: (nw2 ++ cod) → h10.get? p.1 = some p.2 ∧ p.1 ≠ L ∧ (under s.heap [(142, tabObj ps)]).get? p.1 = none := fun hm =>
            ⟨(N10 p (.tail _ (.tail _ hm))).1, (fun q => by have hz := (NZ p hm).2.2; rw [q, gL] at hz; cases hz), (NZ p hm).2.2⟩
          simp only [List.mem_cons, List.mem_append] at hp
          rcases hp with h | rfl | h
          · exact old (by rw [h]; exact .head _)
          · refine ⟨(N10 _ (.head _)).1, Nat.ne_of_gt hLr, ?_⟩
            cases q : (under s.heap [(142, tabObj ps)]).get? r with
            | none => rfl
            | some o => have := (N10 _ (.head _)).2.2; rw [hide_get q (Nat.ne_of_gt hLr)] at this; cases this
          · exact old (by simp only [List.mem_cons, List.mem_append]; exact .inr (.inr (.inr (.inr (.inr (.inr (.inr h)))))))
      cases bb with
      | true =>
        obtain rfl : XX = "IndexError" := rb
        refine handler_yes (T' := "IndexError") fl5 PySem.F.isExc_IndexError PySem.F.notTuple_IndexError sub_IndexError_self (fun hq => builtin_at T2 (kp5 fl5) (mg_none_of X2 T2.g (by k_is)) PyProof.Rows.Boot.«IndexError» hq (by decide) rfl rfl rfl rfl (by decide)) fun h6 fl6 => ?_
        obtain ⟨oL, dL, F6, N6⟩ := NL fl6
        clear NZ F9 N8c fl fl5
        dsimp only
        iterate 4 (first | walk1 | (dsimp only; walk1))
        dsimp only
        refine wpAny_execs_nil ?_
        dsimp only
        rename_i h7e F7e N7e
        iterate 7 (first | walk1 | (dsimp only; walk1))
        refine' nameX_C N7e ?qc2 ?qm2 don ?_ ?qa2 ?qb2
        (case qa2 => rfl)
        (case qb2 => rfl)
        (case qc2 => rfl)
        (case qm2 => simp)
        iterate 1 (first | walk1 | (dsimp only; walk1))
        refine newList_K F7e N7e ?_ (by rw [sizeLine_eq]; show 2 ≤ _; exact Nat.le_of_ble_eq_true rfl)
        intro r9 h10 F10 N10 l10
        have key := hfin2 h10 r9 _ oL dL F10 N10 (l10 _ (.head _))
        refine hret r9 nl _ nw2 _ cod h10 _ (fun b o e n1 n2 => F10.keep b o (hide_get (hideAll_get _ e (by simpa using n1)) (fun q => n2 ((frames_cons rfl).mpr (.inl q))))) key.1 key.2 htab' (by rw [hrun]; exact ⟨_, rfl⟩) (by rw [hrun]; exact hN)
      | false =>
        obtain rfl : XX = "KeyError" := rb
        refine handler_no (T' := "IndexError") fl5 PySem.F.isExc_IndexError PySem.F.notTuple_IndexError sub_KeyError_IndexError (fun hq => builtin_at T2 (kp5 fl5) (mg_none_of X2 T2.g (by k_is)) PyProof.Rows.Boot.«IndexError» hq (by decide) rfl rfl rfl rfl (by decide)) ?_
        refine handler_yes (T' := "KeyError") fl5 kr_isExc_KeyError kr_notTuple_KeyError sub_KeyError_self (fun hq => builtin_at T2 (kp5 fl5) (mg_none_of X2 T2.g (by k_is)) PyProof.Rows.Boot.«KeyError» hq (by decide) rfl rfl rfl rfl (by decide)) fun h6 fl6 => ?_
        obtain ⟨oL, dL, F6, N6⟩ := NL fl6
        clear NZ F9 N8c fl fl5
        dsimp only
        iterate 4 (first | walk1 | (dsimp only; walk1))
        dsimp only
        refine wpAny_execs_nil ?_
        dsimp only
        rename_i h7e F7e N7e
        iterate 7 (first | walk1 | (dsimp only; walk1))
        refine' nameX_C N7e ?qc3 ?qm3 don ?_ ?qa3 ?qb3
        (case qa3 => rfl)
        (case qb3 => rfl)
        (case qc3 => rfl)
        (case qm3 => simp)
        iterate 1 (first | walk1 | (dsimp only; walk1))
        refine newList_K F7e N7e ?_ (by rw [sizeLine_eq]; show 2 ≤ _; exact Nat.le_of_ble_eq_true rfl)
        intro r9 h10 F10 N10 l10
        have key := hfin2 h10 r9 _ oL dL F10 N10 (l10 _ (.head _))
        refine hret r9 nl _ nw2 _ cod h10 _ (fun b o e n1 n2 => F10.keep b o (hide_get (hideAll_get _ e (by simpa using n1)) (fun q => n2 ((frames_cons rfl).mpr (.inl q))))) key.1 key.2 htab' (by rw [hrun]; exact ⟨_, rfl⟩) (by rw [hrun]; exact hN)

def IsOut (v : Value) : Prop := (∃ n t, v = .int n t ∧ 0 ≤ n ∧ n < 4) ∨ ∃ x t, v = .str x t
def JoinV (vs2 : List Value) (v y : Value) : Prop := (∃ x t, v = .str x t ∧ y = v) ∨ (∃ n t, v = .int n t ∧ vs2[n.toNat]? = some y)
theorem join_c {w : World} {p : Program} {loose : List Str} {mean : ExcName → Option Value} {mg mb : Str → Option Value} {dp un : Nat} {gd : Option (List Code)} {cn : Str} {cs : Scope} {a : Addr} {ccd : Value} {cl : List (Str × Addr)} {outer : List Env} {A₀ : Around} {base h₀ : Heap} {L : Addr} {m : Str → Option Value} {s : Shared} {Q E : Value → Shared → Prop} (a1 a2 : Addr) (vs1 vs2 : List Value) (G : Gd 2 w p loose mean mg mb dp un cs outer A₀ base h₀ L m s.heap) (hl1 : s.heap.IsList a1 vs1.toArray) (hl2 : s.heap.IsList a2 vs2.toArray) (hn : vs1.length ≤ 1000) (h4 : vs2.length = 4) (ho : ∀ v ∈ vs1, IsOut v)
    (hret : ∀ r ys h' tk', (∀ b o, s.heap.get? b = some o → h'.get? b = some o) → s.heap.get? r = none → h'.PlainList r ys → Paired (JoinV vs2) vs1 ys.toList → Q (.ref r) { s with heap := h', toks := tk' }) :
    wpAny (model PG w) (ktrTop dp un gd cn cs L a ccd cl outer) (call (.ref 152) [.ref a1, .ref a2]) Q E s := by
  obtain ⟨B, F, X, T, hk, hd, hu⟩ := G
  refine wpAny_call ?_
  k_dflt (refine' enterC ?k1 ?k2 ?k3 ?k5 ?kA ?kF ?kK ?k6 ?k7 ?k8 ?k9 ?kB ?kD ?_ ?c2 ?c3 ?c4; (case kA => exact rfl); (case kF => exact rfl); (case kK => assumption); (case k1 => k_asm); (case k2 => k_asm); (case k3 => k_asm); (case k5 => k_asm); (case k6 => k_is); (case k7 => k_is); (case k8 => ktr_room); (case k9 => exact BindsTo.of_eq rfl); (case kB => exact rfl); (case kD => decide +kernel); (case c2 => exact rfl); (case c3 => exact rfl); (case c4 => exact rfl); k_whole)
  intro L1 h1 tk1 cells1 F1 N1 Y1 B1 X1 T1
  obtain ⟨o1, hE1, d1⟩ := CellsAre.one Y1
  subst hE1; clear Y1
  replace d1 : o1.data = .cell (some (.ref a2)) := d1
  iterate 2 (first | walk1 | (dsimp only; walk1))
  refine wpAny_ListComp_free (fun _ => true) (JoinV vs2) (by with_unfolding_all rfl) (by decide) (by rfl) (by decide) (by rfl) ?_
  iterate 1 (first | walk1 | (dsimp only; walk1))
  refine src_list rfl F1 N1 (isList_keep hl1 F1.keep) (by rw [sizeLine_eq, List.size_toArray]; omega) ?_ ?_ ?_
  · intro C oC i v s₃ m₃ E' hv hoC hx F₃ N₃ hk₃
    exact forIn_nil ⟨rfl, _, _, rfl, fun _ _ e => e⟩
  · intro C oC i v s₃ m₃ E' hv hp hoC hx F₃ N₃ hk₃
    rcases ho v (List.mem_of_getElem? (by simpa using hv)) with ⟨n, t, rfl, h0, h3⟩ | ⟨x, t, rfl⟩
    · repeat (first | walk1 | (dsimp only; walk1))
      have hlt : n.toNat < vs2.length := by omega
      refine item_at (isList_keep hl2 F₃.keep) h0 (by omega) (v := vs2[n.toNat]) (by simp [hlt]) ?_
      exact ⟨.inr ⟨n, t, rfl, List.getElem?_eq_getElem hlt⟩, _, _, rfl, fun _ _ e => e⟩
    · repeat (first | walk1 | (dsimp only; walk1))
      · exact .inl ⟨x, t, rfl, rfl⟩
      · exact ⟨_, _, rfl, fun _ _ e => e⟩
  · intro D h' tk ys vs hD hpl hlen hj hF F₃ N₃ hk₃
    refine hret D ys h' tk (fun b o e => F₃.keep b o e) hD hpl ?_
    rw [filter_tt] at hF
    have : vs = vs1 := by
      apply List.ext_getElem?
      intro j
      cases q : vs[j]? with
      | some v => have := hj j v q; simpa using this.symm
      | none =>
        have := List.getElem?_eq_none_iff.mp q
        rw [hlen, List.size_toArray] at this
        exact (List.getElem?_eq_none this).symm
    exact this ▸ hF

theorem fronts_none {w : World} {p : Program} {loose : List Str} {mean : ExcName → Option Value} {mg mb : Str → Option Value} {dp un : Nat} {gd : Option (List Code)} {cn : Str} {cs : Scope} {a : Addr} {ccd : Value} {cl : List (Str × Addr)} {outer : List Env} {A₀ : Around} {base h₀ : Heap} {L : Addr} {m : Str → Option Value} {s : Shared} {Q E : Value → Shared → Prop} (tb : Addr) (G : Gd 3 w p loose mean mg mb dp un cs outer A₀ base h₀ L m s.heap)
    (hret : ∀ r h' tk', (∀ b o, s.heap.get? b = some o → h'.get? b = some o) → s.heap.get? r = none → h'.PlainList r #[.ref tb] → Q (.ref r) { s with heap := h', toks := tk' }) :
    wpAny (model PG w) (ktrTop dp un gd cn cs L a ccd cl outer) (call (.ref 159) [.none, .ref tb]) Q E s := by
  obtain ⟨B, F, X, T, hk, hd, hu⟩ := G
  refine wpAny_call ?_
  k_dflt (refine' enterP ?k1 ?k2 ?k3 ?k5 ?kA ?kF ?kK ?k6 ?k7 ?k8 ?k9 ?kB ?_ ?c2 ?c3 ?c4 ?c5; (case kA => exact rfl); (case kF => exact rfl); (case kK => assumption); (case k1 => k_asm); (case k2 => k_asm); (case k3 => k_asm); (case k5 => k_asm); (case k6 => k_is); (case k7 => k_is); (case k8 => ktr_room); (case k9 => exact BindsTo.of_eq rfl); (case c5 => decide); (case kB => exact locs rfl); (case c2 => exact rfl); (case c3 => exact rfl); (case c4 => exact rfl); k_whole)
  intro L1 h1 F1 N1 B1 X1 T1
  repeat (first | walk1 | (dsimp only; walk1))
  rename_i l9 h9 F9 N9 l9t
  exact hret _ _ _ F9.keep (N9 _ (.head _)).2.2 ⟨_, (N9 _ (.head _)).1⟩
theorem fronts_row {w : World} {p : Program} {loose : List Str} {mean : ExcName → Option Value} {mg mb : Str → Option Value} {dp un : Nat} {gd : Option (List Code)} {cn : Str} {cs : Scope} {a : Addr} {ccd : Value} {cl : List (Str × Addr)} {outer : List Env} {A₀ : Around} {base h₀ : Heap} {L : Addr} {m : Str → Option Value} {s : Shared} {Q E : Value → Shared → Prop} (ra tb la : Addr) (vs vs1 vs2 : List Value) (G : Gd 3 w p loose mean mg mb dp un cs outer A₀ base h₀ L m s.heap) (hl : s.heap.IsList ra (vs ++ [Value.ref la]).toArray) (hl1 : s.heap.IsList la vs1.toArray) (hl2 : s.heap.IsList tb vs2.toArray) (hvn : vs.length ≤ 1000) (hn : vs1.length ≤ 1000) (h4 : vs2.length = 4) (ho : ∀ v ∈ vs1, IsOut v)
    (hret : ∀ r rj ys h' tk', (∀ b o, s.heap.get? b = some o → h'.get? b = some o) → s.heap.get? r = none → s.heap.get? rj = none → h'.PlainList r (vs ++ [Value.ref la, Value.ref rj]).toArray → h'.PlainList rj ys → Paired (JoinV vs2) vs1 ys.toList → Q (.ref r) { s with heap := h', toks := tk' }) :
    wpAny (model PG w) (ktrTop dp un gd cn cs L a ccd cl outer) (call (.ref 159) [.ref ra, .ref tb]) Q E s := by
  obtain ⟨B, F, X, T, hk, hd, hu⟩ := G
  refine wpAny_call ?_
  k_dflt (refine' enterP ?k1 ?k2 ?k3 ?k5 ?kA ?kF ?kK ?k6 ?k7 ?k8 ?k9 ?kB ?_ ?c2 ?c3 ?c4 ?c5; (case kA => exact rfl); (case kF => exact rfl); (case kK => assumption); (case k1 => k_asm); (case k2 => k_asm); (case k3 => k_asm); (case k5 => k_asm); (case k6 => k_is); (case k7 => k_is); (case k8 => ktr_room); (case k9 => exact BindsTo.of_eq rfl); (case c5 => decide); (case kB => exact locs rfl); (case c2 => exact rfl); (case c3 => exact rfl); (case c4 => exact rfl); k_whole)
  intro L1 h1 F1 N1 B1 X1 T1
  repeat (first | walk1 | (dsimp only; walk1))
  have hl' := isList_keep hl F1.keep
  refine tail_any hl'.typeIs slot_list_getitem.lookup (wpAny_getItem_list_neg hl' (by omega) (by simp; omega) (by decide) (x := .ref la) (by simp only [List.size_toArray, List.length_append, List.length_cons, List.length_nil, List.getElem?_toArray]; rw [show (-1 + ((vs.length + (0 + 1) : Nat) : Int)).toNat = vs.length by omega]; simp) ?_) (by with_unfolding_all rfl)
  iterate 3 (first | walk1 | (dsimp only; walk1))
  refine ⟨X1.keeps F1.keep, ?_⟩
  refine join_c la tb vs1 vs2 ⟨B1, F1, X1, T1, rfl, by show dp + 1 + 2 < _; omega, by show un + 3 + 20 * 2 + 80 < _; omega⟩ (isList_keep hl1 F1.keep) (isList_keep hl2 F1.keep) hn h4 ho ?_
  intro rj ys h2 tk2 k2 new2 hpl2 hJ
  have F2 := F1.keeps k2
  obtain ⟨nj, ej⟩ := hpl2
  have N2 := News.more F2 (N1.grown k2) ej (fun es n q => by cases q) (get_none_of_keep F1.keep new2)
  have new2r := get_none_of_keep F1.keep new2
  clear N1 F1
  dsimp only
  iterate 1 (first | walk1 | (dsimp only; walk1))
  refine newList_K F2 N2 ?_ (by rw [sizeLine_eq]; show 1 ≤ _; exact Nat.le_of_ble_eq_true rfl)
  intro l3 h3 F3 N3 l3t
  dsimp only
  refine kmk_add_lit (zs := vs ++ [Value.ref la, Value.ref rj]) F3 N3 (isList_keep hl F3.keep) ⟨_, (N3 _ (.head _)).1, rfl, _, rfl⟩ (by simp) ?_ (by rw [sizeLine_eq]; simp; omega)
  intro D h4 F4 N4 l4t
  dsimp only
  exact hret D rj ys h4 _ F4.keep (N4 _ (.head _)).2.2 new2r ⟨_, (N4 _ (.head _)).1⟩ ⟨nj, (N4 _ (.tail _ (.tail _ (.head _)))).1⟩ hJ

def joinT (one two : List (Except Bool Int)) : List (Except Bool Int) := one.map fun r => match r with | .ok n => two[n.toNat]! | .error b => .error b
def frontAt (Ts : List (List (Except Bool Int))) : Nat → List (Except Bool Int)
  | 0 => Ts[0]!
  | k + 1 => joinT (frontAt Ts k) Ts[k + 1]!
abbrev TabV (vs : List Value) (T : List (Except Bool Int)) : Prop := Paired (fun v r => OutIs r v) vs T
def OkT (T : List (Except Bool Int)) : Prop := T.length = 4 ∧ ∀ n, .ok n ∈ T → 0 ≤ n ∧ n < 4
theorem paired_get {α β : Type} [Inhabited β] {F : α → β → Prop} {l : List α} {l' : List β} (h : Paired F l l') : ∀ {i : Nat} {x : α}, l[i]? = some x → F x l'[i]! := by
  induction h with
  | nil => intro i x e; simp at e
  | cons h1 _ ih =>
    intro i x e
    cases i with
    | zero => simp at e; subst e; simpa using h1
    | succ i => simpa using ih (by simpa using e)
theorem tabV_out {vs : List Value} {T : List (Except Bool Int)} (h : TabV vs T) : (∀ n, .ok n ∈ T → 0 ≤ n ∧ n < 4) → ∀ v ∈ vs, IsOut v := by
  induction h with
  | nil => intro _ v hv; cases hv
  | @cons v r vs T h1 _ ih =>
    intro ok v hv
    rcases List.mem_cons.mp hv with rfl | hv
    · cases r with
      | ok n => obtain ⟨t, rfl⟩ := h1; exact .inl ⟨n, t, rfl, ok n List.mem_cons_self⟩
      | error b => cases b <;> (obtain ⟨t, rfl⟩ := h1; exact .inr ⟨_, t, rfl⟩)
    · exact ih (fun n hn => ok n (List.mem_cons_of_mem _ hn)) v hv
theorem joinT_ok {one two : List (Except Bool Int)} (h1 : OkT one) (h2 : OkT two) : OkT (joinT one two) := by
  refine ⟨by simp [joinT, h1.1], fun n hn => ?_⟩
  obtain ⟨r, hr, e⟩ := List.mem_map.mp hn
  cases r with
  | error b => cases e
  | ok k =>
    have hk := h1.2 k hr
    dsimp only at e
    refine h2.2 n ?_
    have hlt : k.toNat < two.length := by rw [h2.1]; omega
    rw [← e, List.getElem!_eq_getElem?_getD, List.getElem?_eq_getElem hlt]
    exact List.getElem_mem hlt
theorem join_tab {vs1 vs2 ys : List Value} {T1 T2 : List (Except Bool Int)} (hj : Paired (JoinV vs2) vs1 ys) : TabV vs1 T1 → TabV vs2 T2 → TabV ys (joinT T1 T2) := by
  intro h1 h2
  induction hj generalizing T1 with
  | nil => cases h1; exact .nil
  | @cons v y vs1 ys hv _ ih =>
    cases h1 with
    | @cons _ r _ T1 hr h1 =>
      refine .cons ?_ (ih h1)
      rcases hv with ⟨x, t, rfl, rfl⟩ | ⟨n, t, rfl, e⟩
      · cases r with
        | ok n => obtain ⟨t, e⟩ := hr; cases e
        | error b => exact hr
      · cases r with
        | ok k =>
          obtain ⟨t', e'⟩ := hr
          cases e'
          exact paired_get h2 e
        | error b => cases b <;> (obtain ⟨t, e⟩ := hr; cases e)
theorem frontAt_ok {Ts : List (List (Except Bool Int))} (h : ∀ i, i < Ts.length → OkT Ts[i]!) : ∀ k, k < Ts.length → OkT (frontAt Ts k)
  | 0, hk => h 0 hk
  | k + 1, hk => joinT_ok (frontAt_ok h k (by omega)) (h _ hk)
theorem news_new {g h h' : Heap} {L r : Addr} {m : Str → Option Value} {o : Obj} {news : List (Addr × Obj)} (F : Fr g L h m) (e : h'.get? r = some o) (new : h.get? r = none) (N : News g L h' news) : News g L h' ((r, o) :: news) := by
  intro p hp
  rcases List.mem_cons.mp hp with rfl | hp
  · refine ⟨e, fun q => ?_, get_none_of_keep F.keep new⟩
    obtain ⟨oL, _, _, eL, _⟩ := F.ns
    have q' : r = L := q
    rw [q', eL] at new; cases new
  · exact N p hp
theorem srcAt_mono {g : Heap} {a : Addr} {its : Array Value} {news news' : List (Addr × Obj)} (x : LCg.SrcAt g a its news) (sub : ∀ p ∈ news, p ∈ news') : LCg.SrcAt g a its news' := by
  rcases x with h | ⟨o, hm, r⟩
  · exact .inl h
  · exact .inr ⟨o, sub _ hm, r⟩
def SrcN (news : List (Addr × Obj)) (a : Addr) (its : Array Value) : Prop := ∃ o, (a, o) ∈ news ∧ o.cls = .type "list" ∧ ∃ n, o.data = .seq its n
theorem SrcN.list {news : List (Addr × Obj)} {a : Addr} {its : Array Value} {h : Heap} (x : SrcN news a its) (hs : ∀ p ∈ news, h.get? p.1 = some p.2) : h.IsList a its := let ⟨o, hm, r⟩ := x; ⟨o, hs _ hm, r⟩
theorem SrcN.mono {news news' : List (Addr × Obj)} {a : Addr} {its : Array Value} (x : SrcN news a its) (sub : ∀ p ∈ news, p ∈ news') : SrcN news' a its := let ⟨o, hm, r⟩ := x; ⟨o, sub _ hm, r⟩
def SrcG (g : Heap) (tvs : List Value) (k : Nat) (a : Addr) (vs : List Value) (news : List (Addr × Obj)) : Prop := (k = 0 ∧ tvs[0]? = some (.ref a) ∧ g.IsList a vs.toArray) ∨ SrcN news a vs.toArray
theorem SrcG.list {g h : Heap} {tvs : List Value} {k : Nat} {a : Addr} {vs : List Value} {news : List (Addr × Obj)} (x : SrcG g tvs k a vs news) (kp : ∀ b o, g.get? b = some o → h.get? b = some o) (hs : ∀ p ∈ news, h.get? p.1 = some p.2) : h.IsList a vs.toArray := by
  rcases x with ⟨_, _, hl⟩ | hl
  · exact isList_keep hl kp
  · exact hl.list hs
def FrontJ (g : Heap) (tvs : List Value) (Ts : List (List (Except Bool Int))) (i : Nat) (v : Value) (news : List (Addr × Obj)) : Prop :=
  (i = 0 ∧ v = .none ∧ news = []) ∨ ∃ (a : Addr) (ras : List Addr), v = .ref a ∧ 0 < i ∧ ras.length = i ∧ SrcN news a (ras.map Value.ref).toArray ∧ ∀ k, k < i → ∃ ra vs, ras[k]? = some ra ∧ SrcG g tvs k ra vs news ∧ TabV vs (frontAt Ts k)
theorem fronts_step {w : World} {p : Program} {loose : List Str} {mean : ExcName → Option Value} {mg mb : Str → Option Value} {g : Heap} {tvs : List Value} {Ts : List (List (Except Bool Int))} (hlen : Ts.length ≤ 900) (hok : ∀ i, i < Ts.length → OkT Ts[i]!)
    (hT : ∀ i el, tvs[i]? = some el → i < Ts.length ∧ ∃ ta vs, el = .ref ta ∧ g.IsList ta vs.toArray ∧ TabV vs Ts[i]!) :
    StepOk w p loose mean mg mb g (.ref 159) tvs (FrontJ g tvs Ts) (fun _ _ => False) := by
  intro dp un gd cn cs a ccd cl outer A₀ base L m s Q E i v el I oI news G N offI hi hJ hret hexc
  obtain ⟨hiT, ta, tv, rfl, htl, htv⟩ := hT i el hi
  have F := G.F
  obtain ⟨oL, _, _, eL, _⟩ := F.ns
  have newI : ∀ {r : Addr}, s.heap.get? r = none → r ≠ I := fun {r} hn q => by have := (N _ (.head _)).1; dsimp only at this; rw [← q, hn] at this; cases this
  rcases hJ with ⟨rfl, rfl, rfl⟩ | ⟨ra, ras, rfl, hi0, hrl, hsrc, hall⟩
  · refine fronts_none ta G ?_
    intro r h' tk' k new hpl
    obtain ⟨n, e⟩ := hpl
    have NB := news_new F e new (N.grown k)
    refine hret _ [(r, ({ cls := .type "list", data := .seq #[.ref ta] n } : Obj))] h' tk' (F.keeps k) (fun q hq => NB q ?_) (fun q hq => ?_) (.inr ⟨r, [ta], rfl, Nat.one_pos, rfl, ⟨_, .head _, rfl, n, rfl⟩, fun k hk => ?_⟩)
    · simp only [List.mem_cons, List.not_mem_nil, or_false] at hq ⊢
      rcases hq with h | h
      · exact .inr h
      · exact .inl h
    · rw [List.mem_singleton.mp hq]; exact newI new
    · obtain rfl : k = 0 := by omega
      exact ⟨ta, tv, rfl, .inl ⟨rfl, hi, htl⟩, htv⟩
  · obtain ⟨k, rfl⟩ : ∃ k, i = k + 1 := ⟨i - 1, by omega⟩
    have N1 : News g L s.heap news := fun q hq => N q (.tail _ hq)
    obtain ⟨la, lv, e1, hls, hlv⟩ := hall k (by omega)
    have hras : ras = ras.take k ++ [la] := by
      have h1 := List.take_append_drop k ras
      have hlt : k < ras.length := by omega
      rw [List.drop_eq_getElem_cons hlt, List.drop_eq_nil_of_le (by omega)] at h1
      have : ras[k] = la := by rw [List.getElem?_eq_getElem hlt] at e1; exact Option.some.inj e1
      rw [this] at h1
      exact h1.symm
    have okk := frontAt_ok hok k (by omega)
    refine fronts_row ra ta la ((ras.take k).map Value.ref) lv tv G ?_ (hls.list F.keep fun p hp => (N1 p hp).1) (isList_keep htl F.keep) (by rw [List.length_map, List.length_take]; omega) ?_ ?_ (tabV_out hlv okk.2) ?_
    · have := hsrc.list fun p hp => (N1 p hp).1
      rw [hras, List.map_append] at this
      exact this
    · rw [paired_length hlv, okk.1]; decide
    · rw [paired_length htv, (hok _ hiT).1]
    · intro r rj ys h' tk' kp newr newj hpr hpj hjoin
      obtain ⟨nr, er⟩ := hpr
      obtain ⟨nj, ej⟩ := hpj
      have NB := news_new F er newr (news_new F ej newj (N.grown kp))
      refine hret _ ((r, ({ cls := .type "list", data := .seq ((ras.take k).map Value.ref ++ [Value.ref la, Value.ref rj]).toArray nr } : Obj)) :: (rj, ({ cls := .type "list", data := .seq ys nj } : Obj)) :: news) h' tk' (F.keeps kp) (fun q hq => NB q ?_) (fun q hq => ?_) (.inr ⟨r, ras ++ [rj], rfl, by omega, by simp [hrl], ⟨({ cls := .type "list", data := .seq ((ras.take k).map Value.ref ++ [Value.ref la, Value.ref rj]).toArray nr } : Obj), .head _, rfl, nr, ?_⟩, fun k' hk' => ?_⟩)
      · simp only [List.mem_cons] at hq ⊢
        rcases hq with h | h | h | h
        · exact .inr (.inr (.inl h))
        · exact .inl h
        · exact .inr (.inl h)
        · exact .inr (.inr (.inr h))
      · simp only [List.mem_cons] at hq
        rcases hq with h | h | h
        · rw [h]; exact newI newr
        · rw [h]; exact newI newj
        · exact offI q h
      · show Data.seq _ nr = _
        congr 1
        conv => rhs; rw [hras]
        simp
      · by_cases hlt : k' < k + 1
        · obtain ⟨ra', vs', e', s', t'⟩ := hall k' hlt
          exact ⟨ra', vs', by rw [List.getElem?_append_left (by omega)]; exact e', (s'.imp id fun x => x.mono fun q hq => .tail _ (.tail _ hq)), t'⟩
        · obtain rfl : k' = k + 1 := by omega
          refine ⟨rj, ys.toList, by rw [List.getElem?_append_right (by omega), hrl]; simp, .inr ⟨({ cls := .type "list", data := .seq ys nj } : Obj), .tail _ (.head _), rfl, nj, by simp⟩, join_tab hjoin hlv htv⟩

def Has (h : Heap) (l : List (Addr × Obj)) : Prop := ∀ p ∈ l, h.get? p.1 = some p.2
theorem Has.keep {h h' : Heap} {l : List (Addr × Obj)} (x : Has h l) (k : ∀ b o, h.get? b = some o → h'.get? b = some o) : Has h' l := fun p hp => k _ _ (x p hp)
theorem Has.of {g h : Heap} {L : Addr} {l : List (Addr × Obj)} (N : News g L h l) : Has h l := fun p hp => (N p hp).1
theorem Has.sub {h : Heap} {l l' : List (Addr × Obj)} (x : Has h l) (sub : ∀ p ∈ l', p ∈ l) : Has h l' := fun p hp => x p (sub p hp)
def outD : Except Bool Int → PyData
  | .ok n => .int n
  | .error true => .str (Str.ofString "IndexError")
  | .error false => .str (Str.ofString "KeyError")
def tabD (T : List (Except Bool Int)) : PyData := .list (T.map outD)
def keyD : Value → PyData
  | .int k _ => .int k
  | .bool b => .bool b
  | .str x _ => .str x
  | _ => .none
def noteD (q : Int × Value) : PyData := .list [.int q.1, keyD q.2]
def runD (r : Except Bool Int × List (Int × Value)) : PyData := .list [outD r.1, .list (r.2.map noteD)]
theorem reads_out {h : Heap} {r : Except Bool Int} {v : Value} (x : OutIs r v) : Reads h v (outD r) [] := by
  cases r with
  | ok n => obtain ⟨t, rfl⟩ := x; exact .int n t
  | error b => cases b <;> (obtain ⟨t, rfl⟩ := x; exact .str _ t)
theorem reads_outs {h : Heap} {vs : List Value} {T : List (Except Bool Int)} (x : TabV vs T) : ReadsAll h vs (T.map outD) [] := by
  induction x with
  | nil => exact .nil
  | cons h1 _ ih => exact ReadsAll.cons (as := []) (reads_out h1) ih
theorem reads_isList {h : Heap} {a : Addr} {vs : List Value} {ds : List PyData} {as : List Addr} (hl : h.IsList a vs.toArray) (r : ReadsAll h vs ds as) : Reads h (.ref a) (.list ds) (a :: as) := by
  obtain ⟨o, e, hc, n, hd⟩ := hl
  exact .list e hc hd (by simpa using r)
theorem reads_tab {h : Heap} {a : Addr} {vs : List Value} {T : List (Except Bool Int)} (hl : h.IsList a vs.toArray) (x : TabV vs T) : Reads h (.ref a) (tabD T) [a] := reads_isList hl (reads_outs x)
theorem reads_key {h : Heap} {v : Value} (x : IsKey v) : Reads h v (keyD v) [] := by
  rcases x with ⟨k, t, rfl, _⟩ | rfl | ⟨y, t, rfl, _⟩ | rfl
  · exact .int k t
  · exact .bool true
  · exact .str y t
  · exact .none
theorem reads_refs {h : Heap} {ras : List Addr} {f : Nat → PyData} : ∀ {i : Nat}, (∀ k, k < ras.length → ∃ a as, ras[k]? = some a ∧ Reads h (.ref a) (f (i + k)) as) → ∃ as, ReadsAll h (ras.map Value.ref) ((List.range' i ras.length).map f) as := by
  induction ras with
  | nil => intro i _; exact ⟨[], .nil⟩
  | cons a ras ih =>
    intro i hh
    obtain ⟨a', as, e, r⟩ := hh 0 (by simp)
    simp at e; subst e
    obtain ⟨bs, rs⟩ := ih (i := i + 1) (fun k hk => by
      obtain ⟨a', as', e', r'⟩ := hh (k + 1) (by simpa using hk)
      exact ⟨a', as', by simpa using e', by rw [show i + 1 + k = i + (k + 1) by omega]; exact r'⟩)
    exact ⟨as ++ bs, by rw [List.map_cons, List.length_cons, List.range'_succ, List.map_cons]; exact .cons r rs⟩
theorem reads_notes {h : Heap} {prs : List (Addr × Obj)} {notes : List (Int × Value)} (x : Paired (fun (p : Addr × Obj) (q : Int × Value) => ∃ t j, p.2 = W.listOf #[Value.int q.1 t, q.2] j) prs notes) :
    Has h prs → (∀ q ∈ notes, IsKey q.2) → ∃ as, ReadsAll h (prs.map fun p => Value.ref p.1) (notes.map noteD) as := by
  induction x with
  | nil => intro _ _; exact ⟨[], .nil⟩
  | @cons p q prs notes h1 _ ih =>
    intro hs hk
    obtain ⟨t, j, e⟩ := h1
    obtain ⟨as, rs⟩ := ih (hs.sub fun p hp => .tail _ hp) (fun q hq => hk q (.tail _ hq))
    have hg := hs p (.head _)
    rw [e] at hg
    have r : Reads h (.ref p.1) (noteD q) [p.1] := reads_isList (vs := [Value.int q.1 t, q.2]) ⟨_, hg, rfl, j, rfl⟩ (ReadsAll.cons (as := []) (.int _ _) (ReadsAll.cons (as := []) (reads_key (hk q (.head _))) .nil))
    exact ⟨_, .cons r rs⟩
theorem reads_run {h : Heap} {r nl : Addr} {v : Value} {news : List (Addr × Obj)} {R : Except Bool Int × List (Int × Value)} (hs : Has h ((r, W.listOf #[v, .ref nl] 0) :: news)) (ho : OutIs R.1 v) (hN : NotesAt nl R.2 news) (hk : ∀ q ∈ R.2, IsKey q.2) : ∃ as, Reads h (.ref r) (runD R) as := by
  obtain ⟨prs, k, rfl, hp, _⟩ := hN
  obtain ⟨as, rs⟩ := reads_notes hp (hs.sub fun p hp => .tail _ (.tail _ hp)) hk
  have r1 : Reads h (.ref nl) (.list (R.2.map noteD)) (nl :: as) := reads_isList ⟨_, hs _ (.tail _ (.head _)), rfl, k, rfl⟩ rs
  exact ⟨_, reads_isList (vs := [v, .ref nl]) ⟨_, hs _ (.head _), rfl, 0, rfl⟩ (ReadsAll.cons (reads_out ho) (ReadsAll.cons r1 .nil))⟩
theorem run_keys (R : List (List Int)) (Bk : List (List (Str × Int))) (ks : List Value) (n : Int) : ∀ q ∈ (run R Bk ks n).2, q.2 ∈ ks := by
  have gen : ∀ (l : List Value) (st : Except Bool Int × List (Int × Value)), ∀ q ∈ (l.foldl (runS R Bk) st).2, q ∈ st.2 ∨ q.2 ∈ l := by
    intro l
    induction l with
    | nil => intro st q hq; exact .inl hq
    | cons k l ih =>
      intro st q hq
      rw [List.foldl_cons] at hq
      rcases ih _ q hq with h | h
      · obtain ⟨r, acc⟩ := st
        cases r with
        | ok v =>
          simp only [runS, List.mem_append, List.mem_singleton] at h
          rcases h with h | rfl
          · exact .inl h
          · exact .inr (.head _)
        | error b => exact .inl h
      · exact .inr (.tail _ h)
  intro q hq
  rcases gen ks _ q hq with h | h
  · cases h
  · exact h
def Fine (k : Nat) (d : PyData) : Prop := d.canLay0 = true ∧ d.depth ≤ k
theorem fine_all {k : Nat} : ∀ {ds : List PyData}, (∀ d ∈ ds, Fine k d) → PyData.canLayAll0 ds = true ∧ PyData.depthAll ds ≤ k
  | [], _ => ⟨by simp only [PyData.canLayAll0], by simp [PyData.depthAll]⟩
  | d :: ds, h => by
    have h1 := h d (.head _)
    have h2 := fine_all (fun d hd => h d (.tail _ hd))
    exact ⟨by rw [PyData.canLayAll0, h1.1, h2.1]; rfl, by rw [PyData.depthAll]; exact Nat.max_le.mpr ⟨h1.2, h2.2⟩⟩
theorem fine_list {k : Nat} {ds : List PyData} (h : ∀ d ∈ ds, Fine k d) : Fine (k + 1) (.list ds) := by
  have := fine_all h
  exact ⟨by rw [PyData.canLay0]; exact this.1, by rw [PyData.depth]; exact Nat.succ_le_succ this.2⟩
theorem Fine.up {k : Nat} {d : PyData} (h : Fine k d) : Fine (k + 1) d := ⟨h.1, Nat.le_succ_of_le h.2⟩
theorem fine_out (r : Except Bool Int) : Fine 0 (outD r) := by
  cases r with
  | ok n => exact ⟨by simp only [outD, PyData.canLay0], by simp [outD, PyData.depth]⟩
  | error b => cases b <;> exact ⟨by simp only [outD, PyData.canLay0]; decide +kernel, by simp [outD, PyData.depth]⟩
theorem fine_key {v : Value} (h : IsKey v) : Fine 0 (keyD v) := by
  rcases h with ⟨k, t, rfl, _⟩ | rfl | ⟨y, t, rfl, hy⟩ | rfl
  · exact ⟨by simp only [keyD, PyData.canLay0], by simp [keyD, PyData.depth]⟩
  · exact ⟨by simp only [keyD, PyData.canLay0], by simp [keyD, PyData.depth]⟩
  · rcases hy with rfl | rfl | rfl <;> exact ⟨by simp only [keyD, PyData.canLay0]; decide +kernel, by simp [keyD, PyData.depth]⟩
  · exact ⟨by simp only [keyD, PyData.canLay0], by simp [keyD, PyData.depth]⟩
theorem fine_tab (T : List (Except Bool Int)) : Fine 1 (tabD T) := fine_list fun d hd => by
  obtain ⟨r, _, rfl⟩ := List.mem_map.mp hd
  exact fine_out r
theorem fine_run {R : Except Bool Int × List (Int × Value)} (hk : ∀ q ∈ R.2, IsKey q.2) : Fine 3 (runD R) := by
  refine fine_list fun d hd => ?_
  simp only [List.mem_cons, List.not_mem_nil, or_false] at hd
  rcases hd with rfl | rfl
  · exact (fine_out _).up.up
  · refine fine_list fun d hd => ?_
    obtain ⟨q, hq, rfl⟩ := List.mem_map.mp hd
    refine fine_list fun d hd => ?_
    simp only [List.mem_cons, List.not_mem_nil, or_false] at hd
    rcases hd with rfl | rfl
    · exact ⟨by simp only [PyData.canLay0], by simp [PyData.depth]⟩
    · exact fine_key (hk q hq)
theorem Fine.shaped {k : Nat} {d : PyData} (h : Fine k d) (hk : k ≤ 64) : SeqAt.shaped d = true := by
  rw [SeqAt.shaped, h.1, Bool.true_and]
  exact decide_eq_true (Nat.le_trans h.2 hk)
theorem fronts_reduce {w : World} {p : Program} {loose : List Str} {mean : ExcName → Option Value} {mg mb : Str → Option Value} {dp un : Nat} {gd : Option (List Code)} {cn : Str} {cs : Scope} {a : Addr} {ccd : Value} {cl : List (Str × Addr)} {outer : List Env} {A₀ : Around} {base h₀ : Heap} {L : Addr} {m : Str → Option Value} {s : Shared} {Q E : Value → Shared → Prop} (ta : Addr) (tvs : List Value) (Ts : List (List (Except Bool Int))) (G : Gd 5 w p loose mean mg mb dp un cs outer A₀ base h₀ L m s.heap) (hl : s.heap.IsList ta tvs.toArray) (hlen : Ts.length ≤ 900) (htl : tvs.length = Ts.length) (hpos : 0 < Ts.length) (hok : ∀ i, i < Ts.length → OkT Ts[i]!)
    (hT : ∀ i el, tvs[i]? = some el → i < Ts.length ∧ ∃ ta vs, el = .ref ta ∧ s.heap.IsList ta vs.toArray ∧ TabV vs Ts[i]!)
    (hret : ∀ v new h' tk', (∀ b o, s.heap.get? b = some o → h'.get? b = some o) → (∀ p ∈ new, h'.get? p.1 = some p.2 ∧ s.heap.get? p.1 = none) →
      (∀ g, Has g new → (∀ a, tvs[0]? = some (.ref a) → ∃ vs, g.IsList a (List.toArray vs) ∧ TabV vs Ts[0]!) → ∃ as, Reads g v (.list ((List.range Ts.length).map fun k => tabD (frontAt Ts k))) as) → Q v { s with heap := h', toks := tk' }) :
    wpAny (model PG w) (ktrTop dp un gd cn cs L a ccd cl outer) (call (.ref 108) [.ref 159, .ref ta, .none]) Q E s := by
  have X := G.X
  have F := G.F
  refine reduce_i 159 ta tvs .none [] (FrontJ s.heap tvs Ts) (fun _ _ => False) G News.nil ⟨_, _, (X.keeps F.keep) 159 _ (by k_is), rfl⟩ rfl (fun h => nomatch h) hl (.inl ⟨rfl, rfl, rfl⟩) (fronts_step hlen hok hT) ?_ ?_
  · intro v news h' tk' k N hJ
    refine hret v news h' tk' k (fun p hp => ⟨(N p hp).1, (N p hp).2.2⟩) fun g hs h0 => ?_
    rcases hJ with ⟨h0, _, _⟩ | ⟨a, ras, rfl, _, hrl, hsrc, hall⟩
    · omega
    · obtain ⟨as, rs⟩ := reads_refs (h := g) (ras := ras) (f := fun k => tabD (frontAt Ts k)) (i := 0) (fun j hj => by
        obtain ⟨ra, vs, e, s', t'⟩ := hall j (by omega)
        rw [Nat.zero_add]
        rcases s' with ⟨rfl, e0, _⟩ | s'
        · obtain ⟨vs', h1, h2⟩ := h0 ra e0
          exact ⟨ra, _, e, reads_tab h1 h2⟩
        · exact ⟨ra, _, e, reads_tab (s'.list hs) t'⟩)
      rw [hrl, htl] at rs
      rw [List.range_eq_range']
      exact ⟨_, reads_isList (hsrc.list hs) rs⟩
  · intro X e news' href h' tk' _ _ _ f
    exact f.elim

abbrev stepQual : Str := Str.ofString "_law_way.<locals>._law_step"
def TabL (ps : Array Value) (rest : List (Addr × Obj)) : Prop :=
  ps = #[] ∨ ∃ c' oc vs t, ps = #[rawInt stepPos.line, rawInt stepPos.col, .ref c'] ∧ (c', oc) ∈ rest ∧ oc.data = .fields vs ∧ vs[1]? = some (.str stepQual t)
theorem TabL.mono {ps : Array Value} {rest rest' : List (Addr × Obj)} (x : TabL ps rest) (sub : ∀ p ∈ rest, p ∈ rest') : TabL ps rest' := by
  rcases x with h | ⟨c', oc, vs, t, h1, h2, h3⟩
  · exact .inl h
  · exact .inr ⟨c', oc, vs, t, h1, sub _ h2, h3⟩
theorem TabL.is {ps : Array Value} {rest : List (Addr × Obj)} {h : Heap} (x : TabL ps rest) (hs : Has h rest) : TabIs stepPos stepQual h ps := by
  rcases x with h | ⟨c', oc, vs, t, h1, h2, h3⟩
  · exact .inl h
  · exact .inr ⟨c', oc, vs, t, h1, hs _ h2, h3⟩
theorem newsOf {h₀ h : Heap} {L : Addr} {m : Str → Option Value} {news new : List (Addr × Obj)} {h' : Heap} (F : Fr h₀ L h m) (N : News h₀ L h' news) (hn : ∀ p ∈ new, h'.get? p.1 = some p.2 ∧ h.get? p.1 = none) : News h₀ L h' (new ++ news) := by
  intro p hp
  rcases List.mem_append.mp hp with hp | hp
  · refine ⟨(hn p hp).1, fun q => ?_, get_none_of_keep F.keep (hn p hp).2⟩
    obtain ⟨oL, _, _, eL, _⟩ := F.ns
    have := (hn p hp).2
    rw [q, eL] at this; cases this
  · exact N p hp
theorem notes_lists {prs : List (Addr × Obj)} {notes : List (Int × Value)} (x : Paired (fun (p : Addr × Obj) (q : Int × Value) => ∃ t j, p.2 = W.listOf #[Value.int q.1 t, q.2] j) prs notes) : ∀ p ∈ prs, ∃ its j, p.2 = W.listOf its j := by
  induction x with
  | nil => intro p hp; cases hp
  | cons h1 _ ih =>
    intro p hp
    rcases List.mem_cons.mp hp with rfl | hp
    · obtain ⟨t, j, e⟩ := h1; exact ⟨_, _, e⟩
    · exact ih p hp
theorem way_l {w : World} {p : Program} {loose : List Str} {mean : ExcName → Option Value} {mg mb : Str → Option Value} {dp un : Nat} {gd : Option (List Code)} {cn : Str} {cs : Scope} {a : Addr} {ccd : Value} {cl : List (Str × Addr)} {outer : List Env} {A₀ : Around} {base h₀ : Heap} {L : Addr} {m : Str → Option Value} {s : Shared} {Q E : Value → Shared → Prop} (pa ra ba : Addr) (ks : List Value) (n : Int) (t : Tok) (R : List (List Int)) (Bk : List (List (Str × Int))) (b : Bool) (ps : Array Value) (rest : List (Addr × Obj)) (G : Gd 8 w p loose mean mg mb dp un cs outer A₀ base h₀ L m s.heap) (N : News h₀ L s.heap ((142, tabObj ps) :: rest)) (no : ∀ p ∈ rest, p.1 ≠ 142) (C : CodeHd h₀ 146 142)
    (hout : framesOf outer = []) (htab : TabL ps rest)
    (hp : ∀ h, Has h rest → h.IsList pa ks.toArray) (hks : ∀ k ∈ ks, IsKey k) (hkl : ks.length ≤ 1000) (hw : ∀ h, Has h rest → Wd w h ra ba R Bk) (ok : OkD R Bk) (hs0 : 0 ≤ n) (hs4 : n < 4)
    (hret : ∀ r v new ps' h' tk', Fr h₀ L h' m → News h₀ L h' ((142, tabObj ps') :: (new ++ rest)) → (∀ p ∈ new, s.heap.get? p.1 = none) → (ps' = ps ∨ TabL ps' new) → (∀ p ∈ new, p.1 ≠ 142) → OutIs (run R Bk ks n).1 v →
      (∀ h, Has h new → ∃ nl, h.IsList r #[v, .ref nl]) → (∀ h, Has h new → ∃ as, Reads h (.ref r) (runD (run R Bk ks n)) as) → Q (.ref r) { s with heap := h', toks := tk' }) :
    wpAny (model PG w) (ktrTop dp un gd cn cs L a ccd cl outer) (call (.ref 147) [.ref pa, .int n t, .ref ra, .ref ba, .bool b]) Q E s := by
  have F := G.F
  have hhas : Has (under s.heap [(142, tabObj ps)]) rest := fun p hp => hideAll_get _ (N p (.tail _ hp)).1 (by simpa using no p hp)
  have st : ∀ b o, h₀.get? b = some o → (under s.heap [(142, tabObj ps)]).get? b = some o := fun b o e => hideAll_get _ (F.keep b o e) (fun q => by
    have := (N _ (.head _)).2.2
    have q' : b = 142 := by simpa using q
    rw [q', this] at e; cases e)
  refine way_c pa ra ba ks n t R Bk b ps G (fun p hp => N p (by rw [List.mem_singleton.mp hp]; exact .head _)) C hout (htab.is hhas) (hp _ hhas) hks hkl (hw _ hhas) ok hs0 hs4 ?_
  intro r nl v news ps' cod h' tk' kp F' N' tab out notes
  have h142 := (N' _ (.head _)).1
  have ne : ∀ p ∈ (r, W.listOf #[v, Value.ref nl] 0) :: (news ++ cod), p.1 ≠ 142 := by
    intro p hp q
    have hg := (N' p (.tail _ hp)).1
    rw [q, h142] at hg
    simp only [List.mem_cons, List.mem_append] at hp
    have hcls : ∀ its j, p.2 = W.listOf its j → False := fun its j e => by rw [e] at hg; cases hg
    rcases hp with rfl | hp | hp
    · exact hcls _ _ rfl
    · obtain ⟨prs, k, rfl, hpr, _⟩ := notes
      rcases List.mem_cons.mp hp with rfl | hp
      · exact hcls _ _ rfl
      · have := notes_lists hpr p hp
        obtain ⟨its, j, e⟩ := this
        exact hcls its j e
    · rcases tab with ⟨rfl, _⟩ | ⟨c', oc, vs, t, rfl, h2, _⟩
      · cases hp
      · rw [List.mem_singleton.mp hp] at q; exact h2 q
  refine hret r v ((r, W.listOf #[v, Value.ref nl] 0) :: (news ++ cod)) ps' h' tk' F' (fun p hp => ?_) (fun p hp => ?_) ?_ ne out (fun h hs => ⟨nl, _, hs _ (.head _), rfl, _, rfl⟩) (fun h hs => ?_)
  · have nw : p ∈ (142, tabObj ps') :: (r, W.listOf #[v, Value.ref nl] 0) :: (news ++ cod) → h'.get? p.1 = some p.2 ∧ p.1 ≠ L ∧ h₀.get? p.1 = none := fun hm => ⟨(N' p hm).1, (N' p hm).2.1, get_none_of_keep st (N' p hm).2.2⟩
    rcases List.mem_cons.mp hp with h | hp
    · exact nw (by rw [h]; exact .head _)
    · rcases List.mem_append.mp hp with hp | hp
      · exact nw (.tail _ hp)
      · have hz := N p (.tail _ hp)
        refine ⟨kp _ _ hz.1 (no p hp) ?_, hz.2⟩
        intro q
        have : framesOf (envX cn cs L a ccd cl :: outer) = L :: framesOf outer := rfl
        rw [this, hout] at q
        exact hz.2.1 (List.mem_singleton.mp q)
  · cases q : s.heap.get? p.1 with
    | none => rfl
    | some o =>
      have := (N' p (.tail _ hp)).2.2
      rw [hideAll_get _ q (by simpa using ne p hp)] at this
      cases this
  · rcases tab with ⟨rfl, rfl⟩ | ⟨c', oc, vs, t, rfl, _, h3, h4⟩
    · exact .inl rfl
    · exact .inr (.inr ⟨c', oc, vs, t, h3, by simp, h4⟩)
  · refine reads_run (hs.sub fun p hp => ?_) out notes fun q hq => hks _ (run_keys R Bk ks n q hq)
    rcases List.mem_cons.mp hp with h | h
    · rw [h]; exact .head _
    · exact .tail _ (List.mem_append_left _ h)
theorem own_l {w : World} {p : Program} {loose : List Str} {mean : ExcName → Option Value} {mg mb : Str → Option Value} {dp un : Nat} {gd : Option (List Code)} {cn : Str} {cs : Scope} {a : Addr} {ccd : Value} {cl : List (Str × Addr)} {outer : List Env} {A₀ : Around} {base h₀ : Heap} {L : Addr} {m : Str → Option Value} {s : Shared} {Q E : Value → Shared → Prop} (pa ra ba : Addr) (ks : List Value) (n : Int) (t : Tok) (R : List (List Int)) (Bk : List (List (Str × Int))) (G : Gd 4 w p loose mean mg mb dp un cs outer A₀ base h₀ L m s.heap) (hp : s.heap.IsList pa ks.toArray) (hks : ∀ k ∈ ks, IsKey k) (hkl : ks.length ≤ 1000) (hw : Wd w s.heap ra ba R Bk) (ok : OkD R Bk) (h0 : 0 ≤ n) (h4 : n < 4)
    (hret : ∀ r v new h' tk', (∀ b o, s.heap.get? b = some o → h'.get? b = some o) → (∀ p ∈ new, h'.get? p.1 = some p.2 ∧ s.heap.get? p.1 = none) → OutIs (run R Bk ks n).1 v →
      (∀ h, Has h new → ∃ nl, h.IsList r #[v, .ref nl]) → (∀ h, Has h new → ∃ as, Reads h (.ref r) (runD (run R Bk ks n)) as) → Q (.ref r) { s with heap := h', toks := tk' }) :
    wpAny (model PG w) (ktrTop dp un gd cn cs L a ccd cl outer) (call (.ref 140) [.ref pa, .int n t, .ref ra, .ref ba]) Q E s := by
  refine own_c pa ra ba ks n t R Bk G hp hks hkl hw ok h0 h4 ?_
  intro r nl v news h' tk' k N out notes
  exact hret r v ((r, W.listOf #[v, Value.ref nl] 0) :: news) h' tk' k (fun p hp => ⟨(N p hp).1, (N p hp).2.2⟩) out (fun h hs => ⟨nl, _, hs _ (.head _), rfl, _, rfl⟩) (fun h hs => reads_run hs out notes fun q hq => hks _ (run_keys R Bk ks n q hq))
theorem turn_end {h₀ h h' : Heap} {L I C D : Addr} {oI oC oD : Obj} {ps ps' : Array Value} {rest new : List (Addr × Obj)} (N : News h₀ L h ((I, oI) :: (C, oC) :: (D, oD) :: (142, tabObj ps) :: rest)) (off : LCg.Off3 I C D ((142, tabObj ps) :: rest))
    (N' : News h₀ L h' ((142, tabObj ps') :: (new ++ ((I, oI) :: (C, oC) :: (D, oD) :: rest)))) (fresh : ∀ p ∈ new, h.get? p.1 = none) :
    News h₀ L h' ((I, oI) :: (C, oC) :: (D, oD) :: (142, tabObj ps') :: (new ++ rest)) ∧ LCg.Off3 I C D ((142, tabObj ps') :: (new ++ rest)) := by
  refine ⟨fun p hp => N' p ?_, LCg.Off3.of fun p hp => ?_⟩
  · simp only [List.mem_cons, List.mem_append] at hp ⊢
    rcases hp with h | h | h | h | h | h
    · exact .inr (.inr (.inl h))
    · exact .inr (.inr (.inr (.inl h)))
    · exact .inr (.inr (.inr (.inr (.inl h))))
    · exact .inl h
    · exact .inr (.inl h)
    · exact .inr (.inr (.inr (.inr (.inr h))))
  · have o := off.mem
    have old : ∀ q ∈ (I, oI) :: (C, oC) :: (D, oD) :: (142, tabObj ps) :: rest, h.get? p.1 = none → p.1 ≠ q.1 := fun q hq e z => by have := (N q hq).1; rw [← z, e] at this; cases this
    simp only [List.mem_cons, List.mem_append] at hp
    rcases hp with h | h | h
    · rw [h]; exact o (142, tabObj ps) (.head _)
    · have f := fresh p h
      exact ⟨old _ (.head _) f, old _ (.tail _ (.head _)) f, old _ (.tail _ (.tail _ (.head _))) f⟩
    · exact o p (.tail _ h)
theorem turn_endC {h₀ h h' : Heap} {L I K C D : Addr} {oI oK oC oD : Obj} {ps ps' : Array Value} {rest new : List (Addr × Obj)} (N : News h₀ L h ((I, oI) :: (K, oK) :: (C, oC) :: (D, oD) :: (142, tabObj ps) :: rest)) (off : ∀ p ∈ (142, tabObj ps) :: rest, p.1 ≠ I ∧ p.1 ≠ K ∧ p.1 ≠ C ∧ p.1 ≠ D)
    (N' : News h₀ L h' ((142, tabObj ps') :: (new ++ ((I, oI) :: (K, oK) :: (C, oC) :: (D, oD) :: rest)))) (fresh : ∀ p ∈ new, h.get? p.1 = none) :
    News h₀ L h' ((I, oI) :: (K, oK) :: (C, oC) :: (D, oD) :: (142, tabObj ps') :: (new ++ rest)) ∧ ∀ p ∈ (142, tabObj ps') :: (new ++ rest), p.1 ≠ I ∧ p.1 ≠ K ∧ p.1 ≠ C ∧ p.1 ≠ D := by
  refine ⟨fun p hp => N' p ?_, fun p hp => ?_⟩
  · simp only [List.mem_cons, List.mem_append] at hp ⊢
    rcases hp with h | h | h | h | h | h | h
    · exact .inr (.inr (.inl h))
    · exact .inr (.inr (.inr (.inl h)))
    · exact .inr (.inr (.inr (.inr (.inl h))))
    · exact .inr (.inr (.inr (.inr (.inr (.inl h)))))
    · exact .inl h
    · exact .inr (.inl h)
    · exact .inr (.inr (.inr (.inr (.inr (.inr h)))))
  · have old : ∀ q ∈ (I, oI) :: (K, oK) :: (C, oC) :: (D, oD) :: (142, tabObj ps) :: rest, h.get? p.1 = none → p.1 ≠ q.1 := fun q hq e z => by have := (N q hq).1; rw [← z, e] at this; cases this
    simp only [List.mem_cons, List.mem_append] at hp
    rcases hp with h | h | h
    · rw [h]; exact off (142, tabObj ps) (.head _)
    · have f := fresh p h
      exact ⟨old _ (.head _) f, old _ (.tail _ (.head _)) f, old _ (.tail _ (.tail _ (.head _))) f, old _ (.tail _ (.tail _ (.tail _ (.head _)))) f⟩
    · exact off p (.tail _ h)
theorem readsAll_snoc {h : Heap} {vs : List Value} {ds : List PyData} {as bs : List Addr} {v : Value} {d : PyData} (r : ReadsAll h vs ds as) (r1 : Reads h v d bs) : ∃ as, ReadsAll h (vs ++ [v]) (ds ++ [d]) as := by
  induction r using ReadsAll.rec (motive_1 := fun _ _ _ _ => True) with
  | nil => exact ⟨_, .cons r1 .nil⟩
  | cons x _ _ ih => obtain ⟨as, r⟩ := ih; exact ⟨_, .cons x r⟩
  | _ => trivial

section
variable {h₀ h h' : Heap} {L I K C D : Addr} {m : Str → Option Value} {oI oK oC oD : Obj} {ps ps' : Array Value} {rest new tgt : List (Addr × Obj)}
theorem turn_way (N : News h₀ L h ((I, oI) :: (C, oC) :: (D, oD) :: (142, tabObj ps) :: rest)) (off : LCg.Off3 I C D ((142, tabObj ps) :: rest))
    (N' : News h₀ L h' ((142, tabObj ps') :: (new ++ ((I, oI) :: (C, oC) :: (D, oD) :: rest)))) (fresh : ∀ p ∈ new, h.get? p.1 = none) (sub : ∀ p ∈ tgt, p ∈ new ++ rest) :
    News h₀ L h' ((I, oI) :: (C, oC) :: (D, oD) :: (142, tabObj ps') :: tgt) ∧ LCg.Off3 I C D ((142, tabObj ps') :: tgt) := by
  obtain ⟨a, b⟩ := turn_end N off N' fresh
  refine ⟨fun p hp => a p ?_, LCg.Off3.of fun p hp => b.mem p ?_⟩
  · simp only [List.mem_cons] at hp ⊢
    rcases hp with h | h | h | h | h
    · exact .inl h
    · exact .inr (.inl h)
    · exact .inr (.inr (.inl h))
    · exact .inr (.inr (.inr (.inl h)))
    · exact .inr (.inr (.inr (.inr (sub p h))))
  · rcases List.mem_cons.mp hp with h | h
    · rw [h]; exact .head _
    · exact .tail _ (sub p h)
theorem turn_pure (F : Fr h₀ L h m) (N : News h₀ L h ((I, oI) :: (C, oC) :: (D, oD) :: (142, tabObj ps) :: rest)) (off : LCg.Off3 I C D ((142, tabObj ps) :: rest))
    (k : ∀ b o, h.get? b = some o → h'.get? b = some o) (hn : ∀ p ∈ new, h'.get? p.1 = some p.2 ∧ h.get? p.1 = none) (sub : ∀ p ∈ tgt, p ∈ new ++ rest) :
    News h₀ L h' ((I, oI) :: (C, oC) :: (D, oD) :: (142, tabObj ps) :: tgt) ∧ LCg.Off3 I C D ((142, tabObj ps) :: tgt) := by
  refine turn_way N off (fun p hp => newsOf F (N.grown k) hn p ?_) (fun p hp => (hn p hp).2) sub
  simp only [List.mem_cons, List.mem_append] at hp ⊢
  rcases hp with h | h | h | h | h | h
  · exact .inr (.inr (.inr (.inr (.inl h))))
  · exact .inl h
  · exact .inr (.inl h)
  · exact .inr (.inr (.inl h))
  · exact .inr (.inr (.inr (.inl h)))
  · exact .inr (.inr (.inr (.inr (.inr h))))
theorem turn_wayC (N : News h₀ L h ((I, oI) :: (K, oK) :: (C, oC) :: (D, oD) :: (142, tabObj ps) :: rest)) (off : ∀ p ∈ (142, tabObj ps) :: rest, p.1 ≠ I ∧ p.1 ≠ K ∧ p.1 ≠ C ∧ p.1 ≠ D)
    (N' : News h₀ L h' ((142, tabObj ps') :: (new ++ ((I, oI) :: (K, oK) :: (C, oC) :: (D, oD) :: rest)))) (fresh : ∀ p ∈ new, h.get? p.1 = none) (sub : ∀ p ∈ tgt, p ∈ new ++ rest) :
    News h₀ L h' ((I, oI) :: (K, oK) :: (C, oC) :: (D, oD) :: (142, tabObj ps') :: tgt) ∧ ∀ p ∈ (142, tabObj ps') :: tgt, p.1 ≠ I ∧ p.1 ≠ K ∧ p.1 ≠ C ∧ p.1 ≠ D := by
  obtain ⟨a, b⟩ := turn_endC N off N' fresh
  refine ⟨fun p hp => a p ?_, fun p hp => b p ?_⟩
  · simp only [List.mem_cons] at hp ⊢
    rcases hp with h | h | h | h | h | h
    · exact .inl h
    · exact .inr (.inl h)
    · exact .inr (.inr (.inl h))
    · exact .inr (.inr (.inr (.inl h)))
    · exact .inr (.inr (.inr (.inr (.inl h))))
    · exact .inr (.inr (.inr (.inr (.inr (sub p h)))))
  · rcases List.mem_cons.mp hp with h | h
    · rw [h]; exact .head _
    · exact .tail _ (sub p h)
end
def RowsJ (f : Nat → List Int) (i : Nat) (ys : List Value) (new : List (Addr × Obj)) : Prop :=
  ∃ ras : List Addr, ys = ras.map Value.ref ∧ ras.length = i ∧ ∀ k, k < i → ∃ a vs j, ras[k]? = some a ∧ (a, ({ cls := .type "list", data := .seq (List.toArray vs) j } : Obj)) ∈ new ∧ IntsAre vs (f k)
theorem RowsJ.snoc {f : Nat → List Int} {i : Nat} {ys : List Value} {new : List (Addr × Obj)} (x : RowsJ f i ys new) {r : Addr} {vs : List Value} {j : Nat} (hi : IntsAre vs (f i)) : RowsJ f (i + 1) (ys ++ [.ref r]) ((r, ({ cls := .type "list", data := .seq (List.toArray vs) j } : Obj)) :: new) := by
  obtain ⟨ras, rfl, hl, hh⟩ := x
  refine ⟨ras ++ [r], by simp, by simp [hl], fun k hk => ?_⟩
  by_cases hlt : k < i
  · obtain ⟨a, vs, j, e, hm, h⟩ := hh k hlt
    exact ⟨a, vs, j, by rw [List.getElem?_append_left (by omega)]; exact e, .tail _ hm, h⟩
  · obtain rfl : k = i := by omega
    exact ⟨r, vs, j, by rw [List.getElem?_append_right (by omega), hl]; simp, .head _, hi⟩
def BooksJ (w : World) (f : Nat → List (Str × Int)) (i : Nat) (ys : List Value) (new : List (Addr × Obj)) : Prop :=
  ∃ bas : List Addr, ys = bas.map Value.ref ∧ bas.length = i ∧ ∀ k, k < i → ∃ a, bas[k]? = some a ∧ ∀ h, Has h new → BookAt w h a (f k)
theorem BooksJ.snoc {w : World} {f : Nat → List (Str × Int)} {i : Nat} {ys : List Value} {new : List (Addr × Obj)} (x : BooksJ w f i ys new) {r : Addr} {o : Obj} (hi : ∀ h, h.get? r = some o → BookAt w h r (f i)) : BooksJ w f (i + 1) (ys ++ [.ref r]) ((r, o) :: new) := by
  obtain ⟨ras, rfl, hl, hh⟩ := x
  refine ⟨ras ++ [r], by simp, by simp [hl], fun k hk => ?_⟩
  by_cases hlt : k < i
  · obtain ⟨a, e, h⟩ := hh k hlt
    exact ⟨a, by rw [List.getElem?_append_left (by omega)]; exact e, fun g hg => h g (hg.sub fun p hp => .tail _ hp)⟩
  · obtain rfl : k = i := by omega
    exact ⟨r, by rw [List.getElem?_append_right (by omega), hl]; simp, fun g hg => hi g (hg _ (.head _))⟩
theorem ints_snoc {vs : List Value} {zs : List Int} {n : Int} {t : Tok} (h : IntsAre vs zs) : IntsAre (vs ++ [.int n t]) (zs ++ [n]) := by
  induction h with
  | nil => exact .cons _ _ .nil
  | cons k t _ ih => exact .cons k t ih

theorem off1_mem {D : Addr} : ∀ {l : List (Addr × Obj)}, LCg.Off1 D l → ∀ p ∈ l, p.1 ≠ D
  | [], _, _, h => nomatch h
  | _ :: _, x, p, h => by
    rcases List.mem_cons.mp h with rfl | h
    · exact x.1
    · exact off1_mem x.2 p h
def Off5 (L : Nat) (new : List (Addr × Obj)) : Prop := ∀ p ∈ new, p.1 ≠ 142 ∧ p.1 ≠ L + 1 + 1 + 1 + 1 + 1 ∧ p.1 ≠ L + 1 + 1 + 1 + 1 ∧ p.1 ≠ L + 1 + 1 + 1 ∧ p.1 ≠ L + 1 + 1 ∧ p.1 ≠ L + 1
section
variable {h₀ h h' : Heap} {L : Nat} {I K C D : Addr} {m : Str → Option Value} {oI oK oC oD oE : Obj} {ps ps' : Array Value} {new new' : List (Addr × Obj)} {oP oB oR oS : Obj}
theorem off5_new (hN : Has h ((142, tabObj ps) :: (L + 1 + 1 + 1 + 1 + 1, oP) :: (L + 1 + 1 + 1 + 1, oB) :: (L + 1 + 1 + 1, oR) :: (L + 1 + 1, oD) :: (L + 1, oS) :: [])) (fr : ∀ p ∈ new', h.get? p.1 = none) (o5 : Off5 L new) : Off5 L (new' ++ new) := by
  intro p hp
  rcases List.mem_append.mp hp with hp | hp
  · have old : ∀ q ∈ (142, tabObj ps) :: (L + 1 + 1 + 1 + 1 + 1, oP) :: (L + 1 + 1 + 1 + 1, oB) :: (L + 1 + 1 + 1, oR) :: (L + 1 + 1, oD) :: (L + 1, oS) :: [], p.1 ≠ q.1 := fun q hq z => by have := hN q hq; rw [← z, fr p hp] at this; cases this
    exact ⟨old _ (.head _), old _ (.tail _ (.head _)), old _ (.tail _ (.tail _ (.head _))), old _ (.tail _ (.tail _ (.tail _ (.head _)))), old _ (.tail _ (.tail _ (.tail _ (.tail _ (.head _))))), old _ (.tail _ (.tail _ (.tail _ (.tail _ (.tail _ (.head _))))))⟩
  · exact o5 p hp
theorem turn5 (F : Fr h₀ L h m) (N : News h₀ L h ((I, oI) :: (C, oC) :: (D, oE) :: (142, tabObj ps) :: (L + 1 + 1 + 1 + 1 + 1, oP) :: (L + 1 + 1 + 1 + 1, oB) :: (L + 1 + 1 + 1, oR) :: (L + 1 + 1, oD) :: (L + 1, oS) :: new)) (off : LCg.Off3 I C D ((142, tabObj ps) :: (L + 1 + 1 + 1 + 1 + 1, oP) :: (L + 1 + 1 + 1 + 1, oB) :: (L + 1 + 1 + 1, oR) :: (L + 1 + 1, oD) :: (L + 1, oS) :: new)) (o5 : Off5 L new)
    (k : ∀ b o, h.get? b = some o → h'.get? b = some o) (hn : ∀ p ∈ new', h'.get? p.1 = some p.2 ∧ h.get? p.1 = none) :
    News h₀ L h' ((I, oI) :: (C, oC) :: (D, oE) :: (142, tabObj ps) :: (L + 1 + 1 + 1 + 1 + 1, oP) :: (L + 1 + 1 + 1 + 1, oB) :: (L + 1 + 1 + 1, oR) :: (L + 1 + 1, oD) :: (L + 1, oS) :: (new' ++ new)) ∧ LCg.Off3 I C D ((142, tabObj ps) :: (L + 1 + 1 + 1 + 1 + 1, oP) :: (L + 1 + 1 + 1 + 1, oB) :: (L + 1 + 1 + 1, oR) :: (L + 1 + 1, oD) :: (L + 1, oS) :: (new' ++ new)) ∧ Off5 L (new' ++ new) := by
  obtain ⟨a, b⟩ := turn_pure (tgt := (L + 1 + 1 + 1 + 1 + 1, oP) :: (L + 1 + 1 + 1 + 1, oB) :: (L + 1 + 1 + 1, oR) :: (L + 1 + 1, oD) :: (L + 1, oS) :: (new' ++ new)) F N off k hn (fun p hp => by
    simp only [List.mem_cons, List.mem_append] at hp ⊢
    rcases hp with h | h | h | h | h | h | h <;> simp [h])
  refine ⟨a, b, off5_new (ps := ps) (oP := oP) (oB := oB) (oR := oR) (oD := oD) (oS := oS) (h := h) (fun p hp => (N p ?_).1) (fun p hp => (hn p hp).2) o5⟩
  simp only [List.mem_cons, List.not_mem_nil, or_false] at hp ⊢
  rcases hp with h | h | h | h | h | h <;> simp [h]
theorem turn5w (N : News h₀ L h ((I, oI) :: (C, oC) :: (D, oE) :: (142, tabObj ps) :: (L + 1 + 1 + 1 + 1 + 1, oP) :: (L + 1 + 1 + 1 + 1, oB) :: (L + 1 + 1 + 1, oR) :: (L + 1 + 1, oD) :: (L + 1, oS) :: new)) (off : LCg.Off3 I C D ((142, tabObj ps) :: (L + 1 + 1 + 1 + 1 + 1, oP) :: (L + 1 + 1 + 1 + 1, oB) :: (L + 1 + 1 + 1, oR) :: (L + 1 + 1, oD) :: (L + 1, oS) :: new)) (o5 : Off5 L new)
    (N' : News h₀ L h' ((142, tabObj ps') :: (new' ++ ((I, oI) :: (C, oC) :: (D, oE) :: (L + 1 + 1 + 1 + 1 + 1, oP) :: (L + 1 + 1 + 1 + 1, oB) :: (L + 1 + 1 + 1, oR) :: (L + 1 + 1, oD) :: (L + 1, oS) :: new)))) (fresh : ∀ p ∈ new', h.get? p.1 = none) :
    News h₀ L h' ((I, oI) :: (C, oC) :: (D, oE) :: (142, tabObj ps') :: (L + 1 + 1 + 1 + 1 + 1, oP) :: (L + 1 + 1 + 1 + 1, oB) :: (L + 1 + 1 + 1, oR) :: (L + 1 + 1, oD) :: (L + 1, oS) :: (new' ++ new)) ∧ LCg.Off3 I C D ((142, tabObj ps') :: (L + 1 + 1 + 1 + 1 + 1, oP) :: (L + 1 + 1 + 1 + 1, oB) :: (L + 1 + 1 + 1, oR) :: (L + 1 + 1, oD) :: (L + 1, oS) :: (new' ++ new)) ∧ Off5 L (new' ++ new) := by
  obtain ⟨a, b⟩ := turn_way (tgt := (L + 1 + 1 + 1 + 1 + 1, oP) :: (L + 1 + 1 + 1 + 1, oB) :: (L + 1 + 1 + 1, oR) :: (L + 1 + 1, oD) :: (L + 1, oS) :: (new' ++ new)) N off N' fresh (fun p hp => by
    simp only [List.mem_cons, List.mem_append] at hp ⊢
    rcases hp with h | h | h | h | h | h | h <;> simp [h])
  refine ⟨a, b, off5_new (ps := ps) (oP := oP) (oB := oB) (oR := oR) (oD := oD) (oS := oS) (h := h) (fun p hp => (N p ?_).1) fresh o5⟩
  simp only [List.mem_cons, List.not_mem_nil, or_false] at hp ⊢
  rcases hp with h | h | h | h | h | h <;> simp [h]
theorem fin5 (N : News h₀ L h ((D, oE) :: (142, tabObj ps) :: (L + 1 + 1 + 1 + 1 + 1, oP) :: (L + 1 + 1 + 1 + 1, oB) :: (L + 1 + 1 + 1, oR) :: (L + 1 + 1, oD) :: (L + 1, oS) :: new)) (off : ∀ p ∈ (142, tabObj ps) :: (L + 1 + 1 + 1 + 1 + 1, oP) :: (L + 1 + 1 + 1 + 1, oB) :: (L + 1 + 1 + 1, oR) :: (L + 1 + 1, oD) :: (L + 1, oS) :: new, p.1 ≠ D) (o5 : Off5 L new) :
    News h₀ L h ((142, tabObj ps) :: (L + 1 + 1 + 1 + 1 + 1, oP) :: (L + 1 + 1 + 1 + 1, oB) :: (L + 1 + 1 + 1, oR) :: (L + 1 + 1, oD) :: (L + 1, oS) :: (D, oE) :: new) ∧ Off5 L ((D, oE) :: new) := by
  refine ⟨fun p hp => N p ?_, fun p hp => ?_⟩
  · simp only [List.mem_cons] at hp ⊢
    rcases hp with h | h | h | h | h | h | h | h <;> simp [h]
  · rcases List.mem_cons.mp hp with rfl | hp
    · exact ⟨Ne.symm (off _ (.head _)), Ne.symm (off _ (.tail _ (.head _))), Ne.symm (off _ (.tail _ (.tail _ (.head _)))), Ne.symm (off _ (.tail _ (.tail _ (.tail _ (.head _))))), Ne.symm (off _ (.tail _ (.tail _ (.tail _ (.tail _ (.head _)))))), Ne.symm (off _ (.tail _ (.tail _ (.tail _ (.tail _ (.tail _ (.head _)))))))⟩
    · exact o5 p hp
end
section
variable {M : Model} {A : Around} {E : Value → Shared → Prop} {s : Shared} {h₀ : Heap} {L : Nat} {m : Str → Option Value} {cn : Str} {cs : Scope} {a : Addr} {ccd : Value} {cl : List (Str × Addr)} {ps : Array Value} {new : List (Addr × Obj)} {oP oB oR oD oS : Obj} {x : Str} {v : Value} {v₀ : Option Value} {Q : Unit → Shared → Prop}
theorem store_P (l0 : 142 < L) (F : Fr h₀ L s.heap m) (N : News h₀ L s.heap ((142, tabObj ps) :: (L + 1 + 1 + 1 + 1 + 1, oP) :: (L + 1 + 1 + 1 + 1, oB) :: (L + 1 + 1 + 1, oR) :: (L + 1 + 1, oD) :: (L + 1, oS) :: new)) (o5 : Off5 L new) (hc : cl.lookup x = some (L + 1 + 1 + 1 + 1 + 1 : Nat)) (hd : oP.data = .cell v₀)
    (h : ∀ h' o', Fr h₀ L h' m → News h₀ L h' ((142, tabObj ps) :: (L + 1 + 1 + 1 + 1 + 1, o') :: (L + 1 + 1 + 1 + 1, oB) :: (L + 1 + 1 + 1, oR) :: (L + 1 + 1, oD) :: (L + 1, oS) :: new) → o'.data = .cell (some v) → Q () { s with heap := h' })
    (hk : cs.kind = .function) (hx : (envX cn cs L a ccd cl).kindOf x = some .cell) : wpAny M A (storeName (envX cn cs L a ccd cl) x v) Q E s := by
  have N' : News h₀ L s.heap ((L + 1 + 1 + 1 + 1 + 1, oP) :: (142, tabObj ps) :: (L + 1 + 1 + 1 + 1, oB) :: (L + 1 + 1 + 1, oR) :: (L + 1 + 1, oD) :: (L + 1, oS) :: new) := fun p hp => N p (by
    simp only [List.mem_cons] at hp ⊢
    rcases hp with h | h | h | h | h | h | h <;> simp [h])
  refine storeX_C (c := (L + 1 + 1 + 1 + 1 + 1 : Nat)) (o := oP) F N' hc (.head fun p hp => ?_) hd (fun h' o' F' N'' d => h h' o' F' (fun p hp => N'' p ?_) d) hk hx
  · simp only [List.mem_cons] at hp
    rcases hp with h | h | h | h | h | h
    · rw [h]; refine Nat.ne_of_lt ?_; dsimp only; omega
    · rw [h]; refine Nat.ne_of_lt ?_; dsimp only; omega
    · rw [h]; refine Nat.ne_of_lt ?_; dsimp only; omega
    · rw [h]; refine Nat.ne_of_lt ?_; dsimp only; omega
    · rw [h]; refine Nat.ne_of_lt ?_; dsimp only; omega
    · exact (o5 p h).2.1
  · simp only [List.mem_cons] at hp ⊢
    rcases hp with h | h | h | h | h | h | h <;> simp [h]
theorem store_B (l0 : 142 < L) (F : Fr h₀ L s.heap m) (N : News h₀ L s.heap ((142, tabObj ps) :: (L + 1 + 1 + 1 + 1 + 1, oP) :: (L + 1 + 1 + 1 + 1, oB) :: (L + 1 + 1 + 1, oR) :: (L + 1 + 1, oD) :: (L + 1, oS) :: new)) (o5 : Off5 L new) (hc : cl.lookup x = some (L + 1 + 1 + 1 + 1 : Nat)) (hd : oB.data = .cell v₀)
    (h : ∀ h' o', Fr h₀ L h' m → News h₀ L h' ((142, tabObj ps) :: (L + 1 + 1 + 1 + 1 + 1, oP) :: (L + 1 + 1 + 1 + 1, o') :: (L + 1 + 1 + 1, oR) :: (L + 1 + 1, oD) :: (L + 1, oS) :: new) → o'.data = .cell (some v) → Q () { s with heap := h' })
    (hk : cs.kind = .function) (hx : (envX cn cs L a ccd cl).kindOf x = some .cell) : wpAny M A (storeName (envX cn cs L a ccd cl) x v) Q E s := by
  have N' : News h₀ L s.heap ((L + 1 + 1 + 1 + 1, oB) :: (142, tabObj ps) :: (L + 1 + 1 + 1 + 1 + 1, oP) :: (L + 1 + 1 + 1, oR) :: (L + 1 + 1, oD) :: (L + 1, oS) :: new) := fun p hp => N p (by
    simp only [List.mem_cons] at hp ⊢
    rcases hp with h | h | h | h | h | h | h <;> simp [h])
  refine storeX_C (c := (L + 1 + 1 + 1 + 1 : Nat)) (o := oB) F N' hc (.head fun p hp => ?_) hd (fun h' o' F' N'' d => h h' o' F' (fun p hp => N'' p ?_) d) hk hx
  · simp only [List.mem_cons] at hp
    rcases hp with h | h | h | h | h | h
    · rw [h]; refine Nat.ne_of_lt ?_; dsimp only; omega
    · rw [h]; refine Nat.ne_of_gt ?_; dsimp only; omega
    · rw [h]; refine Nat.ne_of_lt ?_; dsimp only; omega
    · rw [h]; refine Nat.ne_of_lt ?_; dsimp only; omega
    · rw [h]; refine Nat.ne_of_lt ?_; dsimp only; omega
    · exact (o5 p h).2.2.1
  · simp only [List.mem_cons] at hp ⊢
    rcases hp with h | h | h | h | h | h | h <;> simp [h]
theorem store_R (l0 : 142 < L) (F : Fr h₀ L s.heap m) (N : News h₀ L s.heap ((142, tabObj ps) :: (L + 1 + 1 + 1 + 1 + 1, oP) :: (L + 1 + 1 + 1 + 1, oB) :: (L + 1 + 1 + 1, oR) :: (L + 1 + 1, oD) :: (L + 1, oS) :: new)) (o5 : Off5 L new) (hc : cl.lookup x = some (L + 1 + 1 + 1 : Nat)) (hd : oR.data = .cell v₀)
    (h : ∀ h' o', Fr h₀ L h' m → News h₀ L h' ((142, tabObj ps) :: (L + 1 + 1 + 1 + 1 + 1, oP) :: (L + 1 + 1 + 1 + 1, oB) :: (L + 1 + 1 + 1, o') :: (L + 1 + 1, oD) :: (L + 1, oS) :: new) → o'.data = .cell (some v) → Q () { s with heap := h' })
    (hk : cs.kind = .function) (hx : (envX cn cs L a ccd cl).kindOf x = some .cell) : wpAny M A (storeName (envX cn cs L a ccd cl) x v) Q E s := by
  have N' : News h₀ L s.heap ((L + 1 + 1 + 1, oR) :: (142, tabObj ps) :: (L + 1 + 1 + 1 + 1 + 1, oP) :: (L + 1 + 1 + 1 + 1, oB) :: (L + 1 + 1, oD) :: (L + 1, oS) :: new) := fun p hp => N p (by
    simp only [List.mem_cons] at hp ⊢
    rcases hp with h | h | h | h | h | h | h <;> simp [h])
  refine storeX_C (c := (L + 1 + 1 + 1 : Nat)) (o := oR) F N' hc (.head fun p hp => ?_) hd (fun h' o' F' N'' d => h h' o' F' (fun p hp => N'' p ?_) d) hk hx
  · simp only [List.mem_cons] at hp
    rcases hp with h | h | h | h | h | h
    · rw [h]; refine Nat.ne_of_lt ?_; dsimp only; omega
    · rw [h]; refine Nat.ne_of_gt ?_; dsimp only; omega
    · rw [h]; refine Nat.ne_of_gt ?_; dsimp only; omega
    · rw [h]; refine Nat.ne_of_lt ?_; dsimp only; omega
    · rw [h]; refine Nat.ne_of_lt ?_; dsimp only; omega
    · exact (o5 p h).2.2.2.1
  · simp only [List.mem_cons] at hp ⊢
    rcases hp with h | h | h | h | h | h | h <;> simp [h]
theorem store_D (l0 : 142 < L) (F : Fr h₀ L s.heap m) (N : News h₀ L s.heap ((142, tabObj ps) :: (L + 1 + 1 + 1 + 1 + 1, oP) :: (L + 1 + 1 + 1 + 1, oB) :: (L + 1 + 1 + 1, oR) :: (L + 1 + 1, oD) :: (L + 1, oS) :: new)) (o5 : Off5 L new) (hc : cl.lookup x = some (L + 1 + 1 : Nat)) (hd : oD.data = .cell v₀)
    (h : ∀ h' o', Fr h₀ L h' m → News h₀ L h' ((142, tabObj ps) :: (L + 1 + 1 + 1 + 1 + 1, oP) :: (L + 1 + 1 + 1 + 1, oB) :: (L + 1 + 1 + 1, oR) :: (L + 1 + 1, o') :: (L + 1, oS) :: new) → o'.data = .cell (some v) → Q () { s with heap := h' })
    (hk : cs.kind = .function) (hx : (envX cn cs L a ccd cl).kindOf x = some .cell) : wpAny M A (storeName (envX cn cs L a ccd cl) x v) Q E s := by
  have N' : News h₀ L s.heap ((L + 1 + 1, oD) :: (142, tabObj ps) :: (L + 1 + 1 + 1 + 1 + 1, oP) :: (L + 1 + 1 + 1 + 1, oB) :: (L + 1 + 1 + 1, oR) :: (L + 1, oS) :: new) := fun p hp => N p (by
    simp only [List.mem_cons] at hp ⊢
    rcases hp with h | h | h | h | h | h | h <;> simp [h])
  refine storeX_C (c := (L + 1 + 1 : Nat)) (o := oD) F N' hc (.head fun p hp => ?_) hd (fun h' o' F' N'' d => h h' o' F' (fun p hp => N'' p ?_) d) hk hx
  · simp only [List.mem_cons] at hp
    rcases hp with h | h | h | h | h | h
    · rw [h]; refine Nat.ne_of_lt ?_; dsimp only; omega
    · rw [h]; refine Nat.ne_of_gt ?_; dsimp only; omega
    · rw [h]; refine Nat.ne_of_gt ?_; dsimp only; omega
    · rw [h]; refine Nat.ne_of_gt ?_; dsimp only; omega
    · rw [h]; refine Nat.ne_of_lt ?_; dsimp only; omega
    · exact (o5 p h).2.2.2.2.1
  · simp only [List.mem_cons] at hp ⊢
    rcases hp with h | h | h | h | h | h | h <;> simp [h]
end

theorem fmod_bounds (a b : Int) (h : 0 < b) : 0 ≤ Int.fmod a b ∧ Int.fmod a b < b := by
  have := fdiv_fmod_facts a b
  exact this.2.2.1 h
theorem rowOf_len (d : Int) : (rowOf d).length ≤ 3 := by
  have := fmod_bounds d 3 (by decide)
  simp only [rowOf, List.length_map, List.length_range]
  omega
theorem rowOf_mem (d : Int) : ∀ n ∈ rowOf d, 0 ≤ n ∧ n < 4 := by
  intro n hn
  obtain ⟨i, _, rfl⟩ := List.mem_map.mp hn
  exact fmod_bounds _ 4 (by decide)
theorem bookOf_len (d : Int) : (bookOf d).length ≤ 3 := by
  refine Nat.le_trans (List.length_filter_le _ _) ?_
  rw [List.length_zip]
  exact Nat.le_trans (Nat.min_le_left _ _) (by decide)
theorem bookOf_mem (d : Int) : ∀ e ∈ bookOf d, 0 ≤ e.2 ∧ e.2 < 4 := by
  intro e he
  have h := List.mem_filter.mp he
  have h1 : e.2 ∈ figs d := (List.of_mem_zip (show (e.1, e.2) ∈ _ from h.1)).2
  obtain ⟨i, _, q⟩ := List.mem_map.mp h1
  have := fmod_bounds (Int.fdiv (Int.fdiv d 192) (5 ^ i)) 5 (by decide)
  refine ⟨by omega, by simpa using h.2⟩
def RR (z : Nat → Int) : List (List Int) := (List.range 4).map fun k => rowOf (z k)
def BB (z : Nat → Int) : List (List (Str × Int)) := (List.range 4).map fun k => bookOf (z k)
theorem RR_at (z : Nat → Int) {i : Nat} (h : i < 4) : (RR z)[i]! = rowOf (z i) := by
  rw [List.getElem!_eq_getElem?_getD]
  simp [RR, h]
theorem BB_at (z : Nat → Int) {i : Nat} (h : i < 4) : (BB z)[i]! = bookOf (z i) := by
  rw [List.getElem!_eq_getElem?_getD]
  simp [BB, h]
theorem okd (z : Nat → Int) : OkD (RR z) (BB z) where
  rl := fun i hi => by rw [RR_at z hi]; exact Nat.le_trans (rowOf_len _) (by decide)
  rn := fun i hi => by rw [RR_at z hi]; exact rowOf_mem _
  bl := fun i hi => by rw [BB_at z hi]; exact Nat.le_trans (bookOf_len _) (by decide)
  bn := fun i hi => by rw [BB_at z hi]; exact bookOf_mem _
theorem wd_of {w : World} {z : Nat → Int} {ys2 ys3 : List Value} {new2 new3 new : List (Addr × Obj)} {D2 D3 : Addr} (h2 : RowsJ (fun k => rowOf (z k)) 4 ys2 new2) (h3 : BooksJ w (fun k => bookOf (z k)) 4 ys3 new3) (s2 : ∀ p ∈ new2, p ∈ new) (s3 : ∀ p ∈ new3, p ∈ new) (m2 : (D2, LCg.lst ys2) ∈ new) (m3 : (D3, LCg.lst ys3) ∈ new) :
    ∀ h, Has h new → Wd w h D2 D3 (RR z) (BB z) := by
  intro h hs
  obtain ⟨ras, rfl, _, hr⟩ := h2
  obtain ⟨bas, rfl, _, hb⟩ := h3
  refine ⟨⟨ras, ⟨_, hs _ m2, rfl, _, rfl⟩, fun i hi => ?_⟩, ⟨bas, ⟨_, hs _ m3, rfl, _, rfl⟩, fun i hi => ?_⟩⟩
  · obtain ⟨a, vs, j, e, hm, hI⟩ := hr i hi
    exact ⟨a, vs, e, ⟨_, hs _ (s2 _ hm), rfl, j, rfl⟩, by rw [RR_at z hi]; exact hI⟩
  · obtain ⟨a, e, hB⟩ := hb i hi
    exact ⟨a, e, by rw [BB_at z hi]; exact hB h (hs.sub s3)⟩
def TellJ (f : Nat → PyData) (i : Nat) (ys : List Value) (new : List (Addr × Obj)) : Prop := ∀ h, Has h new → ∃ as, ReadsAll h ys ((List.range i).map f) as
theorem TellJ.snoc {f : Nat → PyData} {i : Nat} {ys : List Value} {new new' : List (Addr × Obj)} (x : TellJ f i ys new) {y : Value} (hy : ∀ h, Has h new' → ∃ as, Reads h y (f i) as) : TellJ f (i + 1) (ys ++ [y]) (new' ++ new) := by
  intro h hs
  obtain ⟨as, r⟩ := x h (hs.sub fun p hp => List.mem_append_right _ hp)
  obtain ⟨bs, r1⟩ := hy h (hs.sub fun p hp => List.mem_append_left _ hp)
  rw [List.range_succ, List.map_append]
  exact readsAll_snoc r r1
theorem TellJ.nil (f : Nat → PyData) (new : List (Addr × Obj)) : TellJ f 0 [] new := fun _ _ => ⟨[], .nil⟩
theorem TellJ.mono {f : Nat → PyData} {i : Nat} {ys : List Value} {new new' : List (Addr × Obj)} (x : TellJ f i ys new) (sub : ∀ p ∈ new, p ∈ new') : TellJ f i ys new' := fun h hs => x h (hs.sub sub)
theorem TellJ.list {f : Nat → PyData} {i : Nat} {ys : List Value} {new : List (Addr × Obj)} {D : Addr} {h : Heap} (x : TellJ f i ys new) (hs : Has h ((D, LCg.lst ys) :: new)) : ∃ as, Reads h (.ref D) (.list ((List.range i).map f)) as := by
  obtain ⟨as, r⟩ := x h (hs.sub fun p hp => .tail _ hp)
  exact ⟨_, reads_isList ⟨_, hs _ (.head _), rfl, _, rfl⟩ r⟩
theorem tab_next {ps ps' : Array Value} {new new' : List (Addr × Obj)} (h : TabL ps new) (h' : ps' = ps ∨ TabL ps' new') : TabL ps' (new' ++ new) := by
  rcases h' with rfl | h'
  · exact h.mono fun p hp => List.mem_append_right _ hp
  · exact h'.mono fun p hp => List.mem_append_left _ hp
theorem add5 {h₀ h h' : Heap} {L : Nat} {m : Str → Option Value} {ps : Array Value} {new new' : List (Addr × Obj)} {oP oB oR oD oS : Obj} (F : Fr h₀ L h m) (N : News h₀ L h ((142, tabObj ps) :: (L + 1 + 1 + 1 + 1 + 1, oP) :: (L + 1 + 1 + 1 + 1, oB) :: (L + 1 + 1 + 1, oR) :: (L + 1 + 1, oD) :: (L + 1, oS) :: new)) (o5 : Off5 L new)
    (k : ∀ b o, h.get? b = some o → h'.get? b = some o) (hn : ∀ p ∈ new', h'.get? p.1 = some p.2 ∧ h.get? p.1 = none) : News h₀ L h' ((142, tabObj ps) :: (L + 1 + 1 + 1 + 1 + 1, oP) :: (L + 1 + 1 + 1 + 1, oB) :: (L + 1 + 1 + 1, oR) :: (L + 1 + 1, oD) :: (L + 1, oS) :: (new' ++ new)) ∧ Off5 L (new' ++ new) := by
  refine ⟨fun p hp => newsOf F (N.grown k) hn p ?_, off5_new (ps := ps) (oP := oP) (oB := oB) (oR := oR) (oD := oD) (oS := oS) (h := h) (fun p hp => (N p ?_).1) (fun p hp => (hn p hp).2) o5⟩
  · simp only [List.mem_cons, List.mem_append] at hp ⊢
    rcases hp with h | h | h | h | h | h | h | h <;> simp [h]
  · simp only [List.mem_cons, List.not_mem_nil, or_false] at hp ⊢
    rcases hp with h | h | h | h | h | h <;> simp [h]

theorem off5_142 {L : Nat} {new : List (Addr × Obj)} {I C D : Addr} {oI oC oE : Obj} {ps : Array Value} {oP oB oR oD oS : Obj} (l0 : 142 < L) (off : LCg.Off3 I C D ((142, tabObj ps) :: (L + 1 + 1 + 1 + 1 + 1, oP) :: (L + 1 + 1 + 1 + 1, oB) :: (L + 1 + 1 + 1, oR) :: (L + 1 + 1, oD) :: (L + 1, oS) :: new)) (o5 : Off5 L new) :
    ∀ p ∈ (I, oI) :: (C, oC) :: (D, oE) :: (L + 1 + 1 + 1 + 1 + 1, oP) :: (L + 1 + 1 + 1 + 1, oB) :: (L + 1 + 1 + 1, oR) :: (L + 1 + 1, oD) :: (L + 1, oS) :: new, p.1 ≠ 142 := by
  intro p hp
  have o := off.mem (142, tabObj ps) (.head _)
  simp only [List.mem_cons] at hp
  rcases hp with h | h | h | h | h | h | h | h | h
  · rw [h]; exact Ne.symm o.1
  · rw [h]; exact Ne.symm o.2.1
  · rw [h]; exact Ne.symm o.2.2
  · rw [h]; refine Nat.ne_of_gt ?_; dsimp only; omega
  · rw [h]; refine Nat.ne_of_gt ?_; dsimp only; omega
  · rw [h]; refine Nat.ne_of_gt ?_; dsimp only; omega
  · rw [h]; refine Nat.ne_of_gt ?_; dsimp only; omega
  · rw [h]; refine Nat.ne_of_gt ?_; dsimp only; omega
  · exact (o5 p h).1
theorem way5 {w : World} {p : Program} {loose : List Str} {mean : ExcName → Option Value} {mg mb : Str → Option Value} {dp un : Nat} {gd : Option (List Code)} {cn : Str} {cs : Scope} {a : Addr} {ccd : Value} {cl : List (Str × Addr)} {outer : List Env} {A₀ : Around} {base h₀ : Heap} {L : Nat} {m : Str → Option Value} {s : Shared} {Q E : Value → Shared → Prop}
    {I C D : Addr} {oI oC oE : Obj} {ps : Array Value} {oP oB oR oD oS : Obj} {new : List (Addr × Obj)}
    (pa ra ba : Addr) (ks : List Value) (n : Int) (t : Tok) (R : List (List Int)) (Bk : List (List (Str × Int))) (b : Bool) (G : Gd 8 w p loose mean mg mb dp un cs outer A₀ base h₀ L m s.heap)
    (N : News h₀ L s.heap ((I, oI) :: (C, oC) :: (D, oE) :: (142, tabObj ps) :: (L + 1 + 1 + 1 + 1 + 1, oP) :: (L + 1 + 1 + 1 + 1, oB) :: (L + 1 + 1 + 1, oR) :: (L + 1 + 1, oD) :: (L + 1, oS) :: new)) (off : LCg.Off3 I C D ((142, tabObj ps) :: (L + 1 + 1 + 1 + 1 + 1, oP) :: (L + 1 + 1 + 1 + 1, oB) :: (L + 1 + 1 + 1, oR) :: (L + 1 + 1, oD) :: (L + 1, oS) :: new)) (o5 : Off5 L new) (l0 : 142 < L) (hC : CodeHd h₀ 146 142)
    (hout : framesOf outer = []) (htab : TabL ps new)
    (hp : ∀ h, Has h new → h.IsList pa ks.toArray) (hks : ∀ k ∈ ks, IsKey k) (hkl : ks.length ≤ 1000) (hw : ∀ h, Has h new → Wd w h ra ba R Bk) (ok : OkD R Bk) (hs0 : 0 ≤ n) (hs4 : n < 4)
    (hret : ∀ r v new' ps' h' tk', Fr h₀ L h' m → News h₀ L h' ((I, oI) :: (C, oC) :: (D, oE) :: (142, tabObj ps') :: (L + 1 + 1 + 1 + 1 + 1, oP) :: (L + 1 + 1 + 1 + 1, oB) :: (L + 1 + 1 + 1, oR) :: (L + 1 + 1, oD) :: (L + 1, oS) :: (new' ++ new)) → LCg.Off3 I C D ((142, tabObj ps') :: (L + 1 + 1 + 1 + 1 + 1, oP) :: (L + 1 + 1 + 1 + 1, oB) :: (L + 1 + 1 + 1, oR) :: (L + 1 + 1, oD) :: (L + 1, oS) :: (new' ++ new)) → Off5 L (new' ++ new) → (ps' = ps ∨ TabL ps' new') → (∀ p ∈ new', s.heap.get? p.1 = none) → OutIs (run R Bk ks n).1 v →
      (∀ h, Has h new' → ∃ nl, h.IsList r #[v, .ref nl]) → (∀ h, Has h new' → ∃ as, Reads h (.ref r) (runD (run R Bk ks n)) as) → Q (.ref r) { s with heap := h', toks := tk' }) :
    wpAny (model PG w) (ktrTop dp un gd cn cs L a ccd cl outer) (call (.ref 147) [.ref pa, .int n t, .ref ra, .ref ba, .bool b]) Q E s := by
  have sub : ∀ {h}, Has h ((I, oI) :: (C, oC) :: (D, oE) :: (L + 1 + 1 + 1 + 1 + 1, oP) :: (L + 1 + 1 + 1 + 1, oB) :: (L + 1 + 1 + 1, oR) :: (L + 1 + 1, oD) :: (L + 1, oS) :: new) → Has h new := fun hs => hs.sub fun p hp => by simp [hp]
  refine way_l pa ra ba ks n t R Bk b ps ((I, oI) :: (C, oC) :: (D, oE) :: (L + 1 + 1 + 1 + 1 + 1, oP) :: (L + 1 + 1 + 1 + 1, oB) :: (L + 1 + 1 + 1, oR) :: (L + 1 + 1, oD) :: (L + 1, oS) :: new) G (fun p hp => N p ?_) (off5_142 l0 off o5) hC hout (htab.mono fun p hp => by simp [hp]) (fun h hs => hp h (sub hs)) hks hkl (fun h hs => hw h (sub hs)) ok hs0 hs4 ?_
  · simp only [List.mem_cons] at hp ⊢
    rcases hp with h | h | h | h | h | h | h | h | h | h <;> simp [h]
  · intro r v new' ps' h' tk' F' N' fresh tab _ out hl hr
    obtain ⟨a1, a2, a3⟩ := turn5w N off o5 N' fresh
    exact hret r v new' ps' h' tk' F' a1 a2 a3 tab fresh out hl hr
theorem temp5 {h₀ h : Heap} {L : Nat} {I C D l : Addr} {oI oC oE ol : Obj} {ps : Array Value} {oP oB oR oD oS : Obj} {new : List (Addr × Obj)} (N : News h₀ L h ((l, ol) :: (I, oI) :: (C, oC) :: (D, oE) :: (142, tabObj ps) :: (L + 1 + 1 + 1 + 1 + 1, oP) :: (L + 1 + 1 + 1 + 1, oB) :: (L + 1 + 1 + 1, oR) :: (L + 1 + 1, oD) :: (L + 1, oS) :: new)) (lt : ∀ p ∈ (I, oI) :: (C, oC) :: (D, oE) :: (142, tabObj ps) :: (L + 1 + 1 + 1 + 1 + 1, oP) :: (L + 1 + 1 + 1 + 1, oB) :: (L + 1 + 1 + 1, oR) :: (L + 1 + 1, oD) :: (L + 1, oS) :: new, p.1 < l)
    (off : LCg.Off3 I C D ((142, tabObj ps) :: (L + 1 + 1 + 1 + 1 + 1, oP) :: (L + 1 + 1 + 1 + 1, oB) :: (L + 1 + 1 + 1, oR) :: (L + 1 + 1, oD) :: (L + 1, oS) :: new)) (o5 : Off5 L new) : News h₀ L h ((I, oI) :: (C, oC) :: (D, oE) :: (142, tabObj ps) :: (L + 1 + 1 + 1 + 1 + 1, oP) :: (L + 1 + 1 + 1 + 1, oB) :: (L + 1 + 1 + 1, oR) :: (L + 1 + 1, oD) :: (L + 1, oS) :: (l, ol) :: new) ∧ LCg.Off3 I C D ((142, tabObj ps) :: (L + 1 + 1 + 1 + 1 + 1, oP) :: (L + 1 + 1 + 1 + 1, oB) :: (L + 1 + 1 + 1, oR) :: (L + 1 + 1, oD) :: (L + 1, oS) :: (l, ol) :: new) ∧ Off5 L ((l, ol) :: new) := by
  have ne : ∀ q ∈ (I, oI) :: (C, oC) :: (D, oE) :: (142, tabObj ps) :: (L + 1 + 1 + 1 + 1 + 1, oP) :: (L + 1 + 1 + 1 + 1, oB) :: (L + 1 + 1 + 1, oR) :: (L + 1 + 1, oD) :: (L + 1, oS) :: new, l ≠ q.1 := fun q hq => Nat.ne_of_gt (lt q hq)
  refine ⟨fun p hp => N p ?_, LCg.Off3.of fun p hp => ?_, fun p hp => ?_⟩
  · simp only [List.mem_cons] at hp ⊢
    rcases hp with h | h | h | h | h | h | h | h | h | h | h <;> simp [h]
  · by_cases q : p = (l, ol)
    · rw [q]; exact ⟨ne _ (.head _), ne _ (.tail _ (.head _)), ne _ (.tail _ (.tail _ (.head _)))⟩
    · refine off.mem p ?_
      simp only [List.mem_cons] at hp ⊢
      rcases hp with h | h | h | h | h | h | h | h
      · simp [h]
      · simp [h]
      · simp [h]
      · simp [h]
      · simp [h]
      · simp [h]
      · exact absurd h q
      · simp [h]
  · rcases List.mem_cons.mp hp with rfl | hp
    · exact ⟨ne (142, tabObj ps) (by simp), ne (_, oP) (by simp), ne (_, oB) (by simp), ne (_, oR) (by simp), ne (_, oD) (by simp), ne (_, oS) (by simp)⟩
    · exact o5 p hp

theorem run_one (R : List (List Int)) (Bk : List (List (Str × Int))) (k : Value) (n : Nat) : (run R Bk [k] (n : Int)).1 = look k R[n]! Bk[n]! := by
  simp [run, runS]
theorem tabV_snoc {vs : List Value} {f : Nat → Except Bool Int} {i : Nat} {v : Value} (h : TabV vs ((List.range i).map f)) (hv : OutIs (f i) v) : TabV (vs ++ [v]) ((List.range (i + 1)).map f) := by
  rw [List.range_succ, List.map_append]
  exact Paired.snoc h hv
def TabsJ (Ts : Nat → List (Except Bool Int)) (i : Nat) (ys : List Value) (new : List (Addr × Obj)) : Prop :=
  ys.length = i ∧ ∀ k el, ys[k]? = some el → ∃ ta vs, el = .ref ta ∧ (∀ h, Has h new → h.IsList ta (List.toArray vs)) ∧ TabV vs (Ts k)
theorem TabsJ.snoc {Ts : Nat → List (Except Bool Int)} {i : Nat} {ys : List Value} {new new' : List (Addr × Obj)} {r : Addr} {vs : List Value} (x : TabsJ Ts i ys new) (sub : ∀ p ∈ new, p ∈ new') (hm : (r, LCg.lst vs) ∈ new') (hv : TabV vs (Ts i)) : TabsJ Ts (i + 1) (ys ++ [.ref r]) new' := by
  obtain ⟨hl, hh⟩ := x
  refine ⟨by simp [hl], fun k el e => ?_⟩
  by_cases hlt : k < i
  · rw [List.getElem?_append_left (by omega)] at e
    obtain ⟨ta, ws, e1, h1, h2⟩ := hh k el e
    exact ⟨ta, ws, e1, fun h hs => h1 h (hs.sub sub), h2⟩
  · by_cases hq : k = i
    · subst hq
      rw [List.getElem?_append_right (by omega), hl, Nat.sub_self] at e
      simp at e
      exact ⟨r, vs, e.symm, fun h hs => ⟨_, hs _ hm, rfl, _, rfl⟩, hv⟩
    · rw [List.getElem?_eq_none (by simp [hl]; omega)] at e; cases e
theorem TabsJ.mono {Ts : Nat → List (Except Bool Int)} {i : Nat} {ys : List Value} {new new' : List (Addr × Obj)} (x : TabsJ Ts i ys new) (sub : ∀ p ∈ new, p ∈ new') : TabsJ Ts i ys new' :=
  ⟨x.1, fun k el e => let ⟨ta, ws, e1, h1, h2⟩ := x.2 k el e; ⟨ta, ws, e1, fun h hs => h1 h (hs.sub sub), h2⟩⟩
theorem TabsJ.reads {Ts : Nat → List (Except Bool Int)} {i : Nat} {ys : List Value} {new : List (Addr × Obj)} {D : Addr} {h : Heap} (x : TabsJ Ts i ys new) (hs : Has h ((D, LCg.lst ys) :: new)) : ∃ as, Reads h (.ref D) (.list ((List.range i).map fun k => tabD (Ts k))) as := by
  obtain ⟨hl, hh⟩ := x
  have gen : ∀ (l : List Value) (i₀ : Nat), (∀ k el, l[k]? = some el → ∃ ta vs, el = Value.ref ta ∧ h.IsList ta (List.toArray vs) ∧ TabV vs (Ts (i₀ + k))) → ∃ as, ReadsAll h l ((List.range' i₀ l.length).map fun k => tabD (Ts k)) as := by
    intro l
    induction l with
    | nil => intro i₀ _; exact ⟨[], .nil⟩
    | cons v l ih =>
      intro i₀ hh
      obtain ⟨ta, vs, rfl, h1, h2⟩ := hh 0 v rfl
      obtain ⟨bs, rs⟩ := ih (i₀ + 1) (fun k el e => by
        obtain ⟨ta, vs, e1, h1, h2⟩ := hh (k + 1) el (by simpa using e)
        exact ⟨ta, vs, e1, h1, by rw [show i₀ + 1 + k = i₀ + (k + 1) by omega]; exact h2⟩)
      exact ⟨_, by rw [List.length_cons, List.range'_succ, List.map_cons]; exact .cons (reads_tab h1 h2) rs⟩
  obtain ⟨as, rs⟩ := gen ys 0 (fun k el e => by
    obtain ⟨ta, vs, e1, h1, h2⟩ := hh k el e
    exact ⟨ta, vs, e1, h1 h (hs.sub fun p hp => .tail _ hp), by rw [Nat.zero_add]; exact h2⟩)
  rw [hl, ← List.range_eq_range'] at rs
  exact ⟨_, reads_isList ⟨_, hs _ (.head _), rfl, _, rfl⟩ rs⟩
section
variable {h₀ h : Heap} {L : Nat} {I K C D E : Addr} {oI oK oC oF oE : Obj} {ps ps0 : Array Value} {oP oB oR oD oS : Obj} {new extra : List (Addr × Obj)}
theorem inner_start (off : ∀ p ∈ (142, tabObj ps0) :: (L + 1 + 1 + 1 + 1 + 1, oP) :: (L + 1 + 1 + 1 + 1, oB) :: (L + 1 + 1 + 1, oR) :: (L + 1 + 1, oD) :: (L + 1, oS) :: new, p.1 ≠ I ∧ p.1 ≠ K ∧ p.1 ≠ C ∧ p.1 ≠ D) (o5 : Off5 L new) : Off5 L ((I, oI) :: (K, oK) :: (C, oC) :: (D, oF) :: new) := by
  have o0 := off (142, tabObj ps0) (by simp)
  have o1 := off (_, oP) (.tail _ (.head _))
  have o2 := off (_, oB) (.tail _ (.tail _ (.head _)))
  have o3 := off (_, oR) (.tail _ (.tail _ (.tail _ (.head _))))
  have o4 := off (_, oD) (.tail _ (.tail _ (.tail _ (.tail _ (.head _)))))
  have o6 := off (_, oS) (.tail _ (.tail _ (.tail _ (.tail _ (.tail _ (.head _))))))
  intro p hp
  simp only [List.mem_cons] at hp
  rcases hp with h | h | h | h | h
  · rw [h]; exact ⟨Ne.symm o0.1, Ne.symm o1.1, Ne.symm o2.1, Ne.symm o3.1, Ne.symm o4.1, Ne.symm o6.1⟩
  · rw [h]; exact ⟨Ne.symm o0.2.1, Ne.symm o1.2.1, Ne.symm o2.2.1, Ne.symm o3.2.1, Ne.symm o4.2.1, Ne.symm o6.2.1⟩
  · rw [h]; exact ⟨Ne.symm o0.2.2.1, Ne.symm o1.2.2.1, Ne.symm o2.2.2.1, Ne.symm o3.2.2.1, Ne.symm o4.2.2.1, Ne.symm o6.2.2.1⟩
  · rw [h]; exact ⟨Ne.symm o0.2.2.2, Ne.symm o1.2.2.2, Ne.symm o2.2.2.2, Ne.symm o3.2.2.2, Ne.symm o4.2.2.2, Ne.symm o6.2.2.2⟩
  · exact o5 p h
theorem inner_end (off : ∀ p ∈ (142, tabObj ps0) :: (L + 1 + 1 + 1 + 1 + 1, oP) :: (L + 1 + 1 + 1 + 1, oB) :: (L + 1 + 1 + 1, oR) :: (L + 1 + 1, oD) :: (L + 1, oS) :: new, p.1 ≠ I ∧ p.1 ≠ K ∧ p.1 ≠ C ∧ p.1 ≠ D) (hex : ∀ p ∈ extra, p.1 ≠ I ∧ p.1 ≠ K ∧ p.1 ≠ C ∧ p.1 ≠ D) (o5x : Off5 L (extra ++ (I, oI) :: (K, oK) :: (C, oC) :: (D, oF) :: new))
    (N : News h₀ L h ((E, oE) :: (142, tabObj ps) :: (L + 1 + 1 + 1 + 1 + 1, oP) :: (L + 1 + 1 + 1 + 1, oB) :: (L + 1 + 1 + 1, oR) :: (L + 1 + 1, oD) :: (L + 1, oS) :: (extra ++ (I, oI) :: (K, oK) :: (C, oC) :: (D, oF) :: new))) (off1 : ∀ p ∈ (142, tabObj ps) :: (L + 1 + 1 + 1 + 1 + 1, oP) :: (L + 1 + 1 + 1 + 1, oB) :: (L + 1 + 1 + 1, oR) :: (L + 1 + 1, oD) :: (L + 1, oS) :: (extra ++ (I, oI) :: (K, oK) :: (C, oC) :: (D, oF) :: new), p.1 ≠ E) :
    News h₀ L h ((I, oI) :: (K, oK) :: (C, oC) :: (D, oF) :: (142, tabObj ps) :: (L + 1 + 1 + 1 + 1 + 1, oP) :: (L + 1 + 1 + 1 + 1, oB) :: (L + 1 + 1 + 1, oR) :: (L + 1 + 1, oD) :: (L + 1, oS) :: (E, oE) :: (extra ++ new)) ∧ (∀ p ∈ (142, tabObj ps) :: (L + 1 + 1 + 1 + 1 + 1, oP) :: (L + 1 + 1 + 1 + 1, oB) :: (L + 1 + 1 + 1, oR) :: (L + 1 + 1, oD) :: (L + 1, oS) :: (E, oE) :: (extra ++ new), p.1 ≠ I ∧ p.1 ≠ K ∧ p.1 ≠ C ∧ p.1 ≠ D) ∧ Off5 L ((E, oE) :: (extra ++ new)) := by
  have f5 := fin5 N off1 o5x
  refine ⟨fun p hp => N p ?_, fun p hp => ?_, fun p hp => f5.2 p ?_⟩
  · simp only [List.mem_cons, List.mem_append] at hp ⊢
    rcases hp with h | h | h | h | h | h | h | h | h | h | h | h | h <;> simp [h]
  · have oldp : p ∈ (142, tabObj ps0) :: (L + 1 + 1 + 1 + 1 + 1, oP) :: (L + 1 + 1 + 1 + 1, oB) :: (L + 1 + 1 + 1, oR) :: (L + 1 + 1, oD) :: (L + 1, oS) :: new ∨ p = (142, tabObj ps) ∨ p = (E, oE) ∨ p ∈ extra := by
      simp only [List.mem_cons, List.mem_append] at hp ⊢
      rcases hp with h | h | h | h | h | h | h | h | h <;> simp [h]
    rcases oldp with h | h | h | h
    · exact off p h
    · rw [h]; exact off (142, tabObj ps0) (.head _)
    · rw [h]
      exact ⟨Ne.symm (off1 (I, oI) (by simp)), Ne.symm (off1 (K, oK) (by simp)), Ne.symm (off1 (C, oC) (by simp)), Ne.symm (off1 (D, oF) (by simp))⟩
    · exact hex p h
  · simp only [List.mem_cons, List.mem_append] at hp ⊢
    rcases hp with h | h | h <;> simp [h]
end

def tsOf (R : List (List Int)) (Bk : List (List (Str × Int))) (k : Value) : List (Except Bool Int) := (List.range 4).map fun n => look k R[n]! Bk[n]!
theorem tsOf_ok {R : List (List Int)} {Bk : List (List (Str × Int))} (ok : OkD R Bk) (k : Value) : OkT (tsOf R Bk k) := by
  refine ⟨by simp [tsOf], fun n hn => ?_⟩
  obtain ⟨i, hi, e⟩ := List.mem_map.mp hn
  exact ok.look (List.mem_range.mp hi) e
theorem tsOf_at (R : List (List Int)) (Bk : List (List (Str × Int))) (k : Value) {n : Nat} (h : n < 4) : (tsOf R Bk k)[n]! = look k R[n]! Bk[n]! := by
  rw [List.getElem!_eq_getElem?_getD]
  simp [tsOf, h]
theorem map_at {α : Type} [Inhabited α] (f : Nat → α) {n i : Nat} (h : i < n) : ((List.range n).map f)[i]! = f i := by
  rw [List.getElem!_eq_getElem?_getD]
  simp [h]
theorem fronts_law {R : List (List Int)} {Bk : List (List (Str × Int))} (ok : OkD R Bk) {ks : List Value} {N : Nat} (hN : ks.length = N) : ∀ k, k < N → frontAt ((List.range N).map fun i => tsOf R Bk ks[i]!) k = (List.range 4).map fun n : Nat => (run R Bk (ks.take (k + 1)) (n : Int)).1
  | 0, h => by
    have h1 : ks.take 1 = [ks[0]!] := by
      cases ks with
      | nil => simp at hN; omega
      | cons a l => simp
    rw [frontAt, map_at _ h, tsOf]
    refine List.map_congr_left fun n _ => ?_
    rw [h1, run_one]
  | k + 1, h => by
    have ih := fronts_law ok hN k (by omega)
    rw [frontAt, ih, map_at _ h, joinT, List.map_map]
    refine List.map_congr_left fun n hn => ?_
    have hn4 := List.mem_range.mp hn
    have hk : ks[k + 1]? = some ks[k + 1]! := by
      have hlt : k + 1 < ks.length := by omega
      rw [List.getElem!_eq_getElem?_getD, List.getElem?_eq_getElem hlt]; rfl
    have ht := run_take (R := R) (Bk := Bk) (n := (n : Int)) hk
    have hr := (run_ok ok (show (0 : Int) ≤ n by omega) (show (n : Int) < 4 by omega) (ks.take (k + 1))).1
    rw [ht]
    show (match (run R Bk (ks.take (k + 1)) (n : Int)).1 with | .ok n => (tsOf R Bk ks[k + 1]!)[n.toNat]! | .error b => .error b) = _
    generalize run R Bk (ks.take (k + 1)) (n : Int) = st at hr ⊢
    obtain ⟨r, acc⟩ := st
    cases r with
    | ok v =>
      have := hr v rfl
      exact tsOf_at R Bk _ (by omega)
    | error b => rfl

theorem law1 : PySem.Challenge.rw_nq0091_01.Holds := by
  refine Mine.hd ?_
  k_go0
  all_goals try k_fold
  rename_i W0 S0 S1 mg mb Gg Yg fa of pmV cdV docV hof hcdV hgens X9 V9 T9 B9 TE9 TW9 ns hs9 hlay9 hL9 hr9 hl9 was9 wbs9 sa vs was hsL9 hra9 w19 r09 hI hr99 hlen hc9 hD9 h1 tk1 oP oB oR oD oS dP dB dR dD dS X0 X T B F N l0
  have hsm : ∃ o, (ghostOf S1.heap [(146, 142)]).get? sysModules = some o := by
    have NS := T9.seer (by decide +kernel)
    obtain ⟨m, ⟨o, es, ep, e, _⟩, _⟩ := NS.2
    exact ⟨o, hideAll_get _ e (by decide)⟩
  clear Gg Yg hof hcdV X9 V9 T9 B9 TE9 TW9 hs9 hlay9 hL9 hr9 hl9 hsL9 hra9 w19 r09 hr99 hc9 hD9 X0 hT8 hT9
  replace dP : oP.data = .cell none := dP
  replace dB : oB.data = .cell none := dB
  replace dR : oR.data = .cell none := dR
  replace dD : oD.data = .cell none := dD
  replace dS : oS.data = .cell (some (.ref sa)) := dS
  replace F : Fr (ghostOf S1.heap [(146, 142)]) S1.heap.objs.size h1 (fun _ => none) := F
  replace codeHd : CodeHd (ghostOf S1.heap [(146, 142)]) 146 142 := codeHd
  generalize ghostOf S1.heap [(146, 142)] = h₀ at *
  generalize S1.heap.objs.size = L at *
  rw [show PySem.Challenge.rw_nq0091_01.row.prog = PG from rfl]
  have hlen' : ns.length ≤ 63 := by omega
  replace N : News h₀ L h1 ((142, tabObj #[]) :: (L + 1 + 1 + 1 + 1 + 1, oP) :: (L + 1 + 1 + 1 + 1, oB) :: (L + 1 + 1 + 1, oR) :: (L + 1 + 1, oD) :: (L + 1, oS) :: []) := fun p hp => N p (by simp only [List.mem_cons, List.not_mem_nil, or_false] at hp ⊢; rcases hp with h | h | h | h | h | h <;> simp [h])
  -- drawn
  iterate 2 (first | walk1 | (dsimp only; walk1))
  refine LCg.ListComp_U F (by with_unfolding_all rfl) (by decide) (by rfl) (by decide) (by rfl) ?_
  iterate 7 (first | walk1 | (dsimp only; walk1))
  rename_i Fo No hX tkX t1 u1 v1 hR FR NR kR
  refine LCg.CompSrc.range (n := 5) rfl FR NR hR (by decide) (by decide) (by rw [sizeLine_eq]; decide)
    (fun g => rest_J (n := 5) (fun i ys news => news = (142, tabObj #[]) :: (L + 1 + 1 + 1 + 1 + 1, oP) :: (L + 1 + 1 + 1 + 1, oB) :: (L + 1 + 1 + 1, oR) :: (L + 1 + 1, oD) :: (L + 1, oS) :: [] ∧ ∃ zs, IntsAre ys zs ∧ zs.length = i) ?_ ?_ 5 0 [] _ rfl ⟨rfl, [], .nil, rfl⟩)
  · rintro i ys news v I oI C oC D m₂ h tk E' hi ⟨t, rfl⟩ ⟨rfl, zs, hzs, hzl⟩ hoC hx F3 N3 off
    clear NR No FR Fo hR kR
    iterate 22 (first | walk1 | (dsimp only; walk1))
    refine newList_K F3 N3 ?_ (by rw [sizeLine_eq]; show 5 ≤ _; exact Nat.le_of_ble_eq_true rfl)
    intro l4 h4 F4 N4 lt4
    iterate 1 (first | walk1 | (dsimp only; walk1))
    obtain ⟨d4, t4, e4, d40, d41⟩ : ∃ d t', (#[Value.int 19757 tk, Value.int 7689 (tk + 1), Value.int 16141 (tk + 1 + 1), Value.int 2144 (tk + 1 + 1 + 1), Value.int 52957 (tk + 1 + 1 + 1 + 1)] : Array Value)[((0 : Int) + (i : Int)).toNat]? = some (Value.int d t') ∧ 0 ≤ d ∧ d < 100000 := by
      rcases (show i = 0 ∨ i = 1 ∨ i = 2 ∨ i = 3 ∨ i = 4 by omega) with rfl | rfl | rfl | rfl | rfl <;> exact ⟨_, _, rfl, by decide, by decide⟩
    refine item_at ⟨_, (N4 _ (.head _)).1, rfl, _, rfl⟩ (by omega) (by omega) e4 ?_
    iterate 1 (first | walk1 | (dsimp only; walk1))
    refine ⟨X.keeps F4.keep, ?_⟩
    refine heap_c sa vs ns (0 + i) d4 t t4 ⟨B, F4, X, T, rfl, by decide, by decide⟩ (isList_keep lifted F4.keep) hI hlen' (by omega) (by omega) d40 d41 ?_
    intro n5 t5 h5 tk5 k5
    k_unmd
    k_unfold
    exact ⟨h5, tk5, _, rfl, F4.keeps k5, fun p hp => (N4.grown k5) p (.tail _ hp), off, trivial, rfl, zs ++ [n5], ints_snoc hzs, by simp [hzl]⟩
  rintro ys news ⟨rfl, zs, hzs, hzl⟩
  obtain ⟨z0, z1, z2, z3, z4, rfl⟩ : ∃ a b c d e, zs = [a, b, c, d, e] := by
    match zs, hzl with
    | [a, b, c, d, e], _ => exact ⟨a, b, c, d, e, rfl⟩
  clear NR No FR Fo hR kR
  intro D1 h6 tk6 F6 N6 off6
  obtain ⟨N7, o57⟩ := fin5 N6 (off1_mem off6) (fun p hp => nomatch hp)
  dsimp only
  refine store_D l0 F6 N7 o57 rfl dD ?_ rfl rfl
  clear off6 N6 N7 F6
  intro h7 oD7 F7 N7 dD7
  -- rows
  clear dD oD
  iterate 3 (first | walk1 | (dsimp only; walk1))
  refine LCg.ListComp_U F7 (by with_unfolding_all rfl) (by decide) (by rfl) (by decide) (by rfl) ?_
  iterate 7 (first | walk1 | (dsimp only; walk1))
  rename_i Fo No hX tkX t1 u1 v1 hR FR NR kR
  refine LCg.CompSrc.range (n := 4) rfl FR NR hR (by decide) (by decide) (by rw [sizeLine_eq]; decide)
    (fun g => rest_J (n := 4) (fun i ys2 news => ∃ new, news = (142, tabObj #[]) :: (L + 1 + 1 + 1 + 1 + 1, oP) :: (L + 1 + 1 + 1 + 1, oB) :: (L + 1 + 1 + 1, oR) :: (L + 1 + 1, oD7) :: (L + 1, oS) :: new ∧ Off5 L new ∧ (D1, LCg.lst ys) ∈ new ∧ RowsJ (fun k => rowOf [z0, z1, z2, z3, z4][k]!) i ys2 new) ?_ ?_ 4 0 [] _ rfl ⟨_, rfl, o57, .head _, [], rfl, rfl, fun k hk => absurd hk (Nat.not_lt_zero k)⟩)
  · rintro i ys2 news v I oI C oC D m₂ h tk E' hi ⟨t, rfl⟩ ⟨new, rfl, o5, hD1, hrows⟩ hoC hx F3 N3 off
    clear NR No FR Fo hR kR
    iterate 8 (first | walk1 | (dsimp only; walk1))
    obtain ⟨t4, e4⟩ := ints_at hzs (i := i) (n := [z0, z1, z2, z3, z4][i]!) (by rcases (show i = 0 ∨ i = 1 ∨ i = 2 ∨ i = 3 by omega) with rfl | rfl | rfl | rfl <;> rfl)
    refine item_at ⟨_, (N3 (D1, LCg.lst ys) (by simp [hD1])).1, rfl, _, rfl⟩ (by omega) (by omega) (v := .int [z0, z1, z2, z3, z4][i]! t4) (by simpa using e4) ?_
    iterate 1 (first | walk1 | (dsimp only; walk1))
    refine ⟨X.keeps F3.keep, ?_⟩
    refine row_c _ t4 ⟨B, F3, X, T, rfl, by decide, by decide⟩ ?_
    intro r vr h5 tk5 k5 new5 hpl hints
    obtain ⟨vl, rfl⟩ : ∃ vl : List Value, vr = vl.toArray := ⟨vr.toList, by simp⟩
    obtain ⟨j5, e5⟩ := hpl
    have key := turn5 (new' := [(r, ({ cls := .type "list", data := .seq vl.toArray j5 } : Obj))]) F3 N3 off o5 k5 (fun p hp => by rw [List.mem_singleton.mp hp]; exact ⟨e5, new5⟩)
    k_unmd
    k_unfold
    exact ⟨h5, tk5, _, rfl, F3.keeps k5, key.1, key.2.1, trivial, _, rfl, key.2.2, .tail _ hD1, hrows.snoc (by simpa using hints)⟩
  rintro ys2 news ⟨new2, rfl, o52, hD12, hrows⟩
  clear NR No FR Fo hR kR
  intro D2 h8 tk8 F8 N8 off8
  obtain ⟨N9, o59⟩ := fin5 N8 (off1_mem off8) o52
  dsimp only
  refine store_R l0 F8 N9 o59 rfl dR ?_ rfl rfl
  clear off8 N8 N9 F8
  intro h9 oR9 F9 N9 dR9
  clear dR oR
  -- books
  iterate 3 (first | walk1 | (dsimp only; walk1))
  refine LCg.ListComp_U F9 (by with_unfolding_all rfl) (by decide) (by rfl) (by decide) (by rfl) ?_
  iterate 7 (first | walk1 | (dsimp only; walk1))
  rename_i Fo No hX tkX t1 u1 v1 hR FR NR kR
  refine LCg.CompSrc.range (n := 4) rfl FR NR hR (by decide) (by decide) (by rw [sizeLine_eq]; decide)
    (fun g => rest_J (n := 4) (fun i ys3 news => ∃ new, news = (142, tabObj #[]) :: (L + 1 + 1 + 1 + 1 + 1, oP) :: (L + 1 + 1 + 1 + 1, oB) :: (L + 1 + 1 + 1, oR9) :: (L + 1 + 1, oD7) :: (L + 1, oS) :: new ∧ Off5 L new ∧ (∀ p ∈ (D2, LCg.lst ys2) :: new2, p ∈ new) ∧ BooksJ W0 (fun k => bookOf [z0, z1, z2, z3, z4][k]!) i ys3 new) ?_ ?_ 4 0 [] _ rfl ⟨_, rfl, o59, fun p hp => hp, [], rfl, rfl, fun k hk => absurd hk (Nat.not_lt_zero k)⟩)
  · rintro i ys3 news v I oI C oC D m₂ h tk E' hi ⟨t, rfl⟩ ⟨new, rfl, o5, hsub, hbooks⟩ hoC hx F3 N3 off
    clear NR No FR Fo hR kR
    have hD1 := hsub _ (.tail _ hD12)
    iterate 8 (first | walk1 | (dsimp only; walk1))
    obtain ⟨t4, e4⟩ := ints_at hzs (i := i) (n := [z0, z1, z2, z3, z4][i]!) (by rcases (show i = 0 ∨ i = 1 ∨ i = 2 ∨ i = 3 by omega) with rfl | rfl | rfl | rfl <;> rfl)
    refine item_at ⟨_, (N3 (D1, LCg.lst ys) (by simp [hD1])).1, rfl, _, rfl⟩ (by omega) (by omega) (v := .int [z0, z1, z2, z3, z4][i]! t4) (by simpa using e4) ?_
    iterate 1 (first | walk1 | (dsimp only; walk1))
    refine ⟨X.keeps F3.keep, ?_⟩
    refine book_c _ t4 ⟨B, F3, X, T, rfl, by decide, by decide⟩ ?_
    intro r kvs h5 tk5 k5 new5 hdict hpair
    obtain ⟨o, es, ep, e5, hx5, hd5, hk5, hp5, hn5⟩ := hdict
    have key := turn5 (new' := [(r, o)]) F3 N3 off o5 k5 (fun p hp => by rw [List.mem_singleton.mp hp]; exact ⟨e5, new5⟩)
    have hrs : (r == sysModules) = false := by
      obtain ⟨os, es⟩ := hsm
      refine beq_eq_false_iff_ne.mpr fun q => ?_
      have := F3.keep _ _ es
      rw [← q, new5] at this; cases this
    k_unmd
    k_unfold
    exact ⟨h5, tk5, _, rfl, F3.keeps k5, key.1, key.2.1, trivial, _, rfl, key.2.2, fun p hp => .tail _ (hsub p hp), hbooks.snoc fun g hg => ⟨hrs, kvs, ⟨o, es, ep, hg, hx5, hd5, hk5, hp5, hn5⟩, hpair⟩⟩
  rintro ys3 news ⟨new3, rfl, o53, hsub3, hbooks⟩
  clear NR No FR Fo hR kR
  intro D3 h10 tk10 F10 N10 off10
  obtain ⟨N11, o511⟩ := fin5 N10 (off1_mem off10) o53
  dsimp only
  refine store_B l0 F10 N11 o511 rfl dB ?_ rfl rfl
  clear off10 N10 N11 F10
  intro h11 oB11 F11 N11 dB11
  clear dB oB
  -- path
  dsimp only
  have hD13 : (D1, LCg.lst ys) ∈ (D3, LCg.lst ys3) :: new3 := .tail _ (hsub3 _ (.tail _ hD12))
  iterate 9 (first | walk1 | (dsimp only; walk1))
  obtain ⟨t4, e4⟩ := ints_at hzs (i := 4) (n := z4) rfl
  refine item_at ⟨_, (N11 (D1, LCg.lst ys) (List.mem_cons_of_mem _ (List.mem_cons_of_mem _ (List.mem_cons_of_mem _ (List.mem_cons_of_mem _ (List.mem_cons_of_mem _ (List.mem_cons_of_mem _ hD13))))))).1, rfl, _, rfl⟩ (by omega) (by omega) (v := .int z4 t4) (by simpa using e4) ?_
  iterate 1 (first | walk1 | (dsimp only; walk1))
  refine ⟨X.keeps F11.keep, ?_⟩
  refine keys_c _ t4 ⟨B, F11, X, T, rfl, by decide, by decide⟩ ?_
  intro pa kv h12 tk12 k12 new12 hpl hks5 hks
  obtain ⟨ks, rfl⟩ : ∃ l : List Value, kv = l.toArray := ⟨kv.toList, by simp⟩
  replace hks5 : ks.length = 5 := by simpa using hks5
  replace hks : ∀ k ∈ ks, IsKey k := by simpa using hks
  obtain ⟨j12, e12⟩ := hpl
  obtain ⟨N12, o512⟩ := add5 (new' := [(pa, ({ cls := .type "list", data := .seq ks.toArray j12 } : Obj))]) F11 N11 o511 k12 (fun p hp => by rw [List.mem_singleton.mp hp]; exact ⟨e12, new12⟩)
  have F12 := F11.keeps k12
  clear N11 F11 k12 e12 new12
  dsimp only
  refine store_P l0 F12 N12 o512 rfl dP ?_ rfl rfl
  clear N12 F12
  intro h13 oP13 F13 N13 dP13
  clear dP oP
  obtain ⟨z, hz⟩ : ∃ z : Nat → Int, z = fun k => [z0, z1, z2, z3, z4][k]! := ⟨_, rfl⟩
  have hW : ∀ h, Has h ([(pa, ({ cls := .type "list", data := .seq ks.toArray j12 } : Obj))] ++ (D3, LCg.lst ys3) :: new3) → Wd W0 h D2 D3 (RR z) (BB z) := by
    subst hz
    exact wd_of hrows hbooks (fun p hp => .tail _ (.tail _ (hsub3 p (.tail _ hp)))) (fun p hp => .tail _ (.tail _ hp)) (.tail _ (.tail _ (hsub3 _ (.head _)))) (.tail _ (.head _))
  have hP0 : ∀ h, Has h ([(pa, ({ cls := .type "list", data := .seq ks.toArray j12 } : Obj))] ++ (D3, LCg.lst ys3) :: new3) → h.IsList pa ks.toArray := fun h hs => ⟨_, hs _ (.head _), rfl, _, rfl⟩
  have hM0 : ∃ o, (pa, o) ∈ ([(pa, ({ cls := .type "list", data := .seq ks.toArray j12 } : Obj))] ++ (D3, LCg.lst ys3) :: new3) ∧ o.cls = .type "list" ∧ ∃ n, o.data = .seq ks.toArray n := ⟨_, .head _, rfl, _, rfl⟩
  clear hz hrows hbooks hsub3 hD12 hD13 hzs hzl o57 o52 o59 o53 o511
  generalize ([(pa, ({ cls := .type "list", data := .seq ks.toArray j12 } : Obj))] ++ (D3, LCg.lst ys3) :: new3) = new0 at *
  clear t4 e4 z0 z1 z2 z3 z4 dS dD7
  have ok := okd z
  generalize RR z = R at *
  generalize BB z = Bk at *
  clear z
  -- due
  dsimp only
  iterate 1 (first | walk1 | (dsimp only; walk1))
  refine LCg.Assign_ListComp_U F13 rfl (by with_unfolding_all rfl) (by with_unfolding_all rfl) (by decide) (by rfl) (by decide) (by rfl) (by rfl) (by rfl) ?_
  iterate 7 (first | walk1 | (dsimp only; walk1))
  rename_i Fo No hX tkX t1 u1 v1 hR FR NR kR
  refine LCg.CompSrc.range (n := 4) rfl FR NR hR (by decide) (by decide) (by rw [sizeLine_eq]; decide)
    (fun g => rest_J (n := 4) (fun i ys4 news => ∃ new, news = (142, tabObj #[]) :: (L + 1 + 1 + 1 + 1 + 1, oP13) :: (L + 1 + 1 + 1 + 1, oB11) :: (L + 1 + 1 + 1, oR9) :: (L + 1 + 1, oD7) :: (L + 1, oS) :: new ∧ Off5 L new ∧ (∀ p ∈ new0, p ∈ new) ∧ TellJ (fun k => runD (run R Bk ks k)) i ys4 new) ?_ ?_ 4 0 [] _ rfl ⟨_, rfl, o512, fun p hp => hp, TellJ.nil _ _⟩)
  · rintro i ys4 news v I oI C oC D m₂ h tk E' hi ⟨t, rfl⟩ ⟨new, rfl, o5, hsub, htell⟩ hoC hx F3 N3 off
    clear NR No FR Fo hR kR
    rw [Int.zero_add] at hx
    have hs : Has h new0 := (Has.of N3).sub fun p hp => by simp [hsub p hp]
    iterate 13 (first | walk1 | (dsimp only; walk1))
    refine ⟨X.keeps F3.keep, ?_⟩
    refine own_l pa D2 D3 ks i t R Bk ⟨B, F3, X, T, rfl, by decide, by decide⟩ (hP0 _ hs) hks (by omega) (hW _ hs) ok (by omega) (by omega) ?_
    intro r v new' h5 tk5 k5 hn hout hL hR
    have key := turn5 (new' := new') F3 N3 off o5 k5 hn
    k_unmd
    k_unfold
    exact ⟨h5, tk5, _, rfl, F3.keeps k5, key.1, key.2.1, trivial, _, rfl, key.2.2, fun p hp => List.mem_append_right _ (hsub p hp), htell.snoc hR⟩
  rintro ys4 news ⟨new4, rfl, o54, hsub4, htell4⟩
  clear NR No FR Fo hR kR
  intro D4 h14 tk14 F14 N14 off14
  obtain ⟨N15, o515⟩ := fin5 N14 (off1_mem off14) o54
  have hdue : ∀ h, Has h ((D4, LCg.lst ys4) :: new4) → ∃ as, Reads h (.ref D4) (.list ((List.range 4).map fun k : Nat => runD (run R Bk ks (k : Int)))) as := fun h hs => htell4.list hs
  have hsub5 : ∀ p ∈ new0, p ∈ (D4, LCg.lst ys4) :: new4 := fun p hp => .tail _ (hsub4 p hp)
  have hM5 : ∃ o, (pa, o) ∈ (D4, LCg.lst ys4) :: new4 ∧ o.cls = .type "list" ∧ ∃ n, o.data = .seq ks.toArray n := let ⟨o, hm, r⟩ := hM0; ⟨o, hsub5 _ hm, r⟩
  clear hM0
  have htab0 : TabL #[] ((D4, LCg.lst ys4) :: new4) := .inl rfl
  clear off14 N14 htell4 hsub4 o54 o512
  generalize ((D4, LCg.lst ys4) :: new4) = new5 at *
  have hW5 : ∀ h, Has h new5 → Wd W0 h D2 D3 R Bk := fun h hs => hW h (hs.sub hsub5)
  have hP5 : ∀ h, Has h new5 → h.IsList pa ks.toArray := fun h hs => hP0 h (hs.sub hsub5)
  clear hW hP0 hsub5
  dsimp only
  iterate 3 (first | walk1 | (dsimp only; walk1))
  refine LCg.ListComp_U F14 (by with_unfolding_all rfl) (by decide) (by rfl) (by decide) (by rfl) ?_
  iterate 7 (first | walk1 | (dsimp only; walk1))
  rename_i Fo No hX tkX t1 u1 v1 hR FR NR kR
  refine LCg.CompSrc.range (n := 4) rfl FR NR hR (by decide) (by decide) (by rw [sizeLine_eq]; decide)
    (fun g => rest_J (n := 4) (fun i ys6 news => ∃ ps new, news = (142, tabObj ps) :: (L + 1 + 1 + 1 + 1 + 1, oP13) :: (L + 1 + 1 + 1 + 1, oB11) :: (L + 1 + 1 + 1, oR9) :: (L + 1 + 1, oD7) :: (L + 1, oS) :: new ∧ Off5 L new ∧ TabL ps new ∧ (∀ p ∈ new5, p ∈ new) ∧ TellJ (fun k => runD (run R Bk ks k)) i ys6 new) ?_ ?_ 4 0 [] _ rfl ⟨_, _, rfl, o515, htab0, fun p hp => hp, TellJ.nil _ _⟩)
  · rintro i ys6 news v I oI C oC D m₂ h tk E' hi ⟨t, rfl⟩ ⟨ps, new, rfl, o5, htab, hsub, htell⟩ hoC hx F3 N3 off
    clear NR No FR Fo hR kR
    rw [Int.zero_add] at hx
    iterate 15 (first | walk1 | (dsimp only; walk1))
    refine ⟨X.keeps F3.keep, ?_⟩
    refine way5 pa D2 D3 ks i t R Bk false ⟨B, F3, X, T, rfl, by decide, by decide⟩ N3 off o5 l0 codeHd rfl htab (fun h hs => hP5 _ (hs.sub hsub)) hks (by omega) (fun h hs => hW5 _ (hs.sub hsub)) ok (by omega) (by omega) ?_
    intro r v new' ps' h5 tk5 F5 N5 off5 o55 tab5 fresh5 hout hL hRd
    k_unmd
    k_unfold
    exact ⟨h5, tk5, _, rfl, F5, N5, off5, trivial, _, _, rfl, o55, tab_next htab tab5, fun p hp => List.mem_append_right _ (hsub p hp), htell.snoc hRd⟩
  rintro ys6 news ⟨ps6, new6a, rfl, o56a, htab6, hsub6, htell6⟩
  clear NR No FR Fo hR kR
  intro D6 h6a tk6a F6 N6a off6
  obtain ⟨N6, o56⟩ := fin5 N6a (off1_mem off6) o56a
  have hread6 := htell6.list (h := h6a) (D := D6) ((Has.of N6).sub fun p hp => by
    rcases List.mem_cons.mp hp with h | h <;> simp [h])
  obtain ⟨das, hdr⟩ := hdue h6a ((Has.of N6).sub fun p hp => by simp [hsub6 p hp])
  obtain ⟨was6, hwr⟩ := hread6
  have hdue6 : ∀ h, Has h new6a → ∃ as, Reads h (.ref D4) (.list ((List.range 4).map fun k : Nat => runD (run R Bk ks (k : Int)))) as := fun h hs => hdue h (hs.sub hsub6)
  have hW6 : ∀ h, Has h new6a → Wd W0 h D2 D3 R Bk := fun h hs => hW5 h (hs.sub hsub6)
  have hP6 : ∀ h, Has h new6a → h.IsList pa ks.toArray := fun h hs => hP5 h (hs.sub hsub6)
  have hM6 : ∃ o, (pa, o) ∈ new6a ∧ o.cls = .type "list" ∧ ∃ n, o.data = .seq ks.toArray n := let ⟨o, hm, r⟩ := hM5; ⟨o, hsub6 _ hm, r⟩
  clear hM5
  have N6b : News h₀ L h6a ((142, tabObj ps6) :: (L + 1 + 1 + 1 + 1 + 1, oP13) :: (L + 1 + 1 + 1 + 1, oB11) :: (L + 1 + 1 + 1, oR9) :: (L + 1 + 1, oD7) :: (L + 1, oS) :: new6a) := fun p hp => N6a p (.tail _ hp)
  clear N6 N6a hsub6 htell6 hdue hW5 hP5 o515 o56 off6
  have fin6 : Fine 4 (.list ((List.range 4).map fun k : Nat => runD (run R Bk ks (k : Int)))) := fine_list fun d hd => by
    obtain ⟨k, _, rfl⟩ := List.mem_map.mp hd
    exact fine_run fun q hq => hks _ (run_keys R Bk ks k q hq)
  dsimp only
  iterate 1 (first | walk1 | (dsimp only; walk1))
  refine ne_dataH hwr hdr (fin6.shaped (by decide)) (fin6.shaped (by decide)) (by show callerA.units + 3 + 64 < cLine; decide) ?_
  rw [PySem.SeqAt.eqv_refl _ fin6.1]
  clear hwr hdr fin6 was6 das
  iterate 6 (first | walk1 | (dsimp only; walk1))
  refine LCg.ListComp_U F6 (by with_unfolding_all rfl) (by decide) (by rfl) (by decide) (by rfl) ?_
  iterate 7 (first | walk1 | (dsimp only; walk1))
  rename_i Fo No hX tkX t1 u1 v1 hR FR NR kR
  refine LCg.CompSrc.range (n := 4) rfl FR NR hR (by decide) (by decide) (by rw [sizeLine_eq]; decide)
    (fun g => rest_J (n := 4) (fun i ys7 news => ∃ ps new, news = (142, tabObj ps) :: (L + 1 + 1 + 1 + 1 + 1, oP13) :: (L + 1 + 1 + 1 + 1, oB11) :: (L + 1 + 1 + 1, oR9) :: (L + 1 + 1, oD7) :: (L + 1, oS) :: new ∧ Off5 L new ∧ TabL ps new ∧ (∀ p ∈ new6a, p ∈ new) ∧ TellJ (fun k => runD (run R Bk ks k)) i ys7 new) ?_ ?_ 4 0 [] _ rfl ⟨_, _, rfl, o56a, htab6, fun p hp => hp, TellJ.nil _ _⟩)
  · rintro i ys7 news v I oI C oC D m₂ h tk E' hi ⟨t, rfl⟩ ⟨ps, new, rfl, o5, htab, hsub, htell⟩ hoC hx F3 N3 off
    clear NR No FR Fo hR kR
    rw [Int.zero_add] at hx
    iterate 15 (first | walk1 | (dsimp only; walk1))
    refine ⟨X.keeps F3.keep, ?_⟩
    refine way5 pa D2 D3 ks i t R Bk true ⟨B, F3, X, T, rfl, by decide, by decide⟩ N3 off o5 l0 codeHd rfl htab (fun h hs => hP6 _ (hs.sub hsub)) hks (by omega) (fun h hs => hW6 _ (hs.sub hsub)) ok (by omega) (by omega) ?_
    intro r v new' ps' h5 tk5 F5 N5 off5 o55 tab5 fresh5 hout hL hRd
    k_unmd
    k_unfold
    exact ⟨h5, tk5, _, rfl, F5, N5, off5, trivial, _, _, rfl, o55, tab_next htab tab5, fun p hp => List.mem_append_right _ (hsub p hp), htell.snoc hRd⟩
  rintro ys7 news ⟨ps7, new7a, rfl, o57a, htab7, hsub7, htell7⟩
  clear NR No FR Fo hR kR
  intro D7 h7a tk7a F7 N7a off7
  obtain ⟨N7, o57⟩ := fin5 N7a (off1_mem off7) o57a
  have hread7 := htell7.list (h := h7a) (D := D7) ((Has.of N7).sub fun p hp => by
    rcases List.mem_cons.mp hp with h | h <;> simp [h])
  obtain ⟨das, hdr⟩ := hdue6 h7a ((Has.of N7).sub fun p hp => by simp [hsub7 p hp])
  obtain ⟨was7, hwr⟩ := hread7
  have hdue7 : ∀ h, Has h new7a → ∃ as, Reads h (.ref D4) (.list ((List.range 4).map fun k : Nat => runD (run R Bk ks (k : Int)))) as := fun h hs => hdue6 h (hs.sub hsub7)
  have hW7 : ∀ h, Has h new7a → Wd W0 h D2 D3 R Bk := fun h hs => hW6 h (hs.sub hsub7)
  have hP7 : ∀ h, Has h new7a → h.IsList pa ks.toArray := fun h hs => hP6 h (hs.sub hsub7)
  have hM7 : ∃ o, (pa, o) ∈ new7a ∧ o.cls = .type "list" ∧ ∃ n, o.data = .seq ks.toArray n := let ⟨o, hm, r⟩ := hM6; ⟨o, hsub7 _ hm, r⟩
  clear hM6
  have N7b : News h₀ L h7a ((142, tabObj ps7) :: (L + 1 + 1 + 1 + 1 + 1, oP13) :: (L + 1 + 1 + 1 + 1, oB11) :: (L + 1 + 1 + 1, oR9) :: (L + 1 + 1, oD7) :: (L + 1, oS) :: new7a) := fun p hp => N7a p (.tail _ hp)
  clear N7 N7a hsub7 htell7 hdue6 hW6 hP6 o56a o57 off7
  have fin7 : Fine 4 (.list ((List.range 4).map fun k : Nat => runD (run R Bk ks (k : Int)))) := fine_list fun d hd => by
    obtain ⟨k, _, rfl⟩ := List.mem_map.mp hd
    exact fine_run fun q hq => hks _ (run_keys R Bk ks k q hq)
  dsimp only
  iterate 1 (first | walk1 | (dsimp only; walk1))
  refine ne_dataH hwr hdr (fin7.shaped (by decide)) (fin7.shaped (by decide)) (by show callerA.units + 3 + 64 < cLine; decide) ?_
  rw [PySem.SeqAt.eqv_refl _ fin7.1]
  clear hwr hdr fin7 was7 das
  iterate 3 (first | walk1 | (dsimp only; walk1))
  dsimp only
  clear hdue7
  -- tables
  iterate 1 (first | walk1 | (dsimp only; walk1))
  refine listcomp_assign (by with_unfolding_all rfl) (by with_unfolding_all rfl) (by rfl) (by decide) ?_
  iterate 1 (first | walk1 | (dsimp only; walk1))
  obtain ⟨oM, hMm, hMr⟩ := hM7
  refine cell_list (fun i ys8 news => ∃ ps new, news = (142, tabObj ps) :: (L + 1 + 1 + 1 + 1 + 1, oP13) :: (L + 1 + 1 + 1 + 1, oB11) :: (L + 1 + 1 + 1, oR9) :: (L + 1 + 1, oD7) :: (L + 1, oS) :: new ∧ Off5 L new ∧ TabL ps new ∧ (∀ p ∈ new7a, p ∈ new) ∧ TabsJ (fun k => (List.range 4).map fun n => look ks[k]! R[n]! Bk[n]!) i ys8 new) rfl F7 N7b (.inr ⟨oM, by simp [hMm], hMr⟩) (by rw [sizeLine_eq, List.size_toArray]; omega) (by intro a; rfl) (by intro h; rfl) (by rfl) (by with_unfolding_all rfl) ⟨_, _, rfl, o57a, htab7, fun p hp => hp, rfl, fun k el e => by simp at e⟩ ?_ ?_
  · rintro g i ys8 news v I oI K oK C oC D m₂ h tk E' hi hv ⟨ps, new, rfl, o5, htab, hsub, htabs⟩ hoC hoK F3 N3 off hS
    have hkey : IsKey v := hks v (List.mem_of_getElem? (by simpa using hv))
    have hkv : ks[i]! = v := by
      rw [List.getElem!_eq_getElem?_getD, show ks[i]? = some v by simpa using hv]; rfl
    have o5i := inner_start (oI := oI) (oK := oK) (oC := oC) (oF := LCg.lst ys8) off o5
    have N3' : News h₀ L h ((142, tabObj ps) :: (L + 1 + 1 + 1 + 1 + 1, oP13) :: (L + 1 + 1 + 1 + 1, oB11) :: (L + 1 + 1 + 1, oR9) :: (L + 1 + 1, oD7) :: (L + 1, oS) :: (I, oI) :: (K, oK) :: (C, oC) :: (D, LCg.lst ys8) :: new) := fun p hp => N3 p (by
      simp only [List.mem_cons] at hp ⊢
      rcases hp with h | h | h | h | h | h | h | h | h | h | h <;> simp [h])
    clear N3 F7 N7b
    refine LCg.ListComp_U F3 (by with_unfolding_all rfl) (by decide) (by rfl) (by decide) (by rfl) ?_
    iterate 7 (first | walk1 | (dsimp only; walk1))
    rename_i Fo No hX tkX t1 u1 v1 hR FR NR kR
    refine LCg.CompSrc.range (n := 4) rfl FR NR hR (by decide) (by decide) (by rw [sizeLine_eq]; decide)
      (fun g => rest_J (n := 4) (fun j ys9 news => ∃ ps extra, news = (142, tabObj ps) :: (L + 1 + 1 + 1 + 1 + 1, oP13) :: (L + 1 + 1 + 1 + 1, oB11) :: (L + 1 + 1 + 1, oR9) :: (L + 1 + 1, oD7) :: (L + 1, oS) :: (extra ++ (I, oI) :: (K, oK) :: (C, oC) :: (D, LCg.lst ys8) :: new) ∧ Off5 L (extra ++ (I, oI) :: (K, oK) :: (C, oC) :: (D, LCg.lst ys8) :: new) ∧ TabL ps (extra ++ new) ∧ (∀ p ∈ extra, p.1 ≠ I ∧ p.1 ≠ K ∧ p.1 ≠ C ∧ p.1 ≠ D) ∧ TabV ys9 ((List.range j).map fun n => look v R[n]! Bk[n]!)) ?_ ?_ 4 0 [] _ rfl ⟨_, [], rfl, o5i, htab, (fun p hp => nomatch hp), .nil⟩)
    · rintro j ys9 news w9 I2 oI2 C2 oC2 D5 m₃ h3 tk3 E3 hj ⟨t, rfl⟩ ⟨ps2, extra, rfl, o52, htab2, hex, htv⟩ hoC2 hx2 F4 N4 off4
      clear NR No FR Fo hR kR
      rw [Int.zero_add] at hx2
      iterate 8 (first | walk1 | (dsimp only; walk1))
      refine' lcf_cell N4 ?qc1 ?qm1 hoK ?_ ?qa1 ?qb1
      (case qa1 => rfl)
      (case qb1 => rfl)
      (case qc1 => rfl)
      (case qm1 => simp)
      iterate 1 (first | walk1 | (dsimp only; walk1))
      refine newList_K F4 N4 ?_ (by rw [sizeLine_eq]; show 1 ≤ _; exact Nat.le_of_ble_eq_true rfl)
      intro l5 h4 F5 N5 lt5
      obtain ⟨N5', off5, o55⟩ := temp5 N5 lt5 off4 o52
      have hlI : l5 ≠ I ∧ l5 ≠ K ∧ l5 ≠ C ∧ l5 ≠ D := ⟨Nat.ne_of_gt (lt5 (I, oI) (by simp)), Nat.ne_of_gt (lt5 (K, oK) (by simp)), Nat.ne_of_gt (lt5 (C, oC) (by simp)), Nat.ne_of_gt (lt5 (D, LCg.lst ys8) (by simp))⟩
      clear N4 F4 N5 lt5 off4 o52
      iterate 9 (first | walk1 | (dsimp only; walk1))
      refine ⟨X.keeps F5.keep, ?_⟩
      refine way5 l5 D2 D3 [v] j t R Bk false ⟨B, F5, X, T, rfl, by decide, by decide⟩ N5' off5 o55 l0 codeHd rfl (htab2.mono fun p hp => by rcases List.mem_append.mp hp with h | h <;> simp [h]) (fun h hs => ⟨_, hs _ (.head _), rfl, _, rfl⟩) (fun k hk => by rw [List.mem_singleton.mp hk]; exact hkey) (by show 1 ≤ 1000; decide) (fun h hs => hW7 _ (hs.sub fun p hp => by simp [hsub p hp])) ok (by omega) (by omega) ?_
      intro r v' new' ps' h6 tk6 F6 N6 off6 o56 tab6 fresh6 hout hL hRd
      have hnI : ∀ p ∈ new', p.1 ≠ I ∧ p.1 ≠ K ∧ p.1 ≠ C ∧ p.1 ≠ D := fun p hp => by
        have old : ∀ q ∈ (I2, oI2) :: (C2, oC2) :: (D5, LCg.lst ys9) :: (142, tabObj ps2) :: (L + 1 + 1 + 1 + 1 + 1, oP13) :: (L + 1 + 1 + 1 + 1, oB11) :: (L + 1 + 1 + 1, oR9) :: (L + 1 + 1, oD7) :: (L + 1, oS) :: (l5, W.listOf #[v] 0) :: (extra ++ (I, oI) :: (K, oK) :: (C, oC) :: (D, LCg.lst ys8) :: new), p.1 ≠ q.1 := fun q hq z => by have := (N5' q hq).1; rw [← z, fresh6 p hp] at this; cases this
        exact ⟨old (I, oI) (by simp), old (K, oK) (by simp), old (C, oC) (by simp), old (D, LCg.lst ys8) (by simp)⟩
      obtain ⟨nl6, hl6⟩ := hL h6 ((Has.of N6).sub fun p hp => by simp [hp])
      clear N5' off5 o55 F5 fresh6
      iterate 2 (first | walk1 | (dsimp only; walk1))
      have e6 : new' ++ (l5, W.listOf #[v] 0) :: (extra ++ (I, oI) :: (K, oK) :: (C, oC) :: (D, LCg.lst ys8) :: new) = (new' ++ (l5, W.listOf #[v] 0) :: extra) ++ (I, oI) :: (K, oK) :: (C, oC) :: (D, LCg.lst ys8) :: new := by simp
      rw [e6] at N6 off6 o56
      k_unmd
      k_unfold
      refine ⟨h6, _, _, rfl, F6, N6, off6, trivial, ps', new' ++ (l5, W.listOf #[v] 0) :: extra, rfl, o56, ?_, fun p hp => ?_, tabV_snoc htv (by rw [← run_one]; exact hout)⟩
      · rcases tab6 with rfl | tab6
        · exact htab2.mono fun p hp => by rcases List.mem_append.mp hp with h | h <;> simp [h]
        · exact tab6.mono fun p hp => by simp [hp]
      · rcases List.mem_append.mp hp with hp | hp
        · exact hnI p hp
        · rcases List.mem_cons.mp hp with rfl | hp
          · exact hlI
          · exact hex p hp
    · rintro ys9 news ⟨ps3, extra3, rfl, o53, htab3, hex3, htv3⟩
      intro E1 h7 tk7 F7 N7 off7
      have ke := inner_end (ps0 := ps) off hex3 o53 N7 (off1_mem off7)
      exact ⟨h7, tk7, _, rfl, F7, ke.1, ke.2.1, .inr ⟨oM, by simp [hsub _ hMm], hMr⟩, ps3, _, rfl, ke.2.2, htab3.mono (fun p hp => .tail _ hp), fun p hp => .tail _ (List.mem_append_right _ (hsub p hp)), htabs.snoc (fun p hp => .tail _ (List.mem_append_right _ hp)) (.head _) (by rw [hkv]; exact htv3)⟩
  intro g8 D8a C8 h8a tk8a m8 ys8 news8 F8a N8a off8a hn8 hC8 hD8 hCL8 hDL8 hCD8 offC8 hJ8
  obtain ⟨ps8, new8a, rfl, o58a, htab8, hsub8, htabs8⟩ := hJ8
  refine' postA (L := L) ?qp1 ?qp2 ?qp3 F8a N8a off8a hn8 hC8 hCL8 hCD8 offC8 ?_
  (case qp1 => rfl)
  (case qp2 => rfl)
  (case qp3 => rfl)
  clear N8a off8a hn8 hC8 hD8 hCL8 hDL8 hCD8 offC8 F8a F7 N7b
  intro D8 h8 tk8 F8 N8a off8a
  obtain ⟨N8, o58⟩ := fin5 N8a off8a o58a
  clear N8a off8a
  have hW8 : ∀ h, Has h ((D8, LCg.lst ys8) :: new8a) → Wd W0 h D2 D3 R Bk := fun h hs => hW7 h (hs.sub fun p hp => .tail _ (hsub8 p hp))
  have hMm8 : (pa, oM) ∈ (D8, LCg.lst ys8) :: new8a := .tail _ (hsub8 _ hMm)
  have hP8 : ∀ h, Has h ((D8, LCg.lst ys8) :: new8a) → h.IsList pa ks.toArray := fun h hs => hP7 h (hs.sub fun p hp => .tail _ (hsub8 p hp))
  have hL8 : ∀ h, Has h ((D8, LCg.lst ys8) :: new8a) → h.IsList D8 ys8.toArray := fun h hs => ⟨_, hs _ (.head _), rfl, _, rfl⟩
  have hT8 : TabsJ (fun k => (List.range 4).map fun n => look ks[k]! R[n]! Bk[n]!) ks.toArray.size ys8 ((D8, LCg.lst ys8) :: new8a) := htabs8.mono fun p hp => .tail _ hp
  have hR8 : ∀ h, Has h ((D8, LCg.lst ys8) :: new8a) → ∃ as, Reads h (.ref D8) (.list ((List.range ks.toArray.size).map fun k => tabD ((List.range 4).map fun n => look ks[k]! R[n]! Bk[n]!))) as := fun h hs => htabs8.reads hs
  clear hW7 hP7 hMm hsub8 htabs8 htab7 htab8 o57a o58a
  generalize ((D8, LCg.lst ys8) :: new8a) = new8 at *
  dsimp only
  iterate 4 (first | walk1 | (dsimp only; walk1))
  -- the expected tables
  refine listcomp_eval (by with_unfolding_all rfl) (by rfl) (by decide) ?_
  iterate 1 (first | walk1 | (dsimp only; walk1))
  refine cell_list (fun i ysA news => ∃ new, news = (142, tabObj ps8) :: (L + 1 + 1 + 1 + 1 + 1, oP13) :: (L + 1 + 1 + 1 + 1, oB11) :: (L + 1 + 1 + 1, oR9) :: (L + 1 + 1, oD7) :: (L + 1, oS) :: new ∧ Off5 L new ∧ (∀ p ∈ new8, p ∈ new) ∧ TabsJ (fun k => (List.range 4).map fun n => look ks[k]! R[n]! Bk[n]!) i ysA new) rfl F8 N8 (.inr ⟨oM, by simp [hMm8], hMr⟩) (by rw [sizeLine_eq, List.size_toArray]; omega) (by intro a; rfl) (by intro h; rfl) (by rfl) (by with_unfolding_all rfl) ⟨_, rfl, o58, fun p hp => hp, rfl, fun k el e => by simp at e⟩ ?_ ?_
  · rintro g i ysA news v I oI K oK C oC D m₂ h tk E' hi hv ⟨new, rfl, o5, hsub, htabs⟩ hoC hoK F3 N3 off hS
    have hkey : IsKey v := hks v (List.mem_of_getElem? (by simpa using hv))
    have hkv : ks[i]! = v := by
      rw [List.getElem!_eq_getElem?_getD, show ks[i]? = some v by simpa using hv]; rfl
    have o5i := inner_start (oI := oI) (oK := oK) (oC := oC) (oF := LCg.lst ysA) off o5
    have N3' : News h₀ L h ((142, tabObj ps8) :: (L + 1 + 1 + 1 + 1 + 1, oP13) :: (L + 1 + 1 + 1 + 1, oB11) :: (L + 1 + 1 + 1, oR9) :: (L + 1 + 1, oD7) :: (L + 1, oS) :: (I, oI) :: (K, oK) :: (C, oC) :: (D, LCg.lst ysA) :: new) := fun p hp => N3 p (by
      simp only [List.mem_cons] at hp ⊢
      rcases hp with h | h | h | h | h | h | h | h | h | h | h <;> simp [h])
    clear N3 F8 N8
    refine LCg.ListComp_U F3 (by with_unfolding_all rfl) (by decide) (by rfl) (by decide) (by rfl) ?_
    iterate 7 (first | walk1 | (dsimp only; walk1))
    rename_i Fo No hX tkX t1 u1 v1 hR FR NR kR
    refine LCg.CompSrc.range (n := 4) rfl FR NR hR (by decide) (by decide) (by rw [sizeLine_eq]; decide)
      (fun g => rest_J (n := 4) (fun j ys9 news => news = (142, tabObj ps8) :: (L + 1 + 1 + 1 + 1 + 1, oP13) :: (L + 1 + 1 + 1 + 1, oB11) :: (L + 1 + 1 + 1, oR9) :: (L + 1 + 1, oD7) :: (L + 1, oS) :: ([] ++ (I, oI) :: (K, oK) :: (C, oC) :: (D, LCg.lst ysA) :: new) ∧ TabV ys9 ((List.range j).map fun n => look v R[n]! Bk[n]!)) ?_ ?_ 4 0 [] _ rfl ⟨rfl, .nil⟩)
    · rintro j ys9 news w9 I2 oI2 C2 oC2 D5 m₃ h3 tk3 E3 hj ⟨t, rfl⟩ ⟨rfl, htv⟩ hoC2 hx2 F4 N4 off4
      clear NR No FR Fo hR kR
      rw [Int.zero_add] at hx2
      iterate 5 (first | walk1 | (dsimp only; walk1))
      refine' lcf_cell N4 ?qc2 ?qm2 hoK ?_ ?qa2 ?qb2
      (case qa2 => rfl)
      (case qb2 => rfl)
      (case qc2 => rfl)
      (case qm2 => simp)
      iterate 4 (first | walk1 | (dsimp only; walk1))
      have hN4 := (Has.of N4).sub (l' := new8) fun p hp => by simp [hsub p hp]
      obtain ⟨ras, hra, hrs⟩ := (hW8 h3 hN4).rows
      obtain ⟨rA, rV, e5, l5, i5⟩ := hrs j hj
      refine item_at hra (by omega) (by omega) (v := .ref rA) (by simp [e5]) ?_
      clear hra hrs e5
      iterate 4 (first | walk1 | (dsimp only; walk1))
      obtain ⟨bas, hba, hbs⟩ := (hW8 h3 hN4).books
      obtain ⟨bA, e6, b6⟩ := hbs j hj
      refine item_at hba (by omega) (by omega) (v := .ref bA) (by simp [e6]) ?_
      iterate 1 (first | walk1 | (dsimp only; walk1))
      refine ⟨X.keeps F4.keep, ?_⟩
      refine next_c v rA bA rV R[j]! Bk[j]! ⟨B, F4, X, T, rfl, by decide, by decide⟩ hkey l5 i5 (ok.rl _ hj) b6 (ok.bl _ hj) ?_
      intro v' h6 tk6 k6 hout
      have key := turn5 (new' := []) F4 N4 off4 o5i k6 (fun p hp => nomatch hp)
      k_unmd
      k_unfold
      exact ⟨h6, _, _, rfl, F4.keeps k6, key.1, key.2.1, trivial, rfl, tabV_snoc htv hout⟩
    · rintro ys9 news ⟨rfl, htv3⟩
      intro E1 h7 tk7 F7 N7 off7
      have ke := inner_end (ps0 := ps8) (extra := []) off (fun p hp => nomatch hp) o5i N7 (off1_mem off7)
      exact ⟨h7, tk7, _, rfl, F7, ke.1, ke.2.1, .inr ⟨oM, by simp [hsub _ hMm8], hMr⟩, _, rfl, ke.2.2, fun p hp => .tail _ (hsub p hp), htabs.snoc (fun p hp => .tail _ hp) (.head _) (by rw [hkv]; exact htv3)⟩
  intro g9 D9a C9 h9a tk9a m9 ys9 news9 F9a N9a off9a hn9 hC9 hD9 hCL9 hDL9 hCD9 offC9 hJ9
  obtain ⟨new9a, rfl, o59a, hsub9, htabs9⟩ := hJ9
  refine postN F9a N9a off9a hn9 hC9 hCL9 hCD9 offC9 ?_
  clear N9a off9a hn9 hC9 hD9 hCL9 hDL9 hCD9 offC9 F9a F8 N8
  intro D9 h9 tk9 F9 N9a off9a
  obtain ⟨as9, hr9⟩ := htabs9.reads (h := h9) (D := D9) ((Has.of N9a).sub fun p hp => by
    rcases List.mem_cons.mp hp with h | h <;> simp [h])
  obtain ⟨as8, hr8⟩ := hR8 h9 ((Has.of N9a).sub fun p hp => by simp [hsub9 p hp])
  have N9 : News h₀ L h9 ((142, tabObj ps8) :: (L + 1 + 1 + 1 + 1 + 1, oP13) :: (L + 1 + 1 + 1 + 1, oB11) :: (L + 1 + 1 + 1, oR9) :: (L + 1 + 1, oD7) :: (L + 1, oS) :: new8) := fun p hp => N9a p (by
    simp only [List.mem_cons] at hp ⊢
    rcases hp with h | h | h | h | h | h | h
    · simp [h]
    · simp [h]
    · simp [h]
    · simp [h]
    · simp [h]
    · simp [h]
    · simp [hsub9 p h])
  have fin9 : Fine 2 (.list ((List.range ks.toArray.size).map fun k => tabD ((List.range 4).map fun n => look ks[k]! R[n]! Bk[n]!))) := fine_list fun d hd => by
    obtain ⟨k, _, rfl⟩ := List.mem_map.mp hd
    exact fine_tab _
  clear N9a off9a hR8 hsub9 htabs9 o59a
  dsimp only
  refine ne_dataH hr8 hr9 (fin9.shaped (by decide)) (fin9.shaped (by decide)) (by show callerA.units + 3 + 64 < cLine; decide) ?_
  rw [PySem.SeqAt.eqv_refl _ fin9.1]
  clear hr8 hr9 fin9 as8 as9
  iterate 3 (first | walk1 | (dsimp only; walk1))
  dsimp only
  -- the fronts
  have hsz5 : ks.toArray.size = 5 := by simp [hks5]
  rw [hsz5] at hT8
  replace hT8 : TabsJ (fun k => tsOf R Bk ks[k]!) 5 ys8 new8 := hT8
  have hN9 : Has h9 new8 := (Has.of N9).sub fun p hp => by simp [hp]
  iterate 13 (first | walk1 | (dsimp only; walk1))
  refine ⟨X.keeps F9.keep, ?_⟩
  refine fronts_reduce D8 ys8 ((List.range 5).map fun k => tsOf R Bk ks[k]!) ⟨B, F9, X, T, rfl, by decide, by decide⟩ (hL8 _ hN9) (by simp) (by simp [hT8.1]) (by simp) (fun i hi => by rw [map_at _ (by simpa using hi)]; exact tsOf_ok ok _) (fun i el e => ?_) ?_
  · have hi : i < 5 := by
      have := (List.getElem?_eq_some_iff.mp e).1
      rw [hT8.1] at this; exact this
    obtain ⟨ta, ws, e1, h1, h2⟩ := hT8.2 i el e
    exact ⟨by simpa using hi, ta, ws, e1, h1 _ hN9, by rw [map_at _ hi]; exact h2⟩
  intro fv newF h10 tk10 k10 hnF hreadF
  obtain ⟨NA, o5A⟩ := add5 (new' := newF) F9 N9 o58 k10 hnF
  have FA := F9.keeps k10
  have hWA : ∀ h, Has h (newF ++ new8) → Wd W0 h D2 D3 R Bk := fun h hs => hW8 h (hs.sub fun p hp => List.mem_append_right _ hp)
  have hPA : ∀ h, Has h (newF ++ new8) → h.IsList pa ks.toArray := fun h hs => hP8 h (hs.sub fun p hp => List.mem_append_right _ hp)
  have hRA : ∀ h, Has h (newF ++ new8) → ∃ as, Reads h fv (.list ((List.range 5).map fun k => tabD (frontAt ((List.range 5).map fun k => tsOf R Bk ks[k]!) k))) as := fun h hs => by
    have := hreadF h (hs.sub fun p hp => List.mem_append_left _ hp) (fun a ea => by
      obtain ⟨ta, ws, e1, h1, h2⟩ := hT8.2 0 _ ea
      cases e1
      exact ⟨ws, h1 _ (hs.sub fun p hp => List.mem_append_right _ hp), by rw [map_at _ (by decide)]; exact h2⟩)
    simpa using this
  clear N9 F9 hN9 hnF k10 hreadF hW8 hP8 hT8 hL8 o58 hMm8
  generalize newF ++ new8 = newA at *
  dsimp only
  refine listcomp_eval (by with_unfolding_all rfl) (by rfl) (by decide) ?_
  iterate 9 (first | walk1 | (dsimp only; walk1))
  rename_i Fo No hX tkX t1 u1 v1 hR FR NR kR
  refine cell_range (n := 5) (fun i ysB news => ∃ new, news = (142, tabObj ps8) :: (L + 1 + 1 + 1 + 1 + 1, oP13) :: (L + 1 + 1 + 1 + 1, oB11) :: (L + 1 + 1 + 1, oR9) :: (L + 1 + 1, oD7) :: (L + 1, oS) :: new ∧ Off5 L new ∧ (∀ p ∈ newA, p ∈ new) ∧ TabsJ (fun k => (List.range 4).map fun n : Nat => (run R Bk (ks.take (k + 1)) (n : Int)).1) i ysB new) rfl FR NR hR (by decide) (by decide) (by rw [sizeLine_eq]; decide) (by intro a; rfl) (by intro h; rfl) (by rfl) (by with_unfolding_all rfl) ⟨_, rfl, o5A, fun p hp => hp, rfl, fun k el e => by simp at e⟩ ?_ ?_
  · rintro g i ysB news v I oI K oK C oC D m₂ h tk E' hi ⟨tv, rfl⟩ ⟨new, rfl, o5, hsub, htabs⟩ hoC hoK F3 N3 off hS
    clear NR No FR Fo hR kR
    have o5i := inner_start (oI := oI) (oK := oK) (oC := oC) (oF := LCg.lst ysB) off o5
    have N3' : News h₀ L h ((142, tabObj ps8) :: (L + 1 + 1 + 1 + 1 + 1, oP13) :: (L + 1 + 1 + 1 + 1, oB11) :: (L + 1 + 1 + 1, oR9) :: (L + 1 + 1, oD7) :: (L + 1, oS) :: (I, oI) :: (K, oK) :: (C, oC) :: (D, LCg.lst ysB) :: new) := fun p hp => N3 p (by
      simp only [List.mem_cons] at hp ⊢
      rcases hp with h | h | h | h | h | h | h | h | h | h | h <;> simp [h])
    clear N3
    refine LCg.ListComp_U F3 (by with_unfolding_all rfl) (by decide) (by rfl) (by decide) (by rfl) ?_
    iterate 7 (first | walk1 | (dsimp only; walk1))
    rename_i Fo No hX tkX t1 u1 v1 hR FR NR kR
    refine LCg.CompSrc.range (n := 4) rfl FR NR hR (by decide) (by decide) (by rw [sizeLine_eq]; decide)
      (fun g => rest_J (n := 4) (fun j ysC news => news = (142, tabObj ps8) :: (L + 1 + 1 + 1 + 1 + 1, oP13) :: (L + 1 + 1 + 1 + 1, oB11) :: (L + 1 + 1 + 1, oR9) :: (L + 1 + 1, oD7) :: (L + 1, oS) :: ([] ++ (I, oI) :: (K, oK) :: (C, oC) :: (D, LCg.lst ysB) :: new) ∧ TabV ysC ((List.range j).map fun n : Nat => (run R Bk (ks.take (i + 1)) (n : Int)).1)) ?_ ?_ 4 0 [] _ rfl ⟨rfl, .nil⟩)
    · rintro j ysC news w9 I2 oI2 C2 oC2 D5 m₃ h3 tk3 E3 hj ⟨t, rfl⟩ ⟨eN, htv⟩ hoC2 hx2 F4 N4 off4
      rw [eN] at N4 off4
      clear eN
      clear NR No FR Fo hR kR
      rw [Int.zero_add] at hx2
      have hpl := hPA h3 ((Has.of N4).sub fun p hp => by simp [hsub p hp])
      iterate 11 (first | walk1 | (dsimp only; walk1))
      refine' lcf_cell N4 ?qc3 ?qm3 hoK ?_ ?qa3 ?qb3
      (case qa3 => rfl)
      (case qb3 => rfl)
      (case qc3 => rfl)
      (case qm3 => simp)
      iterate 2 (first | walk1 | (dsimp only; walk1))
      rename_i F5 N5
      dsimp only at N5
      have hsl : slicePick ks.toArray none (some (1 + (i : Int))) none = (ks.take (i + 1)).toArray := by
        rw [show (1 + (i : Int)) = ((i + 1 : Nat) : Int) by omega, slicePick_upto _ _ (by simp [hks5]; omega)]
      rw [hsl] at N5
      obtain ⟨N5', off5, o55⟩ := temp5 N5 (fun p hp => Nat.lt_succ_of_lt (Heap.lt_size (N4 p hp).1)) off4 o5i
      have hpl' : Heap.IsList _ _ (ks.take (i + 1)).toArray := ⟨_, (N5 _ (.head _)).1, rfl, _, rfl⟩
      have hs5 := (Has.of N5').sub (l' := newA) fun p hp => by simp [hsub p hp]
      clear N4 F4 N5 hpl off5 o55
      iterate 7 (first | walk1 | (dsimp only; walk1))
      refine ⟨X.keeps F5.keep, ?_⟩
      refine own_l _ D2 D3 (ks.take (i + 1)) j t R Bk ⟨B, F5, X, T, rfl, by decide, by decide⟩ hpl' (fun k hk => hks k (List.mem_of_mem_take hk)) (by rw [List.length_take]; omega) (hWA _ hs5) ok (by omega) (by omega) ?_
      intro r v' new' h6 tk6 k6 hn hout hL hRd
      obtain ⟨nl6, hl6⟩ := hL h6 (fun p hp => (hn p hp).1)
      have F6 := F5.keeps k6
      have N6 := N5'.grown k6
      clear F5 N5' hn hL hRd hs5 hpl' k6
      iterate 2 (first | walk1 | (dsimp only; walk1))
      k_unmd
      k_unfold
      refine ⟨h6, _, _, rfl, F6, fun p hp => N6 p ?_, off4, trivial, rfl, tabV_snoc htv hout⟩
      simp only [List.mem_cons, List.nil_append] at hp ⊢
      rcases hp with h | h | h | h | h | h | h | h | h | h | h | h | h | h <;> simp [h]
    · rintro ysC news ⟨eN, htv3⟩
      intro E1 h7 tk7 F7 N7 off7
      rw [eN] at N7 off7
      have ke := inner_end (ps0 := ps8) (extra := []) off (fun p hp => nomatch hp) o5i N7 (off1_mem off7)
      exact ⟨h7, tk7, _, rfl, F7, ke.1, ke.2.1, trivial, _, rfl, ke.2.2, fun p hp => .tail _ (hsub p hp), htabs.snoc (fun p hp => .tail _ hp) (.head _) htv3⟩
  clear NR No FR Fo hR kR
  intro gB DBa CB hBa tkBa mB ysB newsB FBa NBa offBa hnB hCB hDB hCLB hDLB hCDB offCB hJB
  obtain ⟨newBa, rfl, o5Ba, hsubB, htabsB⟩ := hJB
  refine postN FBa NBa offBa hnB hCB hCLB hCDB offCB ?_
  clear NBa offBa hnB hCB hDB hCLB hDLB hCDB offCB FBa
  intro DB hB tkB FB NB offB
  obtain ⟨asB, hrB⟩ := htabsB.reads (h := hB) (D := DB) ((Has.of NB).sub fun p hp => by
    rcases List.mem_cons.mp hp with h | h <;> simp [h])
  obtain ⟨asA, hrA⟩ := hRA hB ((Has.of NB).sub fun p hp => by simp [hsubB p hp])
  have eqAB : ((List.range 5).map fun k => tabD (frontAt ((List.range 5).map fun k => tsOf R Bk ks[k]!) k)) = (List.range 5).map fun k => tabD ((List.range 4).map fun n : Nat => (run R Bk (ks.take (k + 1)) (n : Int)).1) :=
    List.map_congr_left fun k hk => by rw [fronts_law ok hks5 k (List.mem_range.mp hk)]
  rw [eqAB] at hrA
  have finB : Fine 2 (.list ((List.range 5).map fun k => tabD ((List.range 4).map fun n : Nat => (run R Bk (ks.take (k + 1)) (n : Int)).1))) := fine_list fun d hd => by
    obtain ⟨k, _, rfl⟩ := List.mem_map.mp hd
    exact fine_tab _
  dsimp only
  refine eq_dataH hrA hrB (finB.shaped (by decide)) (finB.shaped (by decide)) (by show callerA.units + 3 + 64 < cLine; decide) ?_
  rw [PySem.SeqAt.eqv_refl _ finB.1]
  exact ⟨⟨.inl ⟨.bool true, .bool true, [], rfl, fun _ => rfl, .bool true, (by first | rfl | (with_unfolding_all rfl) | decide | simp), fun _ => ⟨.nil, fun a h => nomatch h⟩⟩, FB.keep, rfl, hgens⟩, ⟨_, (NB _ (.tail _ (.head _))).1⟩, trivial⟩

end Mine
theorem PySem.Challenge.cw_nq0091_01_holds : PySem.Challenge.rw_nq0091_01.Holds := by
  exact Mine.law1
