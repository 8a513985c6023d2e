import PyProof.Rows.All
import Wide.All
import OpenK.AllK
import Wide.FinOn
import PySem.Challenge.RW_ij0014_01
set_option Elab.async false
set_option maxRecDepth 100000

section
open PySem PySem.W PyProof.Rows
namespace Mine
set_option maxRecDepth 100000 in
set_option maxHeartbeats 8000000 in
open_top hd for PySem.Challenge.rw_ij0014_01
end Mine
end

section
open PySem PySem.W PyProof.Rows PySem.Calls
namespace Mine
theorem rest_B0 : True ∧ True := by
  (try (walk1; fail "no walk"))
  w_top off
  exact ⟨trivial, trivial⟩
/-- all that stood in h, but for the addresses as, stands in h' as it was -/
def Kept (as : List Addr) (h h' : Heap) : Prop := ∀ b o, b ∉ as → h.get? b = some o → h'.get? b = some o
theorem Kept.fr {as : List Addr} {h₀ h h' : Heap} {L : Addr} {m : Str → Option Value} {news : List (Addr × Obj)} (k : Kept as h h') (F : Fr h₀ L h m) (N : News h₀ L h news) (e : as = news.map (·.1)) : Fr h₀ L h' m := by
  subst e
  have nm : ∀ b o, h₀.get? b = some o → b ∉ news.map (·.1) := fun b o e q => by
    obtain ⟨p, hp, rfl⟩ := List.mem_map.mp q
    rw [(N p hp).2.2] at e; cases e
  have nL : L ∉ news.map (·.1) := fun q => by
    obtain ⟨p, hp, e⟩ := List.mem_map.mp q
    exact (N p hp).2.1 e
  exact ⟨F.ns.at' fun o e => k L o nL e, fun b o e => k b o (nm b o e) (F.keep b o e), F.above⟩
theorem Kept.news {as : List Addr} {h₀ h h' : Heap} {L : Addr} {rest : List (Addr × Obj)} (k : Kept as h h') (N : News h₀ L h rest) (hd : ∀ p ∈ rest, p.1 ∉ as) : News h₀ L h' rest :=
  fun p hp => ⟨k p.1 p.2 (hd p hp) (N p hp).1, (N p hp).2⟩
theorem Kept.list {as : List Addr} {h h' : Heap} {a : Addr} {its : Array Value} (k : Kept as h h') (x : h.IsList a its) (ha : a ∉ as) : h'.IsList a its :=
  let ⟨o, e, r⟩ := x; ⟨o, k a o ha e, r⟩
theorem Kept.trans {as : List Addr} {h h' h'' : Heap} (k : Kept as h h') (k' : Kept as h' h'') : Kept as h h'' := fun b o hb e => k' b o hb (k b o hb e)

section
variable {prog : Program} {w : World} {A A₀ : Around} {s : Shared} {K : Frag} {L : Addr} {h₀ base : Heap} {m mg mb : Str → Option Value} {news : List (Addr × Obj)} {p : Program} {loose : List Str} {mean : ExcName → Option Value}
  {env : Env} {outer : List Env} {R : Result → Shared → Prop} {name qual : Str} {params : Arguments} {body : List Stmt} {scope : Scope} {dV kV doc pm cdv ct oc : Value} {an od : Option Addr} {osl : Array (Option Value)} {f : Addr} {args : Args} {binds : List (Str × Value)}
/-- a def is entered; the callee's ground is all that stands but the ledger -/
theorem enterP (B : Below A₀ base outer h₀) (F : Fr h₀ L s.heap m) (X₀ : K.In h₀) (N : News h₀ L s.heap news) (T : Top p loose mean mg mb h₀) (hA : A.frames = some (env :: outer)) (hf : env.frame = some L) (hke : env.scope.kind = .function)
    (ho : K.lookup f = some ⟨oc, od, .func (fnOf name qual params body scope dV kV doc pm an cdv ct), osl⟩) (hcd : codeIn K cdv qual = true) (hroom : A.depth < recursionLimit)
    (hbind : BindsTo s (fnOf name qual params body scope dV kV doc pm an cdv ct) args binds) (hloc : ∀ y ∈ binds, scope.names.lookup y.1 = some .local)
    (h : ∀ g L' h₁, Kept (news.map (·.1)) s.heap g → Kept [] g h₁ → s.heap.objs.size ≤ L' → Fr h₀ L g m → Fr g L' h₁ (fun y => binds.reverse.lookup y) → News g L' h₁ news → Below A base (env :: outer) g → K.In g → Top p loose mean mg mb g → (∀ p ∈ news, p.1 < L') →
      wpAny (model prog w) (A.deeper (envOf qual scope L' f cdv)) (execs body (envOf qual scope L' f cdv))
        (fun fl s' => LeaveK h₀ L m g R (match fl with | .ret v => v | _ => .none) s')
        (fun e s' => wpAny (model prog w) (A.deeper (envOf qual scope L' f cdv)) (leaving (envOf qual scope L' f cdv) e) (fun _ s'' => R (.error e) s'') (fun e' s'' => R (.error e') s'') s')
        { s with heap := h₁, toks := s.toks + binds.length })
    (hco : scope.isCoroutine = false) (hgen : scope.isGenerator = false) (hk : scope.kind = .function) (hcell : ∀ x ∈ scope.names, x.2 ≠ .cell) : codeAny (model prog w) A (.call (.ref f) args) R s := by
  obtain ⟨FG, BG, st, lv⟩ := groundX (R := R) B F N hA hf hke
  refine codeAny_call_def (fd := fnOf name qual params body scope dV kV doc pm an cdv ct) (body := body) (binds := binds) hroom ((X₀.keeps F.keep) _ _ ho) rfl (T.nolimit.keeps F.keep) (codeRec_of (X₀.keeps F.keep) hcd) rfl hbind hcell hloc (fun h₁ hns hk₁ => ?_) hco hgen hk
  have kg : Kept (news.map (·.1)) s.heap (hideAll s.heap (news.map (·.1))) := fun b o hb e => hideAll_get _ e hb
  refine wpAny_mono (h _ s.heap.objs.size h₁ kg (fun b o _ e => hk₁ b o (of_hideAll _ e)) (Nat.le_refl _) FG ⟨hns, fun b o e => hk₁ b o (of_hideAll _ e), Nat.le_of_eq (hideAll_size _ _)⟩ ?_ BG (X₀.keeps st) (T.keeps st) fun p hp => Heap.lt_size (N p hp).1) (fun fl s' hl => lv _ _ hl) fun _ _ y => y
  exact fun p hp => ⟨hk₁ _ _ (N p hp).1, Nat.ne_of_lt (Heap.lt_size (N p hp).1), hideAll_none _ (List.mem_map_of_mem hp)⟩
/-- the same for a def with cells -/
theorem enterC (B : Below A₀ base outer h₀) (F : Fr h₀ L s.heap m) (X₀ : K.In h₀) (N : News h₀ L s.heap news) (T : Top p loose mean mg mb h₀) (hA : A.frames = some (env :: outer)) (hf : env.frame = some L) (hke : env.scope.kind = .function)
    (ho : K.lookup f = some ⟨oc, od, .func (fnOf name qual params body scope dV kV doc pm an cdv ct), osl⟩) (hcd : codeIn K cdv qual = true) (hroom : A.depth < recursionLimit)
    (hbind : BindsTo s (fnOf name qual params body scope dV kV doc pm an cdv ct) args binds) (hkind : (binds.all fun y => scope.names.lookup y.1 == some .local || scope.names.lookup y.1 == some .cell) = true)
    (hnd : ((cellsFrom 0 scope.names []).map (·.1)).Nodup)
    (h : ∀ g L' h₁ tk cells, Kept (news.map (·.1)) s.heap g → Kept [] g h₁ → s.heap.objs.size ≤ L' → Fr h₀ L g m → Fr g L' h₁ (bindL (envOfC qual scope L' f cdv).kindOf binds fun _ => none) → News g L' h₁ (cells ++ news) →
      CellsAre (bindC (envOfC qual scope L' f cdv).kindOf binds fun _ => none) (cellsFrom (L' + 1) scope.names []) cells → Below A base (env :: outer) g → K.In g → Top p loose mean mg mb g → (∀ p ∈ news, p.1 < L') →
      wpAny (model prog w) (A.deeper (envOfC qual scope L' f cdv)) (execs body (envOfC qual scope L' f cdv))
        (fun fl s' => LeaveK h₀ L m g R (match fl with | .ret v => v | _ => .none) s')
        (fun e s' => wpAny (model prog w) (A.deeper (envOfC qual scope L' f cdv)) (leaving (envOfC qual scope L' f cdv) e) (fun _ s'' => R (.error e) s'') (fun e' s'' => R (.error e') s'') s')
        { s with heap := h₁, toks := tk })
    (hco : scope.isCoroutine = false) (hgen : scope.isGenerator = false) (hk : scope.kind = .function) : codeAny (model prog w) A (.call (.ref f) args) R s := by
  obtain ⟨FG, BG, st, lv⟩ := groundX (R := R) B F N hA hf hke
  refine codeAny_call_function hroom ((X₀.keeps F.keep) _ _ ho) rfl hco hgen rfl (codeRec_of (X₀.keeps F.keep) hcd) (hbind _ _ _ _ ?_)
  refine wpAny_newFunctionEnv_cells hk (kindsX hkind _) fun env' he s' x => ?_
  subst he
  refine ⟨(T.nolimit.keeps F.keep).keeps x.toInCall.keep, codeAny_func ?_⟩
  obtain ⟨h₁, tk, rfl, _⟩ := x.done
  have hk₁ := x.toInCall.keep
  obtain ⟨cells, NC, Y⟩ := Cl.news (h₀ := s.heap) (Nat.le_refl _) fun n c hm => ⟨x.cell n c (lookup_of_mem_nodup (cellsFrom_names scope.names 0 (s.heap.objs.size + 1) [] [] rfl ▸ hnd) hm), x.above n c hm⟩
  have kg : Kept (news.map (·.1)) s.heap (hideAll s.heap (news.map (·.1))) := fun b o hb e => hideAll_get _ e hb
  refine wpAny_mono (h _ s.heap.objs.size h₁ tk cells kg (fun b o _ e => hk₁ b o (of_hideAll _ e)) (Nat.le_refl _) FG ⟨x.toInCall.ns, fun b o e => hk₁ b o (of_hideAll _ e), Nat.le_of_eq (hideAll_size _ _)⟩ (fun p hp => ?_) Y BG (X₀.keeps st) (T.keeps st) (fun p hp => Heap.lt_size (N p hp).1)) (fun fl s' hl => lv _ _ hl) fun _ _ y => y
  rcases List.mem_append.mp hp with hp | hp
  · refine ⟨(NC p hp).1, (NC p hp).2.1, ?_⟩
    cases q : (hideAll s.heap (news.map (·.1))).get? p.1 with
    | none => rfl
    | some o => have := of_hideAll _ q; rw [(NC p hp).2.2] at this; cases this
  · exact ⟨hk₁ _ _ (N p hp).1, Nat.ne_of_lt (Heap.lt_size (N p hp).1), hideAll_none _ (List.mem_map_of_mem hp)⟩
end
end Mine
end

section
open PySem PySem.W PyProof.Rows PySem.Calls
namespace Mine
theorem rest_B1 : True ∧ True := by
  (try (walk1; fail "no walk"))
  w_top off
  exact ⟨trivial, trivial⟩
abbrev Ret := Heap → Addr → (Str → Option Value) → Shared → (Value → Shared → Prop) → Prop
abbrev Spec (w : World) (p : Program) (loose : List Str) (mean : ExcName → Option Value) (mg mb : Str → Option Value) (D U : Nat) (f : Addr) (vs : List Value) (news : List (Addr × Obj)) (R : Ret) : Prop :=
  ∀ (dp un : Nat) (gd : Option (List Code)) (cn : Str) (cs : Scope) (a : Addr) (ccd : Value) (cl : List (Str × Addr)) (outer : List Env) (A₀ : Around) (base h₀ : Heap) (L : Addr) (m : Str → Option Value) (s : Shared) (Q E : Value → Shared → Prop),
    Below A₀ base outer h₀ → Fr h₀ L s.heap m → (Mine.hd.heap_39 w.params).In h₀ → News h₀ L s.heap news → Top p loose mean mg mb h₀ → cs.kind = .function → CodeHd base 87 83 → CodeHd base 68 64 →
    dp + D < recursionLimit → un + U < cLine → R h₀ L m s Q →
      wpAny (model PySem.Challenge.rw_ij0014_01.row.prog w) (ktrTop dp un gd cn cs L a ccd cl outer) (call (.ref f) vs) Q E s
abbrev Ret2 := Shared → (Value → Shared → Prop) → Prop
abbrev Spec2 (w : World) (p : Program) (loose : List Str) (mean : ExcName → Option Value) (mg mb : Str → Option Value) (D U : Nat) (f : Addr) (vs : List Value) (led : List (Addr × Obj)) (pre : Heap → Prop) (R : Ret2) : Prop :=
  ∀ (dp un : Nat) (gd : Option (List Code)) (cn : Str) (cs : Scope) (a : Addr) (ccd : Value) (cl : List (Str × Addr)) (outer : List Env) (A₀ : Around) (base h₀ : Heap) (L : Addr) (m : Str → Option Value) (s : Shared) (Q E : Value → Shared → Prop),
    Below A₀ base outer h₀ → Fr h₀ L s.heap m → (Mine.hd.heap_39 w.params).In h₀ → News h₀ L s.heap led → Top p loose mean mg mb h₀ → cs.kind = .function → CodeHd base 87 83 → CodeHd base 68 64 →
    dp + D < recursionLimit → un + U < cLine → pre s.heap → R s Q →
      wpAny (model PySem.Challenge.rw_ij0014_01.row.prog w) (ktrTop dp un gd cn cs L a ccd cl outer) (call (.ref f) vs) Q E s
abbrev RStr (news : List (Addr × Obj)) (x : Str) : Ret := fun h₀ L m s Q =>
  ∀ (t : Tok) (h' : Heap) (tk' : Nat), Fr h₀ L h' m → News h₀ L h' news → Q (.str x t) { s with heap := h', toks := tk' }

def stripQ (x : Str) : Str :=
  let y := if Txt.startswith x (Str.ofString "\"") then Txt.slice x (some 1) none else x
  if Txt.endswith y (Str.ofString "\"") then Txt.slice y none (some (-1)) else y
set_option maxHeartbeats 8000000 in
theorem strip_spec {w : World} {p : Program} {loose : List Str} {mean : ExcName → Option Value} {mg mb : Str → Option Value} {news : List (Addr × Obj)} (x : Str) (t : Tok) (hx : x.length ≤ 1000) :
    Spec w p loose mean mg mb 1 8 45 [.str x t] news (RStr news (stripQ x)) := by
  unfold Spec
  k_fill
  intros
  rename_i hret
  refine wpAny_call ?_
  k_dflt (refine' code_def (binds := [(Str.ofString "text", .str x t)]) ?k1 ?k2 ?k3 ?k4 ?k5 ?kA ?kF ?kK ?k6 ?k7 ?k8 ?k9 ?kB ?_ ?c2 ?c3 ?c4 ?c5; (case kA => exact rfl); (case kF => exact rfl); (case kK => assumption); (case k1 => k_asm); (case k2 => k_asm); (case k3 => k_asm); (case k4 => k_asm); (case k5 => k_asm); (case k6 => k_is); (case k7 => k_is); (case k8 => ktr_room); (case k9 => exact BindsTo.of_eq rfl); (case c5 => decide); (case kB => exact locs rfl); (case c2 => exact rfl); (case c3 => exact rfl); (case c4 => exact rfl); k_whole; intro g' L' h' FG' F' N' B' X' T'; (try dsimp only); (try k_lift B'); (try k_fold))
  k_steps
  all_goals ((with_reducible rename Txt.startswith _ _ = _ => e1); (with_reducible rename Txt.endswith _ _ = _ => e2); refine cb_retS hret ?_ (by k_asm) (by k_asm); clear hret; simp only [stripQ, e1, if_true, Bool.false_eq_true, if_false, e2])
end Mine
end

section
open PySem PySem.W PyProof.Rows PySem.Calls
namespace Mine
theorem rest_B1k : True ∧ True := by
  (try (walk1; fail "no walk"))
  w_top off
  exact ⟨trivial, trivial⟩
theorem kg_off {h g : Heap} {b : Addr} {as : List Addr} (kg : Kept as h g) (hn : g.get? b = none) (hb : b ∉ as) : h.get? b = none := by
  cases e : h.get? b with
  | none => rfl
  | some o => have := kg b o hb e; rw [hn] at this; cases this
theorem kg_none {h g : Heap} {b : Addr} (kg : Kept [] h g) (hn : g.get? b = none) : h.get? b = none := kg_off kg hn (fun h => nomatch h)
theorem kept_all {h₀ h₀' h g h' : Heap} {L L' : Addr} {news news' : List (Addr × Obj)} (kg : Kept (news.map (·.1)) h g) (kf : ∀ b o, g.get? b = some o → h'.get? b = some o) (N : News h₀ L h news) (N' : News h₀' L' h' news') (sub : ∀ p ∈ news, p ∈ news') : Kept [] h h' := by
  intro b o _ e
  by_cases hb : b ∈ news.map (·.1)
  · obtain ⟨p, hp, rfl⟩ := List.mem_map.mp hb
    have e1 := (N p hp).1
    rw [e] at e1
    cases e1
    exact (N' p (sub p hp)).1
  · exact kf b o (kg b o hb e)
/-- the end of one turn of a comprehension: what the frame and the ledger are, and what holds -/
def TurnEnd (h₀ : Heap) (L : Addr) (m : Str → Option Value) (s : Shared) (full : List (Addr × Obj)) (P : Prop) (s' : Shared) : Prop :=
  ∃ h' tk, s' = { s with heap := h', toks := tk } ∧ Fr h₀ L h' m ∧ News h₀ L h' full ∧ P
theorem TurnEnd.intro {h₀ : Heap} {L : Addr} {m : Str → Option Value} {s : Shared} {full all : List (Addr × Obj)} {P : Prop} {h' : Heap} {tk : Nat} (F : Fr h₀ L h' m) (N : News h₀ L h' all) (sub : ∀ p ∈ full, p ∈ all) (r : P) :
    TurnEnd h₀ L m s full P { s with heap := h', toks := tk } := ⟨h', tk, rfl, F, fun p hp => N p (sub p hp), r⟩
theorem TurnEnd.comp {h₀ : Heap} {L : Addr} {m : Str → Option Value} {s s' : Shared} {I C D : Addr} {oI oC oD : Obj} {news : List (Addr × Obj)} {S : List (Addr × Obj) → Prop} {rest : Value → List (Addr × Obj) → Prop} {y : Value} {P : Prop}
    (h : TurnEnd h₀ L m s ((I, oI) :: (C, oC) :: (D, oD) :: news) P s') (off : LCg.Off3 I C D news) (hS : S news) (r : P → rest y news) : LCg.CompEnd h₀ L m s I oI C oC D oD S rest y s' := by
  obtain ⟨h', tk, a, b, c, d⟩ := h
  exact ⟨h', tk, news, a, b, c, off, hS, r d⟩
end Mine
end

section
open PySem PySem.W PyProof.Rows PySem.Calls
namespace Mine
theorem rest_B2 : True ∧ True := by
  (try (walk1; fail "no walk"))
  w_top off
  exact ⟨trivial, trivial⟩
/-- the items that a list's slice takes -/
def pickL {α : Type} (xs : List α) (lo hi st : Option Int) : List α :=
  (sliceRange (sliceBounds lo hi st xs.length).1 (sliceBounds lo hi st xs.length).2.1 (sliceBounds lo hi st xs.length).2.2).filterMap (xs[·]?)
theorem strs_filterMap {vs : List Value} {xs : List Str} (h : StrsAre vs xs) : ∀ l : List Nat, StrsAre (l.filterMap (vs[·]?)) (l.filterMap (xs[·]?))
  | [] => .nil
  | i :: l => by
    have ih := strs_filterMap h l
    cases e : xs[i]? with
    | none =>
      have e2 : vs[i]? = none := by
        rw [List.getElem?_eq_none_iff] at e ⊢
        rw [h.length]; exact e
      rw [List.filterMap_cons_none e, List.filterMap_cons_none e2]
      exact ih
    | some y =>
      obtain ⟨t, e2⟩ := h.get i y e
      rw [List.filterMap_cons_some e, List.filterMap_cons_some e2]
      exact .cons y t ih
theorem strs_pick {vs : List Value} {xs : List Str} (h : StrsAre vs xs) (lo hi st : Option Int) : StrsAre (slicePick vs.toArray lo hi st).toList (pickL xs lo hi st) := by
  unfold slicePick pickL
  rw [List.size_toArray, h.length]
  have e : (fun i : Nat => vs.toArray[i]?) = fun i => vs[i]? := by funext i; simp
  show StrsAre (((sliceRange _ _ _).filterMap (fun i => vs.toArray[i]?)).toArray).toList _
  rw [e]
  exact strs_filterMap h _
/-- few and short texts -/
def Small (xs : List Str) : Prop := xs.length ≤ 1002 ∧ ∀ y ∈ xs, y.length ≤ 1000
theorem small_split {x y : Str} (hx : x.length ≤ 1000) : Small (Txt.split x y) := by
  refine ⟨?_, fun a ha => Nat.le_trans (part_short ha) hx⟩
  unfold Txt.split
  split
  · simp
  · split
    · simp
    · rw [length_partsBetween]
      have e1 := StrLaws.occ_length_le x y 0 x.length (x.length + 1)
      omega
theorem small_pick {xs : List Str} (h : Small xs) (lo hi st : Option Int) : Small (pickL xs lo hi st) := by
  refine ⟨?_, fun a ha => ?_⟩
  · have hvs := strsAre_of_values (xs.map fun x => (x, 0))
    have e : (xs.map fun x => (x, 0)).map (·.1) = xs := by rw [List.map_map]; exact List.map_id _
    rw [e] at hvs
    have h1 := (strs_pick hvs lo hi st).length
    have h2 := slicePick_size_le (strValues (xs.map fun x => (x, 0))).toArray lo hi st
    rw [← Array.length_toList, List.size_toArray, hvs.length] at h2
    rw [← h1]
    exact Nat.le_trans h2 h.1
  · obtain ⟨i, _, hi'⟩ := List.mem_filterMap.mp ha
    exact h.2 a (List.mem_of_getElem? hi')
theorem small_sum {xs : List Str} (h : Small xs) {k : Nat} (hk : k ≤ 100) : (xs.map (·.length)).sum + xs.length * k ≤ 16777216 := by
  have h1 := StrLaws.sumLen_le xs h.2
  have h2 := h.1
  have h3 : xs.length * k ≤ xs.length * 100 := Nat.mul_le_mul_left _ hk
  omega

section
variable {prog : Program} {w : World} {A : Around} {E : Value → Shared → Prop} {s : Shared} {h₀ : Heap} {L l : Addr} {m : Str → Option Value} {news : List (Addr × Obj)} {value slice : PySem.Expr} {vs : List Value} {xs : List Str} {Q : Value → Shared → Prop}
theorem my_split {x y : Str} {t u : Tok} (hF : Fr h₀ L s.heap m) (hN : News h₀ L s.heap news) (hy : (y.length == 0) = false) (hx : x.length ≤ 1000)
    (h : ∀ D vs h' k, StrsAre vs (Txt.split x y) → Small (Txt.split x y) → Fr h₀ L h' m → News h₀ L h' ((D, listOf vs.toArray 0) :: news) → (∀ p ∈ news, p.1 < D) → Q (.ref D) { s with heap := h', toks := k }) :
    wpAny (model prog w) A (call (.builtin "str.split") [.str x t, .str y u]) Q E s :=
  KSpl.split1 hF hN hy (fun D l h' k e a F N lt => h D _ h' k (e ▸ a) (small_split hx) F N lt) (by rw [sizeLine_eq]; omega)
theorem my_slice {vl vu : Value} {lo hi : Option Int} (F : Fr h₀ L s.heap m) (N : News h₀ L s.heap news) (hl : s.heap.IsList l vs.toArray) (hi' : StrsAre vs xs) (hS : Small xs) (pl : IsPart vl lo) (pu : IsPart vu hi)
    (h : ∀ D ws h', Fr h₀ L h' m → News h₀ L h' ((D, listOf (List.toArray ws) 0) :: news) → (∀ p ∈ news, p.1 < D) → StrsAre ws (pickL xs lo hi none) → Small (pickL xs lo hi none) → Q (.ref D) { s with heap := h' })
    (hs : subscripted slice false (.ref l) (.ref s.heap.objs.size) = operate [.ref s.heap.objs.size, .ref l] (getItem (.ref l) (.ref s.heap.objs.size))) (ht : ∀ r, letTemporaryGo value (.ref l) r = pure ()) :
    wpAny (model prog w) A (subscriptTail value slice (.ref l) (.ref s.heap.objs.size)) Q E { s with heap := s.heap.push { cls := .type "slice", data := .fields #[vl, vu, .none] } } := by
  have hz : vs.toArray.size ≤ sizeLine := by rw [List.size_toArray, hi'.length, sizeLine_eq]; have := hS.1; omega
  refine kmk_slice F N hl pl pu (fun D h' F' N' l1 => h D (slicePick vs.toArray lo hi none).toList h' F' ?_ l1 (strs_pick hi' _ _ _) (small_pick hS _ _ _)) hs ht hz
  rw [Array.toArray_toList]
  exact N'
theorem my_slice3 {vl vu vk : Value} {lo hi st : Option Int} {ops : List Value} (F : Fr h₀ L s.heap m) (N : News h₀ L s.heap news) (hl : s.heap.IsList l vs.toArray) (hi' : StrsAre vs xs) (hS : Small xs) (pl : IsPart vl lo) (pu : IsPart vu hi) (pk : IsPart vk st) (h0 : st ≠ some 0)
    (h : ∀ D ws h', Fr h₀ L h' m → News h₀ L h' ((D, listOf (List.toArray ws) 0) :: news) → (∀ p ∈ news, p.1 < D) → StrsAre ws (pickL xs lo hi st) → Small (pickL xs lo hi st) → Q (.ref D) { s with heap := h' })
    (hs : subscripted slice false (.ref l) (.ref s.heap.objs.size) = operate ops (getItem (.ref l) (.ref s.heap.objs.size))) (ht : ∀ r, letTemporaryGo value (.ref l) r = pure ()) :
    wpAny (model prog w) A (subscriptTail value slice (.ref l) (.ref s.heap.objs.size)) Q E { s with heap := s.heap.push { cls := .type "slice", data := .fields #[vl, vu, vk] } } := by
  have hz : vs.toArray.size ≤ sizeLine := by rw [List.size_toArray, hi'.length, sizeLine_eq]; have := hS.1; omega
  refine slice_list3 F N hl pl pu pk h0 (fun h' F' N' => h _ (slicePick vs.toArray lo hi st).toList h' F' ?_ (fun p hp => Nat.lt_succ_of_lt (Heap.lt_size (N p hp).1)) (strs_pick hi' _ _ _) (small_pick hS _ _ _)) hs ht hz
  rw [Array.toArray_toList]
  exact N'
theorem my_len (hl : s.heap.IsList l vs.toArray) (hi : StrsAre vs xs) (hS : Small xs) (h : Q (.int xs.length (s.toks + 1)) { s with toks := s.toks + 1 + 1 }) : wpAny (model prog w) A (call (.builtin "len") [.ref l]) Q E s :=
  len_strsA hl hi (by have := hS.1; omega) h
theorem my_itemN {k : Int} {u : Tok} (hl : s.heap.IsList l vs.toArray) (hi : StrsAre vs xs) (hk : k < 0) (h1 : -(xs.length : Int) ≤ k) (hfit : -(2 ^ 63) ≤ k)
    (h : ∀ t', Q (.str (xs.getD (k + xs.length).toNat Str.empty) t') s)
    (hs : subscripted slice false (.ref l) (.int k u) = operate [.ref l, .int k u] (getItem (.ref l) (.int k u)) := by with_unfolding_all rfl) (hg : ∀ r, letTemporaryGo value (.ref l) r = pure () := by intro _; with_unfolding_all rfl) :
    wpAny (model prog w) A (subscriptTail value slice (.ref l) (.int k u)) Q E s := by
  have hsz : vs.toArray.size = xs.length := by rw [List.size_toArray]; exact hi.len_eq
  have hlt : (k + xs.length).toNat < xs.length := by omega
  have e : xs[(k + xs.length).toNat]? = some (xs.getD (k + xs.length).toNat Str.empty) := by simp [List.getD, hlt]
  obtain ⟨t, ht⟩ := hi.at e
  exact subscriptTail_builtin hl.typeIs slot_list_getitem.lookup (wpAny_getItem_list_neg hl hk (by rw [hsz]; exact h1) hfit (by rw [hsz]; simpa using ht) (h t)) hs hg
theorem my_join {x : Str} {t : Tok} (hl : s.heap.IsList l vs.toArray) (hi : StrsAre vs xs) (hS : Small xs) (hx : x.length ≤ 100)
    (h : ∀ t' k, Q (.str (Txt.join x xs) t') { s with toks := k }) : wpAny (model prog w) A (call (.builtin "str.join") [.str x t, .ref l]) Q E s :=
  join_list hl (by simpa using hi) (small_sum hS hx) h
end
def trimHead (r : List Str) : List Str := if 1 < (r.length : Int) ∧ (r.getD (Int.toNat 0) Str.empty == Str.ofString "") = true then pickL r (some 1) none none else r
def trimLast (r : List Str) : List Str := if 1 < (r.length : Int) ∧ (r.getD (-1 + (r.length : Int)).toNat Str.empty == Str.ofString "") = true then pickL r none (some (-1)) none else r
section
variable {r : List Str}
theorem trimHead_1 (a : 1 < (r.length : Int)) (b : (r.getD (Int.toNat 0) Str.empty == Str.ofString "") = true) : pickL r (some 1) none none = trimHead r := by rw [trimHead, if_pos ⟨a, b⟩]
theorem trimHead_2 (a : ¬ 1 < (r.length : Int)) : r = trimHead r := by rw [trimHead, if_neg (fun h => a h.1)]
theorem trimHead_3 (b : (r.getD (Int.toNat 0) Str.empty == Str.ofString "") = false) : r = trimHead r := by rw [trimHead, if_neg (fun h => by rw [b] at h; cases h.2)]
theorem trimLast_1 (a : 1 < (r.length : Int)) (b : (r.getD (-1 + (r.length : Int)).toNat Str.empty == Str.ofString "") = true) : pickL r none (some (-1)) none = trimLast r := by rw [trimLast, if_pos ⟨a, b⟩]
theorem trimLast_2 (a : ¬ 1 < (r.length : Int)) : r = trimLast r := by rw [trimLast, if_neg (fun h => a h.1)]
theorem trimLast_3 (b : (r.getD (-1 + (r.length : Int)).toNat Str.empty == Str.ofString "") = false) : r = trimLast r := by rw [trimLast, if_neg (fun h => by rw [b] at h; cases h.2)]
end
/-- what _law_bare gives -/
def bareF (x : Str) : Str := Txt.join (Str.ofString "\"") (trimLast (trimHead (Txt.split x (Str.ofString "\""))))
theorem bare_end {x : Str} {r r' : List Str} (h1 : r = trimHead (Txt.split x (Str.ofString "\""))) (h2 : r' = trimLast r) : Txt.join (Str.ofString "\"") r' = bareF x := by
  subst h1 h2; rfl

local macro_rules | `(tactic| walk_at "call builtin:str.split") => `(tactic| (k_here; (with_reducible show wpAny _ _ (call (Value.builtin "str.split") _) _ _ _); refine my_split (by k_asm) (by k_asm) (by decide) (by assumption) ?_; intro D' vs' h' k' e' S' F' N' l1; (try k_lt l1)))
local macro_rules | `(tactic| walk_at "call builtin:len") => `(tactic| (k_here; (with_reducible show wpAny _ _ (call (Value.builtin "len") [Value.ref _]) _ _ _); k_dflt (refine' my_len ?k1 ?k2 ?k3 ?_; (case k1 => exact News.isList (by k_asm) (by k_mem)); (case k2 => assumption); (case k3 => assumption)); k_whole))
local macro_rules | `(tactic| walk_at "subscriptTail Name Constant ref int") => `(tactic| (k_here; (with_reducible show wpAny _ _ (subscriptTail _ _ (Value.ref _) (Value.int _ _)) _ _ _); k_dflt (refine' item_strsA ?k1 ?k2 (by decide) ?k4 (by decide) ?_; (case k1 => exact News.isList (by k_asm) (by k_mem)); (case k2 => assumption); (case k4 => omega)); intro t9; k_whole))
local macro_rules | `(tactic| walk_at "subscriptTail Name UnaryOp ref int") => `(tactic| (k_here; (with_reducible show wpAny _ _ (subscriptTail _ _ (Value.ref _) (Value.int _ _)) _ _ _); k_dflt (refine' my_itemN ?k1 ?k2 (by decide) ?k4 (by decide) ?_; (case k1 => exact News.isList (by k_asm) (by k_mem)); (case k2 => assumption); (case k4 => omega)); intro t9; k_whole))
local macro_rules | `(tactic| walk_at "subscriptTail Name Slice ref ref") => `(tactic| (k_here; (with_reducible show wpAny _ _ (subscriptTail _ (PySem.Expr.Slice _ _ none _) (Value.ref _) (Value.ref _)) _ _ _); k_dflt (refine' my_slice ?F ?N ?l ?i ?S ?p ?q ?_ ?s ?t; (case F => k_asm); (case N => k_asm); (case l => kmk_list); (case i => assumption); (case S => assumption); (case p => kmk_part); (case q => kmk_part); (case s => with_unfolding_all rfl); (case t => kmk_pure)); intro D' ws' h' F' N' l1 hI' hS'; (try k_lt l1)))
local macro_rules | `(tactic| walk_at "call builtin:str.join") => `(tactic| (k_here; (with_reducible show wpAny _ _ (call (Value.builtin _) [Value.str _ _, Value.ref _]) _ _ _); k_dflt (refine' my_join ?k1 ?k2 ?k3 ?k4 ?_; (case k1 => exact News.isList (by k_asm) (by k_mem)); (case k2 => assumption); (case k3 => assumption); (case k4 => decide +kernel)); intro _ _; k_whole))
set_option maxHeartbeats 4000000 in
theorem bare_spec {w : World} {p : Program} {loose : List Str} {mean : ExcName → Option Value} {mg mb : Str → Option Value} {news : List (Addr × Obj)} (x : Str) (t : Tok) (hx : x.length ≤ 1000) :
    Spec w p loose mean mg mb 1 8 102 [.str x t] news (RStr news (bareF x)) := by
  unfold Spec
  k_fill
  intros
  rename_i hret
  refine wpAny_call ?_
  k_dflt (refine' code_def (binds := [(Str.ofString "piece", .str x t)]) ?k1 ?k2 ?k3 ?k4 ?k5 ?kA ?kF ?kK ?k6 ?k7 ?k8 ?k9 ?kB ?_ ?c2 ?c3 ?c4 ?c5; (case kA => exact rfl); (case kF => exact rfl); (case kK => assumption); (case k1 => k_asm); (case k2 => k_asm); (case k3 => k_asm); (case k4 => k_asm); (case k5 => k_asm); (case k6 => k_is); (case k7 => k_is); (case k8 => ktr_room); (case k9 => exact BindsTo.of_eq rfl); (case c5 => decide); (case kB => exact locs rfl); (case c2 => exact rfl); (case c3 => exact rfl); (case c4 => exact rfl); k_whole; intro g' L' h' FG' F' N' B' X' T'; (try dsimp only); (try k_lift B'); (try k_fold))
  k_steps
  all_goals (refine cb_retS hret (bare_end (by first | exact trimHead_1 (by assumption) (by assumption) | exact trimHead_2 (by assumption) | exact trimHead_3 (by assumption)) (by first | exact trimLast_1 (by assumption) (by assumption) | exact trimLast_2 (by assumption) | exact trimLast_3 (by assumption))) (by assumption) (cb_drop (by assumption) ?_))
  all_goals (intro p hp; simp only [List.mem_cons]; simp only [hp, or_true])
end Mine
end

section
open PySem PySem.W PyProof.Rows PySem.Calls
namespace Mine
theorem rest_B3 : True ∧ True := by
  (try (walk1; fail "no walk"))
  w_top off
  exact ⟨trivial, trivial⟩
abbrev RText (news : List (Addr × Obj)) : Ret := fun h₀ L m s Q =>
  ∀ (x : Str) (t : Tok) (h' : Heap) (tk' : Nat), x.length ≤ 20 → PyData.strOk x = true → Fr h₀ L h' m → News h₀ L h' news → Q (.str x t) { s with heap := h', toks := tk' }
theorem ok_iff {x : Str} : PyData.strOk x = true ↔ ∀ c ∈ x.cps.toList, c < 1114112 := by
  unfold PyData.strOk
  rw [Array.all_eq_true_iff_forall_mem]
  simp
theorem ok_append {x y : Str} (hx : PyData.strOk x = true) (hy : PyData.strOk y = true) : PyData.strOk (x ++ y) = true := by
  rw [ok_iff] at *
  intro c hc
  rw [Str.cps_append, Array.toList_append, List.mem_append] at hc
  exact hc.elim (hx c) (hy c)
theorem ok_one {c : Nat} (h : c < 1114112) : PyData.strOk ⟨#[c]⟩ = true := by
  rw [ok_iff]
  intro d hd
  have : d = c := by simpa using hd
  omega
theorem ok_chr (n : Int) : PyData.strOk ⟨#[((n.fdiv 6).fmod 55296).toNat]⟩ = true := by
  have h := Int.fmod_lt_of_pos (n.fdiv 6) (show (0 : Int) < 55296 by decide)
  exact ok_one (by omega)
theorem ok_item {x : Str} (hx : PyData.strOk x = true) (k : Int) : PyData.strOk (Txt.item x k) = true := by
  unfold Txt.item
  refine ok_one ?_
  cases e : Txt.charAt x k with
  | none => simp
  | some c =>
    unfold Txt.charAt at e
    obtain ⟨i, _, hi⟩ := Option.bind_eq_some_iff.mp e
    rw [ok_iff] at hx
    exact hx c (by rw [← Array.getElem?_toList] at hi; exact List.mem_of_getElem? hi)
theorem ok_join {sep : Str} (hs : PyData.strOk sep = true) : ∀ {xs : List Str}, (∀ s ∈ xs, PyData.strOk s = true) → PyData.strOk (Str.join sep xs) = true
  | [], _ => by rw [ok_iff]; intro c hc; cases hc
  | [x], h => h x List.mem_cons_self
  | x :: y :: r, h => by
    show PyData.strOk (x ++ sep ++ Str.join sep (y :: r)) = true
    exact ok_append (ok_append (h x List.mem_cons_self) hs) (ok_join hs fun s hm => h s (List.mem_cons_of_mem _ hm))
theorem text_state {pre : List Int} {n : Int} {xs : List Str} {y : Str} (h1 : xs.length = pre.length) (h2 : ∀ s ∈ xs, s.length ≤ 1 ∧ PyData.strOk s = true) (hy : y.length ≤ 1) (ho : PyData.strOk y = true) :
    (xs ++ [y]).length = (pre ++ [n]).length ∧ ∀ s ∈ xs ++ [y], s.length ≤ 1 ∧ PyData.strOk s = true := by
  refine ⟨by simp [h1], fun s hs => ?_⟩
  rcases List.mem_append.mp hs with hs | hs
  · exact h2 s hs
  · rw [List.mem_singleton.mp hs]; exact ⟨hy, ho⟩
theorem text_join {prog : Program} {w : World} {A : Around} {E : Value → Shared → Prop} {s : Shared} {l : Addr} {vs : List Value} {xs : List Str} {ns : List Int} {t : Tok} {Q : Value → Shared → Prop} (hl : s.heap.IsList l vs.toArray) (hi : StrsAre vs xs)
    (h1 : xs.length = ns.length) (hn : ns.length ≤ 10) (h2 : ∀ s ∈ xs, s.length ≤ 1 ∧ PyData.strOk s = true)
    (h : ∀ t' k, (Txt.join (Str.ofString "") xs).length ≤ 10 → PyData.strOk (Txt.join (Str.ofString "") xs) = true → Q (.str (Txt.join (Str.ofString "") xs) t') { s with toks := k }) : wpAny (model prog w) A (call (.builtin "str.join") [.str (Str.ofString "") t, .ref l]) Q E s := by
  have hs := StrLaws.sumLen_le xs fun s hm => (h2 s hm).1
  have e : (Str.ofString "").length = 0 := by decide +kernel
  refine join_list hl (by simpa using hi) (by rw [e]; omega) (fun t' k => h t' k ?_ (by unfold Txt.join; rw [StrLaws.glued_eq_join]; exact ok_join (by decide +kernel) fun s hm => (h2 s hm).2))
  unfold Txt.join
  rw [StrLaws.glued_eq_join]
  have := StrLaws.join_length_le (Str.ofString "") xs
  rw [e] at this
  omega
theorem text_end {x : Str} (h : x.length ≤ 10) : (Str.ofString "a/\"\"b" ++ x ++ Str.ofString "\"/c").length ≤ 20 := by
  rw [Str.length_append, Str.length_append]
  have e1 : (Str.ofString "a/\"\"b").length = 5 := by decide +kernel
  have e2 : (Str.ofString "\"/c").length = 3 := by decide +kernel
  omega
theorem text_ret {h₀ h' : Heap} {L : Addr} {m : Str → Option Value} {news : List (Addr × Obj)} {s : Shared} {Q : Value → Shared → Prop} {x : Str} {t : Tok} {tk' : Nat} (hret : RText news h₀ L m s Q) (hx : x.length ≤ 20) (ho : PyData.strOk x = true) (F : Fr h₀ L h' m) (N : News h₀ L h' news) :
    Q (.str x t) { s with heap := h', toks := tk' } := hret x t h' tk' hx ho F N
local macro_rules | `(tactic| walk_at "call builtin:str.join") => `(tactic| (k_here; (with_reducible show wpAny _ _ (call (Value.builtin _) [Value.str _ _, Value.ref _]) _ _ _); k_dflt (refine' text_join ?k1 ?k2 ?k3 ?k4 ?k5 ?_; (case k1 => exact News.isList (by k_asm) (by k_mem)); (case k2 => assumption); (case k3 => assumption); (case k4 => assumption); (case k5 => assumption)); intro t9 k9 hJ hO; k_whole))
set_option maxHeartbeats 4000000 in
theorem text_spec {w : World} {p : Program} {loose : List Str} {mean : ExcName → Option Value} {mg mb : Str → Option Value} (a : Addr) (vs : List Value) (ns : List Int) (hi : IntsAre vs ns) (hl : ns.length ≤ 10) (n : Nat) (rest : List (Addr × Obj)) :
    Spec w p loose mean mg mb 1 8 76 [.ref a] ((a, listOf vs.toArray n) :: rest) (RText ((a, listOf vs.toArray n) :: rest)) := by
  unfold Spec
  k_fill
  intros
  rename_i hret
  refine wpAny_call ?_
  k_dflt (refine' code_def (binds := [(Str.ofString "script", .ref a)]) ?k1 ?k2 ?k3 ?k4 ?k5 ?kA ?kF ?kK ?k6 ?k7 ?k8 ?k9 ?kB ?_ ?c2 ?c3 ?c4 ?c5; (case kA => exact rfl); (case kF => exact rfl); (case kK => assumption); (case k1 => k_asm); (case k2 => k_asm); (case k3 => k_asm); (case k4 => k_asm); (case k5 => k_asm); (case k6 => k_is); (case k7 => k_is); (case k8 => ktr_room); (case k9 => exact BindsTo.of_eq rfl); (case c5 => decide); (case kB => exact locs rfl); (case c2 => exact rfl); (case c3 => exact rfl); (case c4 => exact rfl); k_whole; intro g' L' h' FG' F' N' B' X' T'; (try dsimp only); (try k_lift B'); (try k_fold))
  (k_with "pyIter ref" => k_state (fun pre signs => signs.length = pre.length ∧ ∀ s ∈ signs, s.length ≤ 1 ∧ PyData.strOk s = true) "signs$")
  (k_with "state" => exact text_state (by assumption) (by assumption) (Nat.le_refl 1) (by first | exact ok_chr _ | exact ok_item (by decide +kernel) _))
  k_steps
  all_goals (refine text_ret hret (text_end (by assumption)) (ok_append (ok_append (by decide +kernel) (by assumption)) (by decide +kernel)) (by assumption) (cb_drop (by assumption) ?_))
  all_goals (intro p hp; exact List.mem_cons_of_mem _ hp)
end Mine
end

section
open PySem PySem.W PyProof.Rows PySem.Calls PySem.Builtin PySem.Builtin.ObjectAttr
namespace Mine
theorem rest_B4a : True ∧ True := by
  (try (walk1; fail "no walk"))
  w_top off
  exact ⟨trivial, trivial⟩
theorem ff_set : Slot "function" "__setattr__" "object.__setattr__" :=
  .of (owner := "object") (n := "__setattr__") (by rw [typeLookup_type, builtinLookup_eq_fast]; kernel_rfl) (by decide +kernel) (by decide +kernel) (by decide +kernel)
    (.inl (by decide +kernel)) (by rw [isSubtype_type]; kernel_rfl)
theorem ff_get : Slot "function" "__getattribute__" "object.__getattribute__" :=
  .of (owner := "object") (n := "__getattribute__") (by rw [typeLookup_type, builtinLookup_eq_fast]; kernel_rfl) (by decide +kernel) (by decide +kernel) (by decide +kernel)
    (.inl (by decide +kernel)) (by rw [isSubtype_type]; kernel_rfl)
theorem ff_none : typeLookup (.type "function") "__getattr__" = pure none := by rw [typeLookup_type, builtinLookup_eq_fast]; kernel_rfl
theorem ff_string : typeLookup (.type "function") "string" = pure none := by rw [typeLookup_type, builtinLookup_eq_fast]; kernel_rfl
theorem ff_span : typeLookup (.type "function") "span" = pure none := by rw [typeLookup_type, builtinLookup_eq_fast]; kernel_rfl
theorem ff_entry_get : entryFor table "object.__getattribute__" = some Builtin.«object.__getattribute__» := entryFor_of_tree (by kernel_rfl)
theorem ff_args_set (a b c : Value) : argsOk "object.__setattr__" ⟨[a, b, c], []⟩ := PySem.F.store_object.args a b c
theorem ff_args_get (a b : Value) : argsOk "object.__getattribute__" ⟨[a, b], []⟩ := by unfold argsOk; kernel_rfl
theorem ff_mro : mroOf (.type "function") = pure [.type "function", .type "object"] := by kernel_rfl
theorem ff_pass (self : Value) : refuseLoop self "__setattr__" [.type "function", .type "object"] = pure () := by kernel_rfl
theorem ff_dict : typeHasDict (.type "function") = true := by decide +kernel

section
variable {prog : Program} {w : World} {A : Around} {E : Value → Shared → Prop} {s : Shared} {h₀ : Heap} {L f d : Addr} {m : Str → Option Value} {news : List (Addr × Obj)} {fd : FuncData} {name : Str} {v : Value} {g : Obj → List (Addr × Obj)}
abbrev fnObj (fd : FuncData) (d : Option Addr) : Obj := { cls := .type "function", dict := d, data := .func fd }

theorem fn_type {od : Option Addr} (hx : s.heap.get? f = some (fnObj fd od)) : Looks (model prog w) s.heap (typeOf (.ref f)) (.type "function") := (Looks.ld hx).andThen .now

theorem fn_set {od : Option Addr} {Q : Unit → Shared → Prop} (hx : s.heap.get? f = some (fnObj fd od)) (hn : typeLookup (.type "function") name = pure none)
    (h : wpAny (model prog w) A.in1 (storeInOwnDict (.ref f) (.type "function") (.str name s.toks) name v false)
      (fun fin s' => match fin with | .done (.ret _) => Q () s' | _ => False) E { s with toks := s.toks + 1 }) :
    wpAny (model prog w) A (setAttr (.ref f) name v) Q E s := by
  have T := fn_type (prog := prog) (w := w) hx
  refine wpAny_bind (wpAny_mkText (wpAny_bind (wpAny_bind (wpAny_bind (T _ _ _ _ (fun _ _ e => e) ?_)))))
  rw [ff_set.lookup]
  refine wpAny_pure (wpAny_holding ?_)
  rw [ff_set.bind]
  refine wpAny_bind (wpAny_pure (wpAny_bind (wpAny_call ?_)))
  refine codeAny_call_builtin ff_set.plain PySem.F.entry_object_sa (ff_set.check _ _ _ _ _ _ _ _ ⟨_, hx, rfl⟩ (ff_args_set _ _ _) ?_)
  show wpAny _ _ (Builtin.«object.__setattr__» ⟨[.ref f, .str name s.toks, v], []⟩) _ _ _
  rw [osa_eq, refuse_eq]
  refine wpAny_bind (wpAny_bind (T _ _ _ _ (fun _ _ e => e) (wpAny_bind ?_)))
  rw [ff_mro]
  refine wpAny_pure ?_
  rw [ff_pass]
  refine wpAny_pure (wpAny_bind (T _ _ _ _ (fun _ _ e => e) (wpAny_bind ?_)))
  rw [hn]
  refine wpAny_pure (wpAny_bind (wpAny_pure ?_))
  refine wpAny_mono h (fun fin s' z => ?_) fun _ _ z => z
  rcases fin with fl | c
  · rcases fl with _ | _ | _ | r
    all_goals first | exact z.elim | exact wpAny_pure (wpAny_pure z)
  · exact z.elim

theorem put_in {es : List DictEntry} {n : Nat} {pre post : List (Addr × Obj)} {tk : Tok} {Q : Fin → Shared → Prop} (F : Fr h₀ L s.heap m) (N : News h₀ L s.heap (pre ++ (d, dictOf es n) :: post)) (h1 : ∀ p ∈ pre, p.1 ≠ d) (h2 : ∀ p ∈ post, p.1 ≠ d)
    (hr : es.any (·.refKey) = false) (hz : es.length ≤ 1000)
    (h : ∀ h', Fr h₀ L h' m → News h₀ L h' (pre ++ (d, dictOf (putL name (PyData.keyHash w.params name) (.str name s.toks) v es) (putN name es n)) :: post) → Q (.done (.ret .none)) { s with heap := h', toks := s.toks + 1 }) :
    wpAny (model prog w) A (storeInDict d (.str name tk) name v) Q E s := by
  obtain ⟨U1, U2⟩ := news_upd (f := Obj.putName name (PyData.keyHash w.params name) (.str name s.toks) v) F N h1 h2 (putName_dict name (PyData.keyHash w.params name) (.str name s.toks) v es n) rfl
  have D := (N _ (List.mem_append_right _ (.head _))).1
  have D' := (U2 _ (List.mem_append_right _ (.head _))).1
  unfold storeInDict newKeyGuard
  refine wpAny_bind (wpAny_pure (wpAny_bind ?_))
  unfold nsSet
  refine wpAny_bind (wpAny_bind (wpAny_askSetting (wpAny_pure (wpAny_bind (wpAny_mkText (wpAny_bind (wpAny_loadPart D ?_)))))))
  dsimp only
  rw [aRefKeyMayBeTheName_at, ← Array.any_toList, ← Array.any_toList, hr, Bool.and_false, if_neg Bool.false_ne_true]
  refine wpAny_updatePart D ?_
  refine wpAny_bind (wpAny_lookBehind D' ?_ ?_)
  · refine pastItsLine_dict ?_
    rw [List.size_toArray, sizeLine_eq]
    have : ∀ es : List DictEntry, (putL name (PyData.keyHash w.params name) (.str name s.toks) v es).length ≤ es.length + 1 := by
      intro es
      induction es with
      | nil => exact Nat.le_refl _
      | cons e r ih =>
        unfold putL
        split
        · simp
        · simpa using ih
    have := this es
    omega
  · exact wpAny_pure (h _ U1 U2)
theorem fn_first {Q : Unit → Shared → Prop} (F : Fr h₀ L s.heap m) (N : News h₀ L s.heap news) (U : UpdF f (fnObj fd none) news g) (hn : typeLookup (.type "function") name = pure none)
    (h : ∀ d h' tk tk', Fr h₀ L h' m → News h₀ L h' ((d, dictOf [⟨PyData.keyHash w.params name, .str name tk, v⟩] 1) :: g (fnObj fd (some d))) → (∀ p ∈ news, p.1 < d) → Q () { s with heap := h', toks := tk' }) :
    wpAny (model prog w) A (setAttr (.ref f) name v) Q E s := by
  obtain ⟨own, rest, rfl, hg, h1, h2⟩ := U.split
  have hf := N (f, fnObj fd none) (List.mem_append_right _ (.head _))
  refine fn_set hf.1 hn ?_
  have hfs : f ≠ s.heap.objs.size := Nat.ne_of_lt (Heap.lt_size hf.1)
  refine wpAny_bind (wpAny_pure (wpAny_bind ?_))
  show wpAny _ _ (instanceDict f true) _ _ _
  unfold instanceDict
  refine wpAny_bind (wpAny_loadPart hf.1 ?_)
  dsimp only [fnObj]
  rw [if_neg (by rw [ff_dict]; decide)]
  refine wpAny_bind (wpAny_alloc ?_)
  have hx₁ : (s.heap.push { cls := .type "dict", data := .dict #[] }).get? f = some (fnObj fd none) := Heap.get?_push_of_some _ hf.1
  refine wpAny_bind (wpAny_update hx₁ ?_)
  have F1 := F.push { cls := .type "dict", data := .dict #[] }
  have N1 := News.push F N { cls := .type "dict", data := .dict #[] }
  obtain ⟨F2, N2⟩ := news_upd (f := fun o => { cls := o.cls, dict := some s.heap.objs.size, data := o.data, slots := o.slots }) (o' := fnObj fd (some s.heap.objs.size)) (pre := (s.heap.objs.size, { cls := .type "dict", data := .dict #[] }) :: own) F1 N1 (by
    intro p hp
    rcases List.mem_cons.mp hp with rfl | hp
    · exact hfs.symm
    · exact h1 p hp) h2 rfl rfl
  have lt : ∀ p ∈ own ++ (f, fnObj fd none) :: rest, p.1 < s.heap.objs.size := fun p hp => Heap.lt_size (N p hp).1
  show wpAny _ _ (dictMade (.type "function") f s.heap.objs.size) _ _ _
  refine wpAny_pure (a := some s.heap.objs.size) ?_
  refine put_in (es := []) (n := 0) (pre := []) (post := own ++ (f, fnObj fd (some s.heap.objs.size)) :: rest) F2 N2 (fun _ hp => nomatch hp) (fun p hp => ?_) rfl (Nat.zero_le _) fun h' F3 N3 => h s.heap.objs.size h' _ _ F3 (by rw [hg]; exact N3) lt
  rcases List.mem_append.mp hp with hp | hp
  · exact Nat.ne_of_lt (lt p (List.mem_append_left _ hp))
  · rcases List.mem_cons.mp hp with rfl | hp
    · exact hfs
    · exact Nat.ne_of_lt (lt p (List.mem_append_right _ (.tail _ hp)))
theorem fn_next {es : List DictEntry} {n : Nat} {Q : Unit → Shared → Prop} (F : Fr h₀ L s.heap m) (N : News h₀ L s.heap news) (hm : (f, fnObj fd (some d)) ∈ news) (U : UpdF d (dictOf es n) news g) (hn : typeLookup (.type "function") name = pure none)
    (hr : es.any (·.refKey) = false) (hz : es.length ≤ 1000)
    (h : ∀ h' tk', Fr h₀ L h' m → News h₀ L h' (g (dictOf (putL name (PyData.keyHash w.params name) (.str name (s.toks + 1)) v es) (putN name es n))) → Q () { s with heap := h', toks := tk' }) :
    wpAny (model prog w) A (setAttr (.ref f) name v) Q E s := by
  obtain ⟨own, rest, rfl, hg, h1, h2⟩ := U.split
  have hf := N _ hm
  refine fn_set hf.1 hn ?_
  refine wpAny_bind (wpAny_pure (wpAny_bind ?_))
  show wpAny _ _ (instanceDict f true) _ _ _
  unfold instanceDict
  refine wpAny_bind (wpAny_loadPart hf.1 ?_)
  dsimp only [fnObj]
  refine wpAny_pure (a := some d) ?_
  exact put_in F N h1 h2 hr hz fun h' F3 N3 => h h' _ F3 (by rw [hg]; exact N3)

theorem fn_find {es : List DictEntry} {n : Nat} {h : Heap} {M : Model} (hx : h.get? f = some (fnObj fd (some d))) (hd : h.get? d = some (dictOf es n)) (hn : typeLookup (.type "function") name = pure none)
    (hl : getL name es = some (some v)) : Looks M h (find (.ref f) (.type "function") name) (.value v) := by
  have hL : nsLook name (dictOf es n) = pure (some v) := nsLook_of (by rw [lookIn_dict]; exact hl)
  have L1 : Looks M h (ownDict f) (some d) := (Looks.ld hx).andThen ((Looks.ld hx).andThen .now)
  have L2 : Looks M h (inOwnDict name (.ref f)) (some v) := by
    refine L1.andThen ?_
    show Looks M h (nsGet d name) (some v)
    exact (Looks.ld hd).andThen (Looks.of_pure hL)
  unfold find
  refine (Looks.of_pure hn).andThen (Looks.now.andThen (Looks.now.andThen (L2.andThen ?_)))
  exact Looks.tag .now
theorem fn_entry {es : List DictEntry} {n : Nat} {tk : Tok} {Q : Fin → Shared → Prop} (N : News h₀ L s.heap news) (hm : (f, fnObj fd (some d)) ∈ news) (hd : (d, dictOf es n) ∈ news) (hn : typeLookup (.type "function") name = pure none)
    (hl : getL name es = some (some v)) (h : Q (.done (.ret v)) s) :
    wpAny (model prog w) A (Builtin.«object.__getattribute__» ⟨[.ref f, .str name tk], []⟩) Q E s := by
  have hx := (N _ hm).1
  have T := fn_type (prog := prog) (w := w) hx
  unfold Builtin.«object.__getattribute__»
  refine wpAny_bind (wpAny_pure (wpAny_bind (wpAny_pure (wpAny_bind (T _ _ _ _ (fun _ _ e => e) (wpAny_bind ((fn_find hx (N _ hd).1 hn hl).here ?_)))))))
  exact wpAny_pure h
theorem fn_getattr {es : List DictEntry} {n : Nat} {ex : Bool} {Q : Value → Shared → Prop} (N : News h₀ L s.heap news) (hm : (f, fnObj fd (some d)) ∈ news) (hd : (d, dictOf es n) ∈ news) (hn : typeLookup (.type "function") name = pure none)
    (hl : getL name es = some (some v)) (hv : handedIn v = true) (h : ∀ tk, Q v { s with toks := tk }) :
    wpAny (model prog w) A (getAttr (.ref f) name ex) Q E s := by
  have hx := (N _ hm).1
  have T := fn_type (prog := prog) (w := w) hx
  refine wpAny_bind (wpAny_mkText ?_)
  refine wpAny_holding (wpAny_bind (T _ _ _ _ (fun _ _ e => e) (wpAny_bind ?_)))
  rw [ff_get.lookup]
  refine wpAny_pure ?_
  show wpAny _ _ (getAttrByItsOwn _ _ _ _ _ _) _ _ _
  unfold getAttrByItsOwn
  refine wpAny_bind (wpAny_pure (wpAny_bind (wpAny_attempt (wpAny_holding ?_))))
  have hc : callGetattribute (.ref f) (.str name s.toks) (.builtin "object.__getattribute__") ex = boundAndCalled (.builtin "object.__getattribute__") (.ref f) (.str name s.toks) := by
    unfold callGetattribute
    rw [show onTheHeap (.builtin "object.__getattribute__") = false from rfl, Bool.and_false]; rfl
  rw [hc]
  unfold boundAndCalled
  rw [ff_get.bind]
  refine wpAny_bind (wpAny_pure (wpAny_call ?_))
  refine codeAny_call_builtin ff_get.plain ff_entry_get (ff_get.check _ _ _ _ _ _ _ _ ⟨_, hx, rfl⟩ (ff_args_get _ _) ?_)
  refine fn_entry N hm hd hn hl ?_
  show wpAny _ _ (handedOut v) _ _ _
  rw [handedOut_of hv]
  exact wpAny_pure (h _)
theorem fn_method {es : List DictEntry} {n : Nat} {pl : Sem Bool} {Q : Value × List Value → Shared → Prop} (N : News h₀ L s.heap news) (hm : (f, fnObj fd (some d)) ∈ news) (hd : (d, dictOf es n) ∈ news) (hn : typeLookup (.type "function") name = pure none)
    (hl : getL name es = some (some v)) (hv : handedIn v = true) (h : ∀ tk, Q (v, []) { s with toks := tk }) :
    wpAny (model prog w) A (getMethod (.ref f) name pl) Q E s := by
  have hx := (N _ hm).1
  have T := fn_type (prog := prog) (w := w) hx
  have S1 : Looks (model prog w) s.heap (specialOf (.ref f) "__getattribute__") (some (.builtin "object.__getattribute__")) := T.andThen (Looks.of_pure ff_get.lookup)
  have S2 : Looks (model prog w) s.heap (specialOf (.ref f) "__getattr__") none := T.andThen (Looks.of_pure ff_none)
  have S3 : Looks (model prog w) s.heap (specialOf (.ref f) name) none := T.andThen (Looks.of_pure hn)
  unfold getMethod
  refine wpAny_bind (S1.here ?_)
  dsimp only
  rw [if_neg (by decide +kernel)]
  refine wpAny_bind (S2.here ?_)
  rw [if_neg (by decide)]
  refine wpAny_bind (S3.here ?_)
  refine wpAny_bind (fn_getattr N hm hd hn hl hv fun tk => ?_)
  exact wpAny_pure (h tk)
end
end Mine
end

section
open PySem PySem.W PyProof.Rows PySem.Calls
namespace Mine
theorem rest_B4 : True ∧ True := by
  (try (walk1; fail "no walk"))
  w_top off
  exact ⟨trivial, trivial⟩
/-- the code table of _law_hit, once its two lambdas have been made -/
abbrev tab2 (c1 c2 : Addr) : Array Value := #[] ++ #[rawInt ((99 : Nat) : Int), rawInt ((10 : Nat) : Int), Value.ref c1] ++ #[rawInt ((101 : Nat) : Int), rawInt ((15 : Nat) : Int), Value.ref c2]
abbrev hitQual : Str := ((Str.ofString "_law_hit" ++ Str.ofString ".<locals>.") ++ Str.ofString "<lambda>")
/-- a code object of one of the two lambdas -/
def CodeOb (o : Obj) : Prop := ∃ vs t, o.data = .fields vs ∧ vs[1]? = some (.str hitQual t)
/-- what comes out of unmatched for a text between two places -/
def cutF (x : Str) (i j : Int) : Str := Txt.slice x none (some i) ++ Txt.slice x (some j) none
theorem cut_len (x : Str) (i j : Int) : (cutF x i j).length ≤ 2 * x.length := by
  unfold cutF
  rw [Str.length_append]
  have h1 := PyProof.Txt.length_slice_le x none (some i)
  have h2 := PyProof.Txt.length_slice_le x (some j) none
  omega
/-- unmatched, called on what _law_hit gave, in the same frame -/
abbrev UnSpec (w : World) (dp un : Nat) (gd : Option (List Code)) (cn : Str) (cs : Scope) (a : Addr) (ccd : Value) (cl : List (Str × Addr)) (outer : List Env) (h₀ : Heap) (L : Addr) (f : Addr) (x : Str) (i j : Int) (h' : Heap) : Prop :=
  ∀ (m : Str → Option Value) (s : Shared) (Q E : Value → Shared → Prop), Fr h₀ L s.heap m → Kept [] h' s.heap →
    (∀ t h'' tk, Kept [] s.heap h'' → (cutF x i j).length ≤ 2 * x.length → Q (.str (cutF x i j) t) { s with heap := h'', toks := tk }) →
    wpAny (model PySem.Challenge.rw_ij0014_01.row.prog w) (ktrTop dp un gd cn cs L a ccd cl outer) (call (.ref 38) [.ref f]) Q E s
local macro_rules | `(tactic| walk_at "setAttr ref") => `(tactic| (k_here; (with_reducible show wpAny _ _ (setAttr (Value.ref _) _ _) _ _ _); k_dflt (refine' fn_first ?F ?N ?U ?n ?_; (case F => k_asm); (case N => k_asm); (case U => k_updF); (case n => first | exact ff_string | exact ff_span); k_whole); intro d' h' tk1 tk2 F' N' l1; (try dsimp only at N'); (try k_lt l1)))
local macro_rules | `(tactic| walk_at "setAttr ref") => `(tactic| (k_here; (with_reducible show wpAny _ _ (setAttr (Value.ref _) _ _) _ _ _); k_dflt (refine' fn_next ?F ?N ?m ?U ?n ?r ?z ?_; (case F => k_asm); (case N => k_asm); (case m => k_mem); (case U => k_updF); (case n => first | exact ff_string | exact ff_span); (case r => rfl); (case z => exact Nat.le_of_ble_eq_true rfl); k_whole); intro h' tk2 F' N'; (try dsimp only at N')))
local macro_rules | `(tactic| walk_at "getAttr ref") => `(tactic| (k_here; (with_reducible show wpAny _ _ (getAttr (Value.ref _) _ _) _ _ _); k_dflt (refine' fn_getattr ?N ?m ?d ?n ?l ?v ?_; (case N => k_asm); (case m => k_mem); (case d => k_mem); (case n => first | exact ff_string | exact ff_span); (case l => rfl); (case v => rfl); k_whole); intro tk2))
local macro_rules | `(tactic| walk_at "getMethod ref") => `(tactic| (k_here; (with_reducible show wpAny _ _ (getMethod (Value.ref _) _ _) _ _ _); k_dflt (refine' fn_method ?N ?m ?d ?n ?l ?v ?_; (case N => k_asm); (case m => k_mem); (case d => k_mem); (case n => first | exact ff_string | exact ff_span); (case l => rfl); (case v => rfl); k_whole); intro tk2))
set_option maxHeartbeats 4000000 in
theorem hit_fresh {w : World} {p : Program} {loose : List Str} {mean : ExcName → Option Value} {mg mb : Str → Option Value} (x : Str) (t t2 t3 : Tok) (i j : Int) (hx : x.length ≤ 1000) (hi : 0 ≤ i) (hi2 : i ≤ 1000) (hj : 0 ≤ j) (hj2 : j ≤ 1000) :
    ∀ (dp un : Nat) (gd : Option (List Code)) (cn : Str) (cs : Scope) (a : Addr) (ccd : Value) (cl : List (Str × Addr)) (outer : List Env) (A₀ : Around) (base h₀ : Heap) (L : Addr) (m : Str → Option Value) (s : Shared) (Q E : Value → Shared → Prop),
    Below A₀ base outer h₀ → Fr h₀ L s.heap m → (Mine.hd.heap_39 w.params).In h₀ → News h₀ L s.heap [(83, tabObj #[])] → Top p loose mean mg mb h₀ → cs.kind = .function → CodeHd base 87 83 → CodeHd base 68 64 →
    dp + 2 < recursionLimit → un + 16 < cLine →
    (∀ f h' tk' c1 c2 o1 o2, Kept [83] s.heap h' → h'.get? 83 = some (tabObj (tab2 c1 c2)) → h'.get? c1 = some o1 → h'.get? c2 = some o2 → CodeOb o1 → CodeOb o2 → s.heap.objs.size ≤ c1 → s.heap.objs.size ≤ c2 →
      UnSpec w dp un gd cn cs a ccd cl outer h₀ L f x i j h' → Q (.ref f) { s with heap := h', toks := tk' }) →
      wpAny (model PySem.Challenge.rw_ij0014_01.row.prog w) (ktrTop dp un gd cn cs L a ccd cl outer) (call (.ref 88) [.str x t, .int i t2, .int j t3]) Q E s := by
  k_fill
  intros
  rename_i hret
  refine wpAny_call ?_
  k_dflt (refine' enterC (binds := [(Str.ofString "text", .str x t), (Str.ofString "first", .int i t2), (Str.ofString "behind", .int j t3)]) ?k1 ?k2 ?k3 ?k4 ?k5 ?kA ?kF ?kK ?k6 ?k7 ?k8 ?k9 ?kB ?kD ?_ ?c2 ?c3 ?c4; (case kA => exact rfl); (case kF => exact rfl); (case kK => assumption); (case k1 => k_asm); (case k2 => k_asm); (case k3 => k_asm); (case k4 => k_asm); (case k5 => k_asm); (case k6 => k_is); (case k7 => k_is); (case k8 => ktr_room); (case k9 => exact BindsTo.of_eq rfl); (case kB => exact rfl); (case kD => decide +kernel); (case c2 => exact rfl); (case c3 => exact rfl); (case c4 => exact rfl); k_whole; intro g' L' h' tk' cells' kg kh hsz FG' F' N' Y' B' X' T' l1; (try k_lt l1); k_cells Y'; (try simp only [List.cons_append, List.nil_append] at N'); (try dsimp only); (try k_lift B'); (try k_fold))
  k_steps
  have hk : Kept [83] _ _ := fun b o hb e => (by assumption : Fr g' L' _ _).keep b o (kg b o hb e)
  rename News _ _ _ _ => kN
  refine' hret _ _ _ _ _ _ _ hk (News.get kN ?m83) (News.get kN ?mc1) (News.get kN ?mc2) ?ob1 ?ob2 ?l1 ?l2 ?un
  case m83 => k_mem
  case mc1 => k_mem
  case mc2 => k_mem
  case ob1 => exact ⟨_, _, by assumption, by assumption⟩
  case ob2 => exact ⟨_, _, by assumption, by assumption⟩
  case l1 => omega
  case l2 => omega
  case un =>
    intro m9 s9 Q9 E9 F9 K9 hR
    have N9 := K9.news kN (fun _ _ h => nomatch h)
    clear hret hk
    show wpAny _ _ (call (Value.ref 38) [Value.ref ?fHit]) _ _ _
    refine wpAny_call ?_
    k_dflt (refine' enterP (binds := [(Str.ofString "match", .ref ?fHit)]) ?k1 ?k2 ?k3 ?k4 ?k5 ?kA ?kF ?kK ?k6 ?k7 ?k8 ?k9 ?kB ?_ ?c2 ?c3 ?c4 ?c5; (case kA => exact rfl); (case kF => exact rfl); (case kK => assumption); (case k1 => k_asm); (case k2 => exact F9); (case k3 => k_asm); (case k4 => exact N9); (case k5 => k_asm); (case k6 => k_is); (case k7 => k_is); (case k8 => ktr_room); (case k9 => exact BindsTo.of_eq rfl); (case c5 => decide); (case kB => exact locs rfl); (case c2 => exact rfl); (case c3 => exact rfl); (case c4 => exact rfl); k_whole; intro g9 L9 h9 kg9 kh9 hsz9 FG9 F9' N9' B9 X9 T9 l9; (try k_lt l9); (try dsimp only); (try k_lift B9); (try k_fold))
    k_steps
    k_dflt (refine wpAny_call ?_; (refine' kla_code ?k1 ?k2 ?k3 ?k4 ?k5 ?kA ?kF ?kK ?k6 ?k7 ?k8 ?k9 ?kB ?_ ?c2 ?c3 ?c4 ?c5; (case kA => exact rfl); (case kF => exact rfl); (case kK => exact rfl); (case k1 => k_asm); (case k2 => k_asm); (case k3 => k_asm); (case k4 => k_asm); (case k5 => k_asm); (case k6 => k_mem); (case k7 => exact codeRec_news (by k_asm) (by k_mem) (by assumption) (by assumption)); (case k8 => ktr_room); (case k9 => exact rfl); (case c5 => decide); (case kB => exact locs rfl); (case c2 => exact rfl); (case c3 => exact rfl); (case c4 => exact rfl); k_whole; intro gA LA hA FGA FA' NA' BA XA TA; (try dsimp only); (try k_lift BA); (try k_fold)))
    k_steps
    rename News _ _ _ _ => kM
    exact hR _ _ _ (kept_all kg9 (by assumption : Fr g9 L9 _ _).keep N9 kM (by intro p hp; repeat (first | exact hp | refine List.mem_cons_of_mem _ ?_))) (cut_len x i j)
set_option maxHeartbeats 4000000 in
theorem hit_again {w : World} {p : Program} {loose : List Str} {mean : ExcName → Option Value} {mg mb : Str → Option Value} (x : Str) (t t2 t3 : Tok) (i j : Int) (hx : x.length ≤ 1000) (hi : 0 ≤ i) (hi2 : i ≤ 1000) (hj : 0 ≤ j) (hj2 : j ≤ 1000) (c1 c2 : Addr) (o1 o2 : Obj) (ho1 : CodeOb o1) (ho2 : CodeOb o2) :
    ∀ (dp un : Nat) (gd : Option (List Code)) (cn : Str) (cs : Scope) (a : Addr) (ccd : Value) (cl : List (Str × Addr)) (outer : List Env) (A₀ : Around) (base h₀ : Heap) (L : Addr) (m : Str → Option Value) (s : Shared) (Q E : Value → Shared → Prop),
    Below A₀ base outer h₀ → Fr h₀ L s.heap m → (Mine.hd.heap_39 w.params).In h₀ → News h₀ L s.heap [(83, tabObj (tab2 c1 c2)), (c1, o1), (c2, o2)] → Top p loose mean mg mb h₀ → cs.kind = .function → CodeHd base 87 83 → CodeHd base 68 64 →
    dp + 2 < recursionLimit → un + 16 < cLine →
    (∀ f h' tk', Kept [] s.heap h' →
      UnSpec w dp un gd cn cs a ccd cl outer h₀ L f x i j h' → Q (.ref f) { s with heap := h', toks := tk' }) →
      wpAny (model PySem.Challenge.rw_ij0014_01.row.prog w) (ktrTop dp un gd cn cs L a ccd cl outer) (call (.ref 88) [.str x t, .int i t2, .int j t3]) Q E s := by
  obtain ⟨vs1, tq1, e11, e12⟩ := ho1
  obtain ⟨vs2, tq2, e21, e22⟩ := ho2
  k_fill
  intros
  rename_i hret
  refine wpAny_call ?_
  k_dflt (refine' enterC (binds := [(Str.ofString "text", .str x t), (Str.ofString "first", .int i t2), (Str.ofString "behind", .int j t3)]) ?k1 ?k2 ?k3 ?k4 ?k5 ?kA ?kF ?kK ?k6 ?k7 ?k8 ?k9 ?kB ?kD ?_ ?c2 ?c3 ?c4; (case kA => exact rfl); (case kF => exact rfl); (case kK => assumption); (case k1 => k_asm); (case k2 => k_asm); (case k3 => k_asm); (case k4 => k_asm); (case k5 => k_asm); (case k6 => k_is); (case k7 => k_is); (case k8 => ktr_room); (case k9 => exact BindsTo.of_eq rfl); (case kB => exact rfl); (case kD => decide +kernel); (case c2 => exact rfl); (case c3 => exact rfl); (case c4 => exact rfl); k_whole; intro g' L' h' tk' cells' kg kh hsz FG' F' N' Y' B' X' T' l1; (try k_lt l1); k_cells Y'; (try simp only [List.cons_append, List.nil_append] at N'); (try dsimp only); (try k_lift B'); (try k_fold))
  k_steps
  rename News _ _ _ _ => kN
  refine' hret _ _ _ (kept_all kg (by assumption : Fr g' L' _ _).keep (by assumption : News _ _ _ [(83, tabObj (tab2 c1 c2)), (c1, o1), (c2, o2)]) kN (by intro p hp; repeat (first | exact hp | refine List.mem_cons_of_mem _ ?_))) ?un
  case un =>
    intro m9 s9 Q9 E9 F9 K9 hR
    have N9 := K9.news kN (fun _ _ h => nomatch h)
    clear hret
    show wpAny _ _ (call (Value.ref 38) [Value.ref ?fHit]) _ _ _
    refine wpAny_call ?_
    k_dflt (refine' enterP (binds := [(Str.ofString "match", .ref ?fHit)]) ?k1 ?k2 ?k3 ?k4 ?k5 ?kA ?kF ?kK ?k6 ?k7 ?k8 ?k9 ?kB ?_ ?c2 ?c3 ?c4 ?c5; (case kA => exact rfl); (case kF => exact rfl); (case kK => assumption); (case k1 => k_asm); (case k2 => exact F9); (case k3 => k_asm); (case k4 => exact N9); (case k5 => k_asm); (case k6 => k_is); (case k7 => k_is); (case k8 => ktr_room); (case k9 => exact BindsTo.of_eq rfl); (case c5 => decide); (case kB => exact locs rfl); (case c2 => exact rfl); (case c3 => exact rfl); (case c4 => exact rfl); k_whole; intro g9 L9 h9 kg9 kh9 hsz9 FG9 F9' N9' B9 X9 T9 l9; (try k_lt l9); (try dsimp only); (try k_lift B9); (try k_fold))
    k_steps
    k_dflt (refine wpAny_call ?_; (refine' kla_code ?k1 ?k2 ?k3 ?k4 ?k5 ?kA ?kF ?kK ?k6 ?k7 ?k8 ?k9 ?kB ?_ ?c2 ?c3 ?c4 ?c5; (case kA => exact rfl); (case kF => exact rfl); (case kK => exact rfl); (case k1 => k_asm); (case k2 => k_asm); (case k3 => k_asm); (case k4 => k_asm); (case k5 => k_asm); (case k6 => k_mem); (case k7 => exact codeRec_news (by k_asm) (by k_mem) (by assumption) (by assumption)); (case k8 => ktr_room); (case k9 => exact rfl); (case c5 => decide); (case kB => exact locs rfl); (case c2 => exact rfl); (case c3 => exact rfl); (case c4 => exact rfl); k_whole; intro gA LA hA FGA FA' NA' BA XA TA; (try dsimp only); (try k_lift BA); (try k_fold)))
    k_steps
    rename News _ _ _ _ => kM
    exact hR _ _ _ (kept_all kg9 (by assumption : Fr g9 L9 _ _).keep N9 kM (by intro p hp; repeat (first | exact hp | refine List.mem_cons_of_mem _ ?_))) (cut_len x i j)
end Mine
end

section
open PySem PySem.W PyProof.Rows PySem.Calls PySem.Builtin PySem.Builtin.ObjectAttr
namespace Mine
theorem rest_B5a : True ∧ True := by
  (try (walk1; fail "no walk"))
  w_top off
  exact ⟨trivial, trivial⟩
/-- the bound method append of the list l -/
abbrev bndObj (l : Addr) : Obj := { cls := .type "builtin_function_or_method", data := .fields #[.builtin "list.append", .ref l] }
theorem bm_append : typeLookup (.type "list") "append" = pure (some (.builtin "list.append")) := PySem.F.slot_list_append.lookup
theorem bm_get : specialOf (.builtin "list.append") "__get__" = pure (some (.builtin "method_descriptor.__get__")) := by kernel_rfl
theorem bm_takes : takesStores (.builtin "list.append") = pure false := by kernel_rfl
theorem bm_slot : Slot "method_descriptor" "__get__" "method_descriptor.__get__" :=
  .of (owner := "method_descriptor") (n := "__get__") (by rw [typeLookup_type, builtinLookup_eq_fast]; kernel_rfl) (by decide +kernel) (by decide +kernel) (by decide +kernel)
    (.inl (by decide +kernel)) (by rw [isSubtype_type]; kernel_rfl)
theorem bm_entry : entryFor table "method_descriptor.__get__" = some Builtin.«method_descriptor.__get__» := entryFor_of_tree (by kernel_rfl)
theorem bm_args (a b c : Value) : argsOk "method_descriptor.__get__" ⟨[a, b, c], []⟩ := by unfold argsOk; kernel_rfl
theorem bm_type : typeOf (.builtin "list.append") = pure (.type "method_descriptor") := PySem.F.type_list_append

section
variable {prog : Program} {w : World} {A : Around} {E : Value → Shared → Prop} {s : Shared} {h₀ : Heap} {L l b : Addr} {m : Str → Option Value} {news : List (Addr × Obj)} {its : Array Value} {n : Nat} {v : Value} {g : Obj → List (Addr × Obj)}
theorem bm_find {h : Heap} {M : Model} (hx : h.get? l = some (listOf its n)) : Looks M h (find (.ref l) (.type "list") "append") (.bind (.builtin "method_descriptor.__get__") (.builtin "list.append")) := by
  have L1 : Looks M h (ownDict l) none := (Looks.ld hx).andThen ((Looks.ld hx).andThen .now)
  have L2 : Looks M h (inOwnDict "append" (.ref l)) none := L1.andThen .now
  have L3 : Looks M h (copiedAttributeGuard "append" (.ref l)) () := Looks.of_pure (by kernel_rfl)
  have L4 : Looks M h (dataDescriptor? (some (.builtin "list.append")) (some (.builtin "method_descriptor.__get__"))) none := (Looks.of_pure bm_takes).andThen .now
  unfold find
  refine (Looks.of_pure bm_append).andThen ((Looks.of_pure bm_get).andThen (L4.andThen (L2.andThen (L3.andThen ?_))))
  exact Looks.tag .now
theorem bm_sub : isSubtype (.type "list") (.type (".".intercalate ("list.append".cutAt '.').dropLast)) = pure true := by kernel_rfl
theorem bm_key {h : Heap} {gs : Array GenState} {d : Drawn} {tk : Nat} {os : OsState} {Q : PySem.Fin → Shared → Prop} (hx : h.get? l = some (listOf its n)) (hq : Q (.done (.ret (.ref h.objs.size))) ⟨h.push (bndObj l), gs, d, tk, os⟩) :
    wpAny (model prog w) A (Builtin.«method_descriptor.__get__» ⟨[.builtin "list.append", .ref l, .type "list"], []⟩) Q E ⟨h, gs, d, tk, os⟩ := by
  wp_walk
  show wpAny _ _ (isSubtype (.type "list") _) _ _ _
  rw [bm_sub]
  refine wpAny_pure (wpAny_pure (wpAny_bind ?_))
  exact wpAny_newObj_type (wpAny_pure hq)
theorem bm_getattr {ex : Bool} {Q : Value → Shared → Prop} (F : Fr h₀ L s.heap m) (N : News h₀ L s.heap news) (hm : (l, listOf its n) ∈ news)
    (h : ∀ b h' tk, Fr h₀ L h' m → News h₀ L h' ((b, bndObj l) :: news) → (∀ p ∈ news, p.1 < b) → Q (.ref b) { s with heap := h', toks := tk }) :
    wpAny (model prog w) A (getAttr (.ref l) "append" ex) Q E s := by
  have hx : s.heap.get? l = some (listOf its n) := N.get hm
  have T : Looks (model prog w) s.heap (typeOf (.ref l)) (.type "list") := (Looks.ld hx).andThen .now
  refine wpAny_bind (wpAny_mkText ?_)
  refine wpAny_holding (wpAny_bind (T _ _ _ _ (fun _ _ e => e) (wpAny_bind ?_)))
  rw [PySem.F.slot_list_getattribute.lookup]
  refine wpAny_pure ?_
  show wpAny _ _ (getAttrByItsOwn _ _ _ _ _ _) _ _ _
  unfold getAttrByItsOwn
  refine wpAny_bind (wpAny_pure (wpAny_bind (wpAny_attempt (wpAny_holding ?_))))
  have hc : callGetattribute (.ref l) (.str "append" s.toks) (.builtin "list.__getattribute__") ex = boundAndCalled (.builtin "list.__getattribute__") (.ref l) (.str "append" s.toks) := by
    unfold callGetattribute
    rw [show onTheHeap (.builtin "list.__getattribute__") = false from rfl, Bool.and_false]; rfl
  rw [hc]
  unfold boundAndCalled
  rw [PySem.F.slot_list_getattribute.bind]
  refine wpAny_bind (wpAny_pure (wpAny_call ?_))
  refine codeAny_call_builtin PySem.F.slot_list_getattribute.plain am_entry_list_getattribute (PySem.F.slot_list_getattribute.check _ _ _ _ _ _ _ _ ⟨_, hx, rfl⟩ (by unfold argsOk; kernel_rfl) ?_)
  show wpAny _ _ (Builtin.«object.__getattribute__» ⟨[.ref l, .str "append" s.toks], []⟩) _ _ _
  unfold Builtin.«object.__getattribute__»
  refine wpAny_bind (wpAny_pure (wpAny_bind (wpAny_pure (wpAny_bind (T _ _ _ _ (fun _ _ e => e) (wpAny_bind (bm_find hx _ _ _ _ (fun _ _ e => e) ?_)))))))
  show wpAny _ _ (bindTo (.builtin "method_descriptor.__get__") (.builtin "list.append") (.ref l) (.type "list")) _ _ _
  unfold bindTo
  refine wpAny_bind (wpAny_holding (wpAny_call ?_))
  refine codeAny_call_builtin bm_slot.plain bm_entry (bm_slot.check _ _ _ _ _ _ _ _ (by show typeOf _ = _; exact bm_type) (bm_args _ _ _) ?_)
  refine bm_key hx ?_
  exact wpAny_pure (wpAny_pure (h _ _ _ (F.push _) (News.push F N _) fun p hp => Heap.lt_size (N p hp).1))

theorem bm_args2 (a x : Value) : (match Manifest.signature? "list.append" with | some sig => Bind.checkArgs "list.append" { sig with full := s!"{Bind.lastOf "list"}.{Bind.lastOf "list.append"}" } ⟨[a, x], []⟩ | none => pure ()) = pure () := by kernel_rfl
theorem bm_check {h : Heap} {M : Model} {x : Value} (hx : h.get? l = some (listOf its n)) : Looks M h (checkBoundCall "list.append" ⟨[.ref l, x], []⟩) () := by
  have T : Looks M h (typeOf (.ref l)) (.type "list") := (Looks.ld hx).andThen .now
  have I : Looks M h (isInstance (.ref l) (.type "module")) false := T.andThen (Looks.of_pure (by rw [isSubtype_type]; kernel_rfl))
  have Y : Looks M h (isType (.ref l)) false := (Looks.ld hx).andThen .now
  have e := bm_args2 (.ref l) x
  unfold checkBoundCall
  cases hs : Manifest.signature? "list.append" with
  | none => exact .now
  | some sig =>
    rw [hs] at e
    rw [show builtinKind "list.append" = some .method by decide +kernel]
    dsimp only
    rw [if_neg (by decide)]
    refine I.andThen ?_
    rw [if_neg (by decide +kernel)]
    refine Y.andThen ?_
    rw [if_neg (by decide)]
    refine T.andThen ?_
    exact Looks.of_pure e
theorem bm_call {x : Value} {Q : Value → Shared → Prop} (F : Fr h₀ L s.heap m) (N : News h₀ L s.heap news) (hb : (b, bndObj l) ∈ news) (U : UpdF l (listOf its n) news g) (hz : its.size ≤ 1000)
    (h : ∀ h', Fr h₀ L h' m → News h₀ L h' (g (listOf (its.push x) (n + 1))) → Q .none { s with heap := h' }) :
    wpAny (model prog w) A (call (.ref b) [x]) Q E s := by
  obtain ⟨own, rest, rfl, hg, h1, h2⟩ := U.split
  have hl : s.heap.get? l = some (listOf its n) := N.get (List.mem_append_right _ (.head _))
  have hB : s.heap.get? b = some (bndObj l) := N.get hb
  obtain ⟨U1, U2⟩ := news_upd (f := Obj.mapSeq (·.push x)) F N h1 h2 (mapSeq_push its n x none #[]) rfl
  refine wpAny_call (codeAny_of_tree ?_)
  show wpAny _ A.in1 (callAny (.ref b) ⟨[x], []⟩) _ _ s
  simp only [callAny]
  refine wpAny_bind (wpAny_load hB ?_)
  dsimp only [bndObj]
  rw [if_pos (by decide)]
  show wpAny _ _ (checkBoundCall "list.append" ⟨[.ref l, x], []⟩ >>= fun _ => again (.builtin "list.append" ⟨[.ref l, x], []⟩)) _ _ _
  refine wpAny_bind (bm_check hl _ _ _ _ (fun _ _ e => e) ?_)
  refine wpAny_bind (wpAny_pure (wpAny_pure ⟨plainId_quiet PySem.F.slot_list_append.plain _, ?_⟩))
  refine codeAny_builtin PySem.F.entry_list_append ?_
  show wpAny _ _ (updateSeq l (·.push x) >>= fun _ => ret .none) _ _ s
  refine wpAny_bind ?_
  refine wpAny_updateSeq hl rfl (hz := by rw [sizeLine_eq]; omega) (wpAny_pure ?_)
  exact h _ U1 (hg _ ▸ U2)
end
end Mine
end

section
open PySem PySem.W PyProof.Rows PySem.Calls PySem.Builtin PySem.Builtin.ObjectAttr
namespace Mine
theorem rest_B5b : True ∧ True := by
  (try (walk1; fail "no walk"))
  w_top off
  exact ⟨trivial, trivial⟩
theorem tr_sub : isSubtype (.type "KeyError") (.type "LookupError") = pure true := by rw [isSubtype_type]; kernel_rfl
section
variable {prog : Program} {w : World} {A : Around} {E : Value → Shared → Prop} {s : Shared} {h₀ : Heap} {L l b : Addr} {m : Str → Option Value} {news : List (Addr × Obj)} {t : Tok}
def KeysInt : List DictEntry → Prop
  | [] => True
  | e :: r => (∃ k t, e.key = .int k t ∧ e.hash = hashInt k) ∧ KeysInt r
theorem KeysInt.all : ∀ {l : List DictEntry}, KeysInt l → ∀ e ∈ l, ∃ k t, e.key = .int k t ∧ e.hash = hashInt k
  | _ :: _, ⟨h, _⟩, _, .head _ => h
  | _ :: _, ⟨_, r⟩, _, .tail _ m => r.all _ m
theorem map_of {h : Heap} {d : Addr} {es : List DictEntry} {n : Nat} (e : h.get? d = some (dictOf es n)) (hk : KeysInt es) : h.MapOf (intKind prog w) d (fun k => findBy Value.isInt es.toArray k) :=
  ⟨_, _, n, e, ⟨rfl, rfl, rfl⟩, rfl, fun x hx => by
    obtain ⟨k, t, e1, e2⟩ := hk.all x (by simpa using hx)
    exact ⟨k, by rw [e1]; exact intKind_is prog w k t, e2⟩, fun _ => rfl⟩
theorem tr_look {es : List DictEntry} {n : Nat} {d : Addr} {c : Nat} {Q : Str.Mapped → Shared → Prop} (hd : s.heap.get? d = some (dictOf es n)) (hk : KeysInt es) (hs : (d == sysModules) = false) (hv : findBy Value.isInt es.toArray (c : Int) = none) (hh : A.handled = none)
    (h : ∀ h' tk, Kept [] s.heap h' → Q .keep { s with heap := h', toks := tk }) :
    wpAny (model prog w) A (Str.tableLookup (.ref d) c) Q E s := by
  unfold Str.tableLookup
  refine wpAny_bind (wpAny_attempt (wpAny_bind (wpAny_mkInt ?_)))
  refine wpAny_getItem_missing_of (intKind_is prog w c s.toks) hs hh (map_of hd hk) hv fun h' e NE => ?_
  obtain ⟨ob, t, he, hc, _⟩ := NE.there
  dsimp only
  have T : Looks (model prog w) h' (typeOf (.ref e)) (.type "KeyError") := by rw [← hc]; exact (Looks.ld he).andThen .now
  have I : Looks (model prog w) h' (isInstance (.ref e) (.type "LookupError")) true := T.andThen (Looks.of_pure tr_sub)
  refine wpAny_bind (I _ _ _ _ (fun _ _ e => e) ?_)
  rw [if_pos rfl]
  exact wpAny_bind (wpAny_rule (wpAny_pure (h _ _ fun b o _ e => NE.keeps b o e)))
theorem tr_entry {es : List DictEntry} {n : Nat} {d : Addr} {Q : PySem.Fin → Shared → Prop} (hd : s.heap.get? d = some (dictOf es n)) (hk : KeysInt es) (hs : (d == sysModules) = false) (hv : findBy Value.isInt es.toArray ((47 : Nat) : Int) = none) (hh : A.handled = none)
    (h : ∀ h' tk t', Kept [] s.heap h' → Q (.done (.ret (.str ⟨#[47]⟩ t'))) { s with heap := h', toks := tk }) : wpAny (model prog w) A (Builtin.«str.translate» ⟨[.str ⟨#[47]⟩ t, .ref d], []⟩) Q E s := by
  unfold Builtin.«str.translate»
  refine wpAny_bind (wpAny_pure ?_)
  dsimp only
  rw [if_neg (by decide)]
  simp only [← Array.forIn_toList]
  rw [List.forIn_cons]
  dsimp only
  rw [if_neg (by decide), if_pos (by decide +kernel)]
  dsimp only [List.lookup]
  refine wpAny_bind (wpAny_bind (wpAny_bind (tr_look hd hk hs hv hh fun h' tk K => ?_)))
  refine wpAny_bind (wpAny_pure (wpAny_pure ?_))
  dsimp only
  rw [List.forIn_nil]
  refine wpAny_pure ?_
  dsimp only
  rw [if_neg (by decide)]
  refine wpAny_bind (wpAny_mkStr ?_ ?_)
  · exact wpAny_pure (h h' _ _ K)
  · decide +kernel
theorem tr_slot : Slot "str" "translate" "str.translate" :=
  .of (owner := "str") (n := "translate") (by rw [typeLookup_type, builtinLookup_eq_fast]; kernel_rfl) (by decide +kernel) (by decide +kernel) (by decide +kernel)
    (.inr (by decide +kernel)) (by rw [isSubtype_type]; kernel_rfl)
theorem tr_ent : entryFor table "str.translate" = some Builtin.«str.translate» := entryFor_of_tree (by kernel_rfl)
theorem tr_args (a b : Value) : argsOk "str.translate" ⟨[a, b], []⟩ := by unfold argsOk; kernel_rfl
theorem tr_type : typeOf (.builtin "str.translate") = pure (.type "method_descriptor") := by show builtinType _ = _; rw [builtinType_eq_fast]; kernel_rfl
theorem tr_call {es : List DictEntry} {n : Nat} {d : Addr} {Q : Value → Shared → Prop} (hd : s.heap.get? d = some (dictOf es n)) (hk : KeysInt es) (hs : (d == sysModules) = false) (hv : findBy Value.isInt es.toArray ((47 : Nat) : Int) = none) (hh : A.handled = none)
    (h : ∀ h' tk t', Kept [] s.heap h' → Q (.str ⟨#[47]⟩ t') { s with heap := h', toks := tk }) : wpAny (model prog w) A (call (.builtin "str.translate") [.str ⟨#[47]⟩ t, .ref d]) Q E s := by
  refine wpAny_call ?_
  refine codeAny_call_builtin tr_slot.plain tr_ent (tr_slot.check _ _ _ _ _ _ _ _ (typeIs_str _ _ _) (tr_args _ _) ?_)
  exact tr_entry hd hk hs hv hh fun h' tk t' K => h h' tk t' K
end
end Mine
end

section
open PySem PySem.W PyProof.Rows PySem.Calls PySem.Builtin PySem.Builtin.Re
namespace Mine
theorem rest_B5c : True ∧ True := by
  (try (walk1; fail "no walk"))
  w_top off
  exact ⟨trivial, trivial⟩
/-- the words of the pattern's code, as they lie in the table -/
noncomputable def reWords (P : Params) : Array Nat := match (Mine.hd.heap_39 P).lookup 49 with
  | some ⟨_, _, .seq xs _, _⟩ => (xs.map reRawOf).map (·.toNat)
  | _ => #[]
noncomputable def reTgt (P : Params) (t : Tok) : ReTarget := { pattern := .ref 50, string := .str ⟨#[47]⟩ t, code := reWords P, text := #[47], kind := 0, groups := 1, pos := 0, lim := 1 }
section
variable {prog : Program} {w : World} {A : Around} {E : Value → Shared → Prop} {s : Shared} {h : Heap} {M : Model} {t : Tok} {f : Addr} {fd : FuncData}
theorem re_target (X : (Mine.hd.heap_39 w.params).In h) : Looks M h (reWholeTarget (.ref 50) (.str ⟨#[47]⟩ t)) (reTgt w.params t) := Looks.of_peek X (by kernel_rfl)
theorem re_next (P : Params) : Looks M h (reNextFound (reTgt P t) 0 false) none := Looks.of_peek (K := []) (fun _ _ e => by cases e) (by kernel_rfl)
theorem re_slice1 (P : Params) : reSlice (reTgt P t).text (reTgt P t).kind (Int.toNat 0) (reTgt P t).lim = mkStr ⟨#[47]⟩ := by kernel_rfl
theorem re_slice0 (P : Params) : reSlice (reTgt P t).text (reTgt P t).kind 0 0 = mkStr ⟨#[]⟩ := by kernel_rfl
theorem re_named : reNamed "re.Pattern.sub" "sub" ["repl", "string", "count"] 2 [.ref f, .str ⟨#[47]⟩ t] [] = pure [some (.ref f), some (.str ⟨#[47]⟩ t), none] := by kernel_rfl
theorem re_held : reNotHeld "re.Pattern.sub" (.str ⟨#[47]⟩ t) = pure () := by kernel_rfl
theorem re_callable : typeLookup (.type "function") "__call__" = pure (some (.builtin "function.__call__")) := by rw [typeLookup_type, builtinLookup_eq_fast]; kernel_rfl
theorem re_slot : Slot "re.Pattern" "sub" "re.Pattern.sub" :=
  .of (owner := "re.Pattern") (n := "sub") (by rw [typeLookup_type, builtinLookup_eq_fast]; kernel_rfl) (by decide +kernel) (by decide +kernel) (by decide +kernel)
    (.inr (by decide +kernel)) (by rw [isSubtype_type]; kernel_rfl)
theorem re_ent : entryFor table "re.Pattern.sub" = some Builtin.«re.Pattern.sub» := entryFor_of_tree (by kernel_rfl)
theorem re_ent2 : entryFor table "re.Pattern.sub.loop" = some Builtin.«re.Pattern.sub.loop» := entryFor_of_tree (by kernel_rfl)
theorem re_args (a b c : Value) : argsOk "re.Pattern.sub" ⟨[a, b, c], []⟩ := by unfold argsOk; kernel_rfl
theorem re_type : typeOf (.builtin "re.Pattern.sub") = pure (.type "method_descriptor") := by show builtinType _ = _; rw [builtinType_eq_fast]; kernel_rfl
theorem re_loop {D : Addr} {Q : Result → Shared → Prop} (X : (Mine.hd.heap_39 w.params).In s.heap) (hD : s.heap.get? D = some (listOf #[] 0))
    (hq : ∀ h' tk t', Kept [D] s.heap h' → Q (.ok (.ret (.str ⟨#[47]⟩ t'))) { s with heap := h', toks := tk }) :
    codeAny (model prog w) A (.builtin "re.Pattern.sub.loop" ⟨[.ref 50, .str ⟨#[47]⟩ t, .ref f, rawInt 1, rawInt 0, rawInt 0, rawInt 0, rawInt 0, .bool false, .ref D, .bool false], []⟩) Q s := by
  refine codeAny_builtin re_ent2 ?_
  unfold Builtin.«re.Pattern.sub.loop»
  refine wpAny_bind (re_target X _ _ _ _ (fun _ _ e => e) ?_)
  dsimp only [rawInt]
  rw [if_neg (by decide)]
  refine wpAny_bind ?_
  rw [if_neg (by decide)]
  refine re_next (h := s.heap) w.params _ _ _ _ (fun _ _ e => e) ?_
  dsimp only
  rw [if_pos (show Int.toNat 0 < (reTgt w.params t).lim from Nat.zero_lt_one)]
  rw [re_slice1, re_slice0]
  refine wpAny_bind (wpAny_mkStr ?_ (by decide +kernel))
  refine wpAny_bind (wpAny_updateSeq hD rfl (hz := by decide +kernel) ?_)
  have g1 : (s.heap.update D (Obj.mapSeq fun x => x.push (.str ⟨#[47]⟩ s.toks))).get? D = some (listOf #[.str ⟨#[47]⟩ s.toks] 1) := by
    rw [Heap.get?_update_self _ hD (by rw [mapSeq_push]; rfl), mapSeq_push]; rfl
  refine wpAny_bind (wpAny_mkStr ?_ (by decide +kernel))
  refine wpAny_bind (wpAny_bind (wpAny_loadPart g1 ?_))
  refine wpAny_pure ?_
  rw [if_neg (by simp)]
  refine wpAny_bind ?_
  rw [show (if ((reTgt w.params t).kind == 0) = true then "str.join" else "bytes.join") = "str.join" from rfl]
  refine join_list (ys := [⟨#[47]⟩]) ⟨_, g1, rfl, 1, rfl⟩ (.cons _ _ .nil) (by decide +kernel) fun t' k => ?_
  rw [if_neg (by decide)]
  refine wpAny_pure ?_
  have e : Txt.join ⟨#[]⟩ [⟨#[47]⟩] = ⟨#[47]⟩ := by decide +kernel
  rw [e]
  refine hq _ _ _ fun b o hb e => ?_
  exact (Heap.get?_update_ne _ _ _ _ (by simpa using hb)).trans e
theorem re_pat {h : Heap} (X : (Mine.hd.heap_39 w.params).In h) : ∃ o, h.get? 50 = some o ∧ o.cls = .type "re.Pattern" := by
  have e : ((Mine.hd.heap_39 w.params).lookup 50).map (·.cls) = some (.type "re.Pattern") := by kernel_rfl
  obtain ⟨o, ho, hc⟩ := Option.map_eq_some_iff.mp e
  exact ⟨o, X _ _ ho, hc⟩
theorem re_call {Q : Value → Shared → Prop} (X : (Mine.hd.heap_39 w.params).In s.heap) (hf : s.heap.get? f = some ⟨.type "function", none, .func fd, #[]⟩)
    (hq : ∀ h' tk t', Kept [] s.heap h' → Q (.str ⟨#[47]⟩ t') { s with heap := h', toks := tk }) :
    wpAny (model prog w) A (call (.builtin "re.Pattern.sub") [.ref 50, .ref f, .str ⟨#[47]⟩ t]) Q E s := by
  have T : Looks (model prog w) s.heap (typeOf (.ref f)) (.type "function") := (Looks.ld hf).andThen .now
  have C : Looks (model prog w) s.heap (specialOf (.ref f) "__call__") (some (.builtin "function.__call__")) := T.andThen (Looks.of_pure re_callable)
  refine wpAny_call ?_
  refine codeAny_call_builtin re_slot.plain re_ent (re_slot.check _ _ _ _ _ _ _ _ (re_pat X) (re_args _ _ _) ?_)
  unfold Builtin.«re.Pattern.sub» reSubstitute
  dsimp only
  rw [re_named]
  refine wpAny_bind (wpAny_pure ?_)
  refine wpAny_bind (wpAny_pure ?_)
  refine wpAny_bind (C.here ?_)
  rw [if_pos (by decide)]
  refine wpAny_bind (wpAny_pure ?_)
  rw [Option.isSome_some, if_pos rfl]
  refine wpAny_bind (wpAny_pure ?_)
  refine wpAny_bind (wpAny_holding (re_target X _ _ _ _ (fun _ _ e => e) ?_))
  dsimp only
  rw [if_pos (by decide), re_held]
  refine wpAny_bind (wpAny_pure (wpAny_bind ?_))
  refine wpAny_newObj_type ?_
  refine wpAny_pure ⟨plainId_quiet (by decide +kernel) _, ?_⟩
  have hD : (s.heap.push { cls := .type "list", dict := none, data := .seq ([] : List Value).toArray }).get? s.heap.objs.size = some (listOf #[] 0) := Heap.get?_push_size _ rfl
  refine re_loop (s := { s with heap := s.heap.push { cls := .type "list", dict := none, data := .seq ([] : List Value).toArray } }) (X.keeps fun b o e => Heap.get?_push_of_some _ e) hD fun h' tk t' k => ?_
  refine hq h' tk t' fun b o _ e => k b o ?_ (Heap.get?_push_of_some _ e)
  exact fun hb => Nat.lt_irrefl _ (List.mem_singleton.mp hb ▸ Heap.lt_size e)
end
end Mine
end

section
open PySem PySem.W PyProof.Rows PySem.Calls
namespace Mine
theorem rest_B5 : True ∧ True := by
  (try (walk1; fail "no walk"))
  w_top off
  exact ⟨trivial, trivial⟩
def BndAt (q l : Addr) (h : Heap) : Prop := h.get? q = some (bndObj l)
section
variable {prog : Program} {w : World} {M : Model} {A : Around} {E : Value → Shared → Prop} {s : Shared} {env : Env} {pos : Pos} {first : List Value} {Q : Value → Shared → Prop} {q l L f : Addr} {h₀ : Heap} {m : Str → Option Value} {news : List (Addr × Obj)} {x : Str} {t : Tok} {fd : FuncData}
theorem keeps_B (h : Heap) (X : BndAt q l h) : ∃ k, (k = Keeper.frame ∨ k = Keeper.machine ∨ k = Keeper.boundFrame) ∧ Looks M h (keeperOf (.ref q)) k := ⟨.machine, .inr (.inl rfl), (Looks.ld (part := none) X).andThen .now⟩
theorem callWith_B {e : PySem.Expr} {rest : List PySem.Expr} (_X : BndAt q l s.heap) (h : wpAny M A (spliced (backTo pos (starEach (e :: rest) env))) (fun vs s₁ => BndAt q l s₁.heap ∧ wpAny M A (call (.ref q) (first ++ vs)) Q E s₁) E s)
    (he : starEach (e :: rest) env = (false, eval e env) :: starEach rest env := by rfl) (hplain : (backTo pos (starEach rest env)).any (·.1) = false := by rfl) :
    wpAny M A (callWith pos (.ref q) first (backTo pos (starEach (e :: rest) env)) []) Q E s := by
  rw [he] at h ⊢
  exact callWith_of (by show ((false || (backTo pos (starEach rest env)).any (·.1)) || false) = false; rw [hplain]; rfl) keeps_B (evalArgs_plain h)
theorem lit_item {value slice : PySem.Expr} {i : Int} {u : Tok} {c : Nat} (hc : Txt.charAt x i = some c) (h : ∀ t', Q (.str ⟨#[c]⟩ t') { s with toks := s.toks + 1 })
    (hr : fitsSsize i = true) (h1 : -(x.length : Int) ≤ i) (h2 : i < x.length)
    (hs : subscripted slice false (.str x t) (.int i u) = operate [.str x t, .int i u] (getItem (.str x t) (.int i u)) := by with_unfolding_all rfl)
    (ht : ∀ r, letTemporaryGo value (.str x t) r = pure () := by intro _; with_unfolding_all rfl) :
    wpAny (model prog w) A (subscriptTail value slice (.str x t) (.int i u)) Q E s := by
  refine item_str hr h1 h2 (fun _ => ?_) hs ht
  have e : Txt.item x i = ⟨#[c]⟩ := by unfold Txt.item; rw [hc]; rfl
  rw [e]; exact h _
theorem tr_get {h : Heap} (X : (Mine.hd.heap_39 w.params).In h) : ∃ es n, h.get? 52 = some (dictOf es n) ∧ KeysInt es ∧ findBy Value.isInt es.toArray ((47 : Nat) : Int) = none := by
  refine ⟨_, _, X 52 (dictOf _ _) (by rfl), ?_, ?_⟩
  · repeat' (first | exact trivial | refine ⟨⟨_, _, rfl, by decide +kernel⟩, ?_⟩)
  · decide +kernel
theorem tr_rule {Q : Value → Shared → Prop} (X : (Mine.hd.heap_39 w.params).In h₀) (F : Fr h₀ L s.heap m) (N : News h₀ L s.heap news) (e : x = ⟨#[47]⟩) (hh : A.handled = none)
    (h : ∀ h' tk t', Fr h₀ L h' m → News h₀ L h' news → Q (.str ⟨#[47]⟩ t') { s with heap := h', toks := tk }) : wpAny (model prog w) A (call (.builtin "str.translate") [.str x t, .ref 52]) Q E s := by
  subst e
  obtain ⟨es, n, h1, h2, h3⟩ := tr_get (X.keeps F.keep)
  exact tr_call h1 h2 (by decide) h3 hh fun h' tk t' K => h h' tk t' (K.fr (news := []) F News.nil rfl) (K.news N fun _ _ hm => nomatch hm)
theorem re_rule {Q : Value → Shared → Prop} (X : (Mine.hd.heap_39 w.params).In h₀) (F : Fr h₀ L s.heap m) (N : News h₀ L s.heap news) (hm : (f, (⟨.type "function", none, .func fd, #[]⟩ : Obj)) ∈ news) (e : x = ⟨#[47]⟩)
    (h : ∀ h' tk t', Fr h₀ L h' m → News h₀ L h' news → Q (.str ⟨#[47]⟩ t') { s with heap := h', toks := tk }) : wpAny (model prog w) A (call (.builtin "re.Pattern.sub") [.ref 50, .ref f, .str x t]) Q E s := by
  subst e
  exact re_call (X.keeps F.keep) (N.get hm) fun h' tk t' K => h h' tk t' (K.fr (news := []) F News.nil rfl) (K.news N fun _ _ hm => nomatch hm)
theorem re_getslot : Slot "re.Pattern" "__getattribute__" "object.__getattribute__" :=
  .of (owner := "object") (n := "__getattribute__") (by rw [typeLookup_type, builtinLookup_eq_fast]; kernel_rfl) (by decide +kernel) (by decide +kernel) (by decide +kernel)
    (.inl (by decide +kernel)) (by rw [isSubtype_type]; kernel_rfl)
theorem re_nogetattr : typeLookup (.type "re.Pattern") "__getattr__" = pure none := by rw [typeLookup_type, builtinLookup_eq_fast]; kernel_rfl
theorem re_patD {h : Heap} (X : (Mine.hd.heap_39 w.params).In h) : ∃ o, h.get? 50 = some o ∧ o.cls = .type "re.Pattern" ∧ o.dict = none := by
  have e : ((Mine.hd.heap_39 w.params).lookup 50).map (fun o => (o.cls, o.dict)) = some (.type "re.Pattern", none) := by kernel_rfl
  obtain ⟨o, ho, hc⟩ := Option.map_eq_some_iff.mp e
  exact ⟨o, X _ _ ho, (Prod.mk.inj hc).1, (Prod.mk.inj hc).2⟩
theorem re_method {pl : Sem Bool} {Q : Value × List Value → Shared → Prop} (X : (Mine.hd.heap_39 w.params).In h₀) (F : Fr h₀ L s.heap m) (h : Q (.builtin "re.Pattern.sub", [.ref 50]) s) :
    wpAny (model prog w) A (getMethod (.ref 50) "sub" pl) Q E s := by
  obtain ⟨o, ho, hc, hd⟩ := re_patD (X.keeps F.keep)
  have T : Looks (model prog w) s.heap (typeOf (.ref 50)) (.type "re.Pattern") := by rw [← hc]; exact (Looks.ld ho).andThen .now
  have S1 : Looks (model prog w) s.heap (specialOf (.ref 50) "__getattribute__") (some (.builtin "object.__getattribute__")) := T.andThen (Looks.of_pure re_getslot.lookup)
  have S2 : Looks (model prog w) s.heap (specialOf (.ref 50) "__getattr__") none := T.andThen (Looks.of_pure re_nogetattr)
  have S3 : Looks (model prog w) s.heap (specialOf (.ref 50) "sub") (some (.builtin "re.Pattern.sub")) := T.andThen (Looks.of_pure re_slot.lookup)
  unfold getMethod
  refine wpAny_bind (S1.here ?_)
  dsimp only
  rw [if_neg (by decide +kernel)]
  refine wpAny_bind (S2.here ?_)
  rw [if_neg (by decide)]
  refine wpAny_bind (S3.here ?_)
  refine wpAny_bind ((Looks.of_pure re_type).here ?_)
  rw [if_neg (by decide)]
  refine wpAny_bind (wpAny_loadPart ho ?_)
  rw [hd]
  exact wpAny_bind (wpAny_rule (wpAny_pure h))
end
local macro_rules | `(tactic| walk_at "BndAt") => `(tactic| (k_dflt (exact News.get (by k_asm) (by k_mem))))
local macro_rules | `(tactic| walk_at "compareOp IsNot") => `(tactic| (k_here; (with_reducible show wpAny _ _ (compareOp CmpOp.IsNot (Value.str _ _) (Value.ref _)) _ _ _); refine wpAny_isNot_other (by rfl) (by intro x; cases x) ?_))
local macro_rules | `(tactic| walk_at "compareOp IsNot") => `(tactic| (k_here; (with_reducible show wpAny _ _ (compareOp CmpOp.IsNot (Value.ref _) (Value.ref _)) _ _ _); k_dflt (refine wpAny_isNot_ref_self ?_)))
local macro_rules | `(tactic| walk_at "getAttr ref") => `(tactic| (k_here; (with_reducible show wpAny _ _ (getAttr (Value.ref _) (PySem.Str.ofString "append") _) _ _ _); k_dflt (refine' bm_getattr ?F ?N ?m ?_; (case F => k_asm); (case N => k_asm); (case m => k_mem); k_whole); intro b' h' tk' F' N' l1; (try k_lt l1)))
local macro_rules | `(tactic| walk_at "callWith ref") => `(tactic| (k_here; k_dflt (refine' callWith_B ?X ?_; (case X => exact News.get (by k_asm) (by k_mem)); k_whole)))
local macro_rules | `(tactic| walk_at "And") => `(tactic| ((with_reducible show BndAt _ _ _ ∧ _); refine ⟨News.get (by k_asm) (by k_mem), ?_⟩; try dsimp only [List.nil_append, List.cons_append]))
local macro_rules | `(tactic| walk_at "call ref") => `(tactic| (k_here; k_dflt (refine' bm_call ?F ?N ?b ?U ?z ?_; (case F => k_asm); (case N => k_asm); (case b => k_mem); (case U => k_updF); (case z => exact Nat.le_of_ble_eq_true rfl); k_whole); intro h' F' N'; (try dsimp only at N')))
local macro_rules | `(tactic| walk_at "call builtin:str.translate") => `(tactic| (k_here; k_dflt (refine' tr_rule ?X ?F ?N ?e ?h ?_; (case X => k_asm); (case F => k_asm); (case N => k_asm); (case e => first | rfl | decide +kernel); (case h => rfl); k_whole); intro h' tk' t' F' N'))
local macro_rules | `(tactic| walk_at "call builtin:re.Pattern.sub") => `(tactic| (k_here; k_dflt (refine' re_rule ?X ?F ?N ?m ?e ?_; (case X => k_asm); (case F => k_asm); (case N => k_asm); (case m => k_mem); (case e => first | rfl | decide +kernel); k_whole); intro h' tk' t' F' N'))
local macro_rules | `(tactic| walk_at "getMethod ref") => `(tactic| (k_here; (with_reducible show wpAny _ _ (getMethod (Value.ref 50) _ _) _ _ _); k_dflt (refine' re_method ?X ?F ?_; (case X => k_asm); (case F => k_asm); k_whole)))
local macro_rules | `(tactic| walk_at "getMethod str") => `(tactic| (k_here; (with_reducible show wpAny _ _ (getMethod (Value.str _ _) (PySem.Str.ofString "translate") _) _ _ _); k_dflt (refine' getMethod_builtin ?T PySem.F.plainAttrs_str tr_slot tr_type ?d ?_; (case T => exact typeIs_str _ _ _); (case d => exact (fun _ e => nomatch e)); k_whole)))
local macro_rules | `(tactic| walk_at "subscriptTail Name Name str int") => `(tactic| (k_here; k_dflt (refine' lit_item ?e ?_ ?r ?l1 ?l2; (case e => first | rfl | decide +kernel); (case r => decide +kernel); (case l1 => decide +kernel); (case l2 => decide +kernel); k_whole); intro t'))
local macro_rules | `(tactic| k_room) => `(tactic| ktr_room)
/-- what _translate gives for one of the first and the third glob -/
abbrev RTr (x : Str) (star : Addr) : Ret2 := fun s Q => ∀ D h' tk t1 t2 n, s.heap.get? D = none → Kept [] s.heap h' → h'.get? D = some (listOf #[.str x t1, .ref star, .str x t2] n) → Q (.ref D) { s with heap := h', toks := tk }
set_option maxHeartbeats 8000000 in
theorem tr1_spec {w : World} {p : Program} {loose : List Str} {mean : ExcName → Option Value} {mg mb : Str → Option Value} (t t2 : Tok) (a : Addr) :
    Spec2 w p loose mean mg mb 3 20 69 [.str (Str.ofString "/*/") t, .ref a, .str (Str.ofString ".") t2] [] (fun _ => True) (RTr (Str.ofString "/") a) := by
  unfold Spec2
  k_fill
  intros
  rename_i hpre hret
  refine wpAny_call ?_
  k_dflt (refine' enterP (binds := [(Str.ofString "pat", .str (Str.ofString "/*/") t), (Str.ofString "STAR", .ref a), (Str.ofString "QUESTION_MARK", .str (Str.ofString ".") t2)]) ?k1 ?k2 ?k3 ?k4 ?k5 ?kA ?kF ?kK ?k6 ?k7 ?k8 ?k9 ?kB ?_ ?c2 ?c3 ?c4 ?c5; (case kA => exact rfl); (case kF => exact rfl); (case kK => assumption); (case k1 => k_asm); (case k2 => k_asm); (case k3 => k_asm); (case k4 => k_asm); (case k5 => k_asm); (case k6 => k_is); (case k7 => k_is); (case k8 => ktr_room); (case k9 => exact BindsTo.of_eq rfl); (case c5 => decide); (case kB => exact locs rfl); (case c2 => exact rfl); (case c3 => exact rfl); (case c4 => exact rfl); k_whole; intro g' L' h' kg kh hsz FG' F' N' B' X' T' l1; (try k_lt l1); (try dsimp only); (try k_lift B'); (try k_fold))
  k_steps
  have hk : Kept [] _ _ := fun b o hb e => (by assumption : Fr g' L' _ _).keep b o (kg b o hb e)
  rename News g' L' _ _ => kN
  refine' hret _ _ _ _ _ _ (kg_none kg (kN _ ?mem).2.2) hk (News.get kN ?mem)
  case mem => k_mem
set_option maxHeartbeats 8000000 in
theorem tr3_spec {w : World} {p : Program} {loose : List Str} {mean : ExcName → Option Value} {mg mb : Str → Option Value} (t t2 : Tok) (a : Addr) :
    Spec2 w p loose mean mg mb 3 20 69 [.str (Str.ofString "/***/") t, .ref a, .str (Str.ofString ".") t2] [] (fun _ => True) (RTr (Str.ofString "/") a) := by
  unfold Spec2
  k_fill
  intros
  rename_i hpre hret
  refine wpAny_call ?_
  k_dflt (refine' enterP (binds := [(Str.ofString "pat", .str (Str.ofString "/***/") t), (Str.ofString "STAR", .ref a), (Str.ofString "QUESTION_MARK", .str (Str.ofString ".") t2)]) ?k1 ?k2 ?k3 ?k4 ?k5 ?kA ?kF ?kK ?k6 ?k7 ?k8 ?k9 ?kB ?_ ?c2 ?c3 ?c4 ?c5; (case kA => exact rfl); (case kF => exact rfl); (case kK => assumption); (case k1 => k_asm); (case k2 => k_asm); (case k3 => k_asm); (case k4 => k_asm); (case k5 => k_asm); (case k6 => k_is); (case k7 => k_is); (case k8 => ktr_room); (case k9 => exact BindsTo.of_eq rfl); (case c5 => decide); (case kB => exact locs rfl); (case c2 => exact rfl); (case c3 => exact rfl); (case c4 => exact rfl); k_whole; intro g' L' h' kg kh hsz FG' F' N' B' X' T' l1; (try k_lt l1); (try dsimp only); (try k_lift B'); (try k_fold))
  k_steps
  have hk : Kept [] _ _ := fun b o hb e => (by assumption : Fr g' L' _ _).keep b o (kg b o hb e)
  rename News g' L' _ _ => kN
  refine' hret _ _ _ _ _ _ (kg_none kg (kN _ ?mem).2.2) hk (News.get kN ?mem)
  case mem => k_mem
end Mine
end

section
open PySem PySem.W PyProof.Rows PySem.Calls
namespace Mine
theorem rest_B5t : True ∧ True := by
  (try (walk1; fail "no walk"))
  w_top off
  exact ⟨trivial, trivial⟩
/-- what _translate gives for the second glob -/
abbrev RTr2 (x : Str) (star : Addr) : Ret2 := fun s Q => ∀ D h' tk t1 t2 n ps, s.heap.get? D = none → Kept [64] s.heap h' → h'.get? 64 = some (tabObj ps) → h'.get? D = some (listOf #[.str x t1, .ref star, .str x t2] n) → Q (.ref D) { s with heap := h', toks := tk }
section
variable {prog : Program} {w : World} {A : Around} {E : Value → Shared → Prop} {s : Shared} {Q : Value → Shared → Prop} {x y z r : Str} {t u v : Tok}
theorem lit_notIn (e : Txt.contains x y = false) (h : Q (.bool true) s) : wpAny (model prog w) A (compareOp .NotIn (.str y u) (.str x t)) Q E s :=
  P.notIn_str (by show Q (.bool (!Txt.contains x y)) s; rw [e]; exact h)
theorem lit_replace (e : (Builtin.Str.occurrences x y 0 x.length (x.length + 1)).isEmpty = true) (h : Q (.str x t) s) : wpAny (model prog w) A (call (.builtin "str.replace") [.str x t, .str y u, .str z v]) Q E s := by
  refine call_gives F.slot_str_replace (typeIs_str _ _ _) F.entry_str_replace (F.args_str_replace_3 _ _ _) (gives_str_replace x y z t u v fun hf => ?_) ?_
  · rw [e] at hf; cases hf
  · rw [if_pos (by rw [e]; rfl)]
    exact h
end
local macro_rules | `(tactic| walk_at "BndAt") => `(tactic| (k_dflt (exact News.get (by k_asm) (by k_mem))))
local macro_rules | `(tactic| walk_at "compareOp IsNot") => `(tactic| (k_here; (with_reducible show wpAny _ _ (compareOp CmpOp.IsNot (Value.str _ _) (Value.ref _)) _ _ _); refine wpAny_isNot_other (by rfl) (by intro x; cases x) ?_))
local macro_rules | `(tactic| walk_at "compareOp IsNot") => `(tactic| (k_here; (with_reducible show wpAny _ _ (compareOp CmpOp.IsNot (Value.ref _) (Value.ref _)) _ _ _); k_dflt (refine wpAny_isNot_ref_self ?_)))
local macro_rules | `(tactic| walk_at "getAttr ref") => `(tactic| (k_here; (with_reducible show wpAny _ _ (getAttr (Value.ref _) (PySem.Str.ofString "append") _) _ _ _); k_dflt (refine' bm_getattr ?F ?N ?m ?_; (case F => k_asm); (case N => k_asm); (case m => k_mem); k_whole); intro b' h' tk' F' N' l1; (try k_lt l1)))
local macro_rules | `(tactic| walk_at "callWith ref") => `(tactic| (k_here; k_dflt (refine' callWith_B ?X ?_; (case X => exact News.get (by k_asm) (by k_mem)); k_whole)))
local macro_rules | `(tactic| walk_at "And") => `(tactic| ((with_reducible show BndAt _ _ _ ∧ _); refine ⟨News.get (by k_asm) (by k_mem), ?_⟩; try dsimp only [List.nil_append, List.cons_append]))
local macro_rules | `(tactic| walk_at "call ref") => `(tactic| (k_here; k_dflt (refine' bm_call ?F ?N ?b ?U ?z ?_; (case F => k_asm); (case N => k_asm); (case b => k_mem); (case U => k_updF); (case z => exact Nat.le_of_ble_eq_true rfl); k_whole); intro h' F' N'; (try dsimp only at N')))
local macro_rules | `(tactic| walk_at "call builtin:str.translate") => `(tactic| (k_here; k_dflt (refine' tr_rule ?X ?F ?N ?e ?h ?_; (case X => k_asm); (case F => k_asm); (case N => k_asm); (case e => first | rfl | decide +kernel); (case h => rfl); k_whole); intro h' tk' t' F' N'))
local macro_rules | `(tactic| walk_at "call builtin:re.Pattern.sub") => `(tactic| (k_here; k_dflt (refine' re_rule ?X ?F ?N ?m ?e ?_; (case X => k_asm); (case F => k_asm); (case N => k_asm); (case m => k_mem); (case e => first | rfl | decide +kernel); k_whole); intro h' tk' t' F' N'))
local macro_rules | `(tactic| walk_at "getMethod ref") => `(tactic| (k_here; (with_reducible show wpAny _ _ (getMethod (Value.ref 50) _ _) _ _ _); k_dflt (refine' re_method ?X ?F ?_; (case X => k_asm); (case F => k_asm); k_whole)))
local macro_rules | `(tactic| walk_at "getMethod str") => `(tactic| (k_here; (with_reducible show wpAny _ _ (getMethod (Value.str _ _) (PySem.Str.ofString "translate") _) _ _ _); k_dflt (refine' getMethod_builtin ?T PySem.F.plainAttrs_str tr_slot tr_type ?d ?_; (case T => exact typeIs_str _ _ _); (case d => exact (fun _ e => nomatch e)); k_whole)))
local macro_rules | `(tactic| walk_at "subscriptTail Name Name str int") => `(tactic| (k_here; k_dflt (refine' lit_item ?e ?_ ?r ?l1 ?l2; (case e => first | rfl | decide +kernel); (case r => decide +kernel); (case l1 => decide +kernel); (case l2 => decide +kernel); k_whole); intro t'))
local macro_rules | `(tactic| k_room) => `(tactic| ktr_room)
local macro_rules | `(tactic| walk_at "compareOp NotIn str str") => `(tactic| (k_here; (with_reducible show wpAny _ _ (compareOp CmpOp.NotIn (Value.str _ _) (Value.str _ _)) _ _ _); k_dflt (refine' lit_notIn ?e ?_; (case e => decide +kernel); k_whole)))
local macro_rules | `(tactic| walk_at "call builtin:str.replace") => `(tactic| (k_here; k_dflt (refine' lit_replace ?e ?_; (case e => decide +kernel); k_whole)))
set_option maxHeartbeats 8000000 in
theorem tr2_spec {w : World} {p : Program} {loose : List Str} {mean : ExcName → Option Value} {mg mb : Str → Option Value} (t t2 : Tok) (a : Addr) :
    Spec2 w p loose mean mg mb 3 20 69 [.str (Str.ofString "[/]*[/]") t, .ref a, .str (Str.ofString ".") t2] [(64, tabObj #[])] (fun _ => True) (RTr2 (Str.ofString "[/]") a) := by
  unfold Spec2
  k_fill
  intros
  rename_i hpre hret
  refine wpAny_call ?_
  k_dflt (refine' enterP (binds := [(Str.ofString "pat", .str (Str.ofString "[/]*[/]") t), (Str.ofString "STAR", .ref a), (Str.ofString "QUESTION_MARK", .str (Str.ofString ".") t2)]) ?k1 ?k2 ?k3 ?k4 ?k5 ?kA ?kF ?kK ?k6 ?k7 ?k8 ?k9 ?kB ?_ ?c2 ?c3 ?c4 ?c5; (case kA => exact rfl); (case kF => exact rfl); (case kK => assumption); (case k1 => k_asm); (case k2 => k_asm); (case k3 => k_asm); (case k4 => k_asm); (case k5 => k_asm); (case k6 => k_is); (case k7 => k_is); (case k8 => ktr_room); (case k9 => exact BindsTo.of_eq rfl); (case c5 => decide); (case kB => exact locs rfl); (case c2 => exact rfl); (case c3 => exact rfl); (case c4 => exact rfl); k_whole; intro g' L' h' kg kh hsz FG' F' N' B' X' T' l1; (try k_lt l1); (try dsimp only); (try k_lift B'); (try k_fold))
  k_steps
  have hk : Kept [64] _ _ := fun b o hb e => (by assumption : Fr g' L' _ _).keep b o (kg b o hb e)
  rename News g' L' _ _ => kN
  refine' hret _ _ _ _ _ _ _ (kg_off kg (kN (_, _) ?mem).2.2 ?off) hk (News.get kN ?m64) (News.get kN ?mem)
  case mem => k_mem
  case m64 => k_mem
  case off => intro h; first | exact absurd (List.mem_singleton.mp h) (by k_ne) | exact absurd (List.mem_singleton.mp h).symm (by k_ne)
end Mine
end

section
open PySem PySem.W PyProof.Rows PySem.Calls
namespace Mine
theorem rest_B6a : True ∧ True := by
  (try (walk1; fail "no walk"))
  w_top off
  exact ⟨trivial, trivial⟩
section
variable {prog : Program} {w : World} {A : Around} {E : Value → Shared → Prop} {s : Shared} {h₀ : Heap} {L : Addr} {m : Str → Option Value} {env : Env}
/-- the turns of a comprehension with one test, by what holds of the items that were kept -/
theorem rest_ind {ct elt : PySem.Expr} {x : Str} {scope : Scope} {cl : List (Str × Addr)} {S : List (Addr × Obj) → Prop} {P : Nat → Value → Prop} {Fin : List Value → List (Addr × Obj) → Prop} {news : List (Addr × Obj)} {n : Nat} (Inv : Nat → List Value → Prop) (hS : S news) (h0 : Inv 0 [])
    (step : ∀ i ys, i < n → Inv i ys → ∀ v I oI C oC D m₂ h tk (E' : Value → Shared → Prop), P i v → LCg.NsObj oC m₂ → m₂ x = some v → Fr h₀ L h m → News h₀ L h ((I, oI) :: (C, oC) :: (D, LCg.lst ys) :: news) → LCg.Off3 I C D news → ((@Ne Nat I C) ∧ (@Ne Nat I D) ∧ (@Ne Nat C D)) →
      wpAny (model prog w) A (isTrue ct (compEnvC scope cl C env) (eval ct (compEnvC scope cl C env))) (fun ok s' => if ok = true then
        wpAny (model prog w) A (eval elt (compEnvC scope cl C env)) (fun y => TurnEnd h₀ L m { s with heap := h, toks := tk } ((I, oI) :: (C, oC) :: (D, LCg.lst ys) :: news) (Inv (i + 1) (ys ++ [y]))) E' s'
        else TurnEnd h₀ L m { s with heap := h, toks := tk } ((I, oI) :: (C, oC) :: (D, LCg.lst ys) :: news) (Inv (i + 1) ys) s') E' { s with heap := h, toks := tk })
    (fin : ∀ ys, Inv n ys → Fin ys news) : LCt.CompRestT prog w A h₀ L m env ct elt x scope cl s S P Fin n 0 [] news := by
  suffices H : ∀ k i ys, i + k = n → Inv i ys → LCt.CompRestT prog w A h₀ L m env ct elt x scope cl s S P Fin k i ys news from H n 0 [] (Nat.zero_add n) h0
  intro k
  induction k with
  | zero => intro i ys e hI; exact fin ys (by rw [← e]; exact hI)
  | succ k ih =>
    intro i ys e hI
    refine LCt.CompRestT.succ fun v I oI C oC D m₂ h tk E' hv hC hx F N off ne => ?_
    refine wpAny_mono (step i ys (by omega) hI v I oI C oC D m₂ h tk E' hv hC hx F N off ne) (fun ok s' h' => ?_) fun _ _ e => e
    cases ok with
    | true =>
      simp only [if_true] at h' ⊢
      exact wpAny_mono h' (fun y s₂ h₂ => h₂.comp off hS fun hJ => ih (i + 1) _ (by omega) hJ) fun _ _ e => e
    | false =>
      simp only [Bool.false_eq_true, if_false] at h' ⊢
      exact h'.comp off hS fun hJ => ih (i + 1) _ (by omega) hJ
theorem range_src {ct elt : PySem.Expr} {x : Str} {scope : Scope} {cl : List (Str × Addr)} {Fin : Shared → List Value → List (Addr × Obj) → Prop} {n : Int} {t : Tok} {news : List (Addr × Obj)} (hh : A.handled = none) (F : Fr h₀ L s.heap m) (N : News h₀ L s.heap news)
    (h0 : 0 ≤ n) (h1 : n ≤ 1000)
    (h : ∀ (k : Nat) g tk, n = (k : Int) → LCt.CompRestT prog w A h₀ L m env ct elt x scope cl { s with heap := g, toks := tk } (fun _ => True) (fun i v => ∃ t, v = .int ((0 : Int) + (i : Int)) t) (Fin { s with heap := g, toks := tk }) k 0 [] news) :
    wpAny (model prog w) A (call (.type "range") [.int n t]) (LCt.CompSrcT prog w A h₀ L m env ct elt x scope cl Fin) E s := by
  obtain ⟨k, rfl⟩ : ∃ k : Nat, n = (k : Int) := ⟨n.toNat, by omega⟩
  refine call_range_1 ?_
  refine LCt.CompSrcT.range hh (F.push _) (N.grown fun _ _ e => Heap.get?_push_of_some _ e) (IsRange.new _ _ _ _ _ _ _) (small_one (by omega) (by omega) (by omega) (by omega)) (n := k) (by rw [rangeSize_one]; split <;> omega) ?_ (fun g => h k g _ rfl)
  exact Nat.le_trans (show k ≤ 1000 by omega) (by decide)
end
end Mine
end

section
open PySem PySem.W PyProof.Rows PySem.Calls
namespace Mine
theorem rest_B6 : True ∧ True := by
  (try (walk1; fail "no walk"))
  w_top off
  exact ⟨trivial, trivial⟩
/-- the whole numbers from a on, below n -/
def segI (a : Int) (n : Nat) : List Int := ((List.range n).map (fun (j : Nat) => (j : Int))).filter (fun q => decide (a ≤ q))
/-- a slash stands at q -/
def slashAt (x : Str) (q : Int) : Bool := !(Builtin.Str.occurrences (Str.ofString "/") (Txt.item x q) 0 (Str.ofString "/").length 1).isEmpty
/-- what _law_ends gives -/
def endsOf (x : Str) (i : Int) : List Int := if slashAt x i then ((segI (i + 1) (x.length + 1)).filter (fun (q : Int) => decide (q < x.length) && slashAt x q)).map (fun (q : Int) => q + 1) else ([] : List Int)
abbrev REnds (x : Str) (i : Int) : Ret2 := fun s Q => ∀ Dr h' tk ys, s.heap.get? Dr = none → Kept [] s.heap h' → h'.get? Dr = some (LCg.lst ys) → IntsAre ys (endsOf x i) → Q (.ref Dr) { s with heap := h', toks := tk }
theorem seg_mem {a q : Int} {n : Nat} (h : q ∈ segI a n) : a ≤ q ∧ q < n := by
  unfold segI at h
  obtain ⟨h1, h2⟩ := List.mem_filter.mp h
  obtain ⟨j, h3, rfl⟩ := List.mem_map.mp h1
  have := List.mem_range.mp h3
  exact ⟨of_decide_eq_true h2, by omega⟩
theorem segI_succ (a : Int) (n : Nat) : segI a (n + 1) = segI a n ++ (if a ≤ (n : Int) then [(n : Int)] else []) := by
  unfold segI
  rw [List.range_succ, List.map_append, List.filter_append]
  congr 1
  by_cases h : a ≤ (n : Int) <;> simp [h]
theorem seg_size {ys : List Value} {a : Int} {n : Nat} (h : IntsAre ys (segI a n)) : ys.toArray.size ≤ n := by
  have e := h.length
  have : (segI a n).length ≤ n := by
    unfold segI
    exact Nat.le_trans (List.length_filter_le _ _) (by simp)
  simp only [List.size_toArray]
  omega
theorem seg_yes {ys : List Value} {a : Int} {n : Nat} {t : Tok} (h : IntsAre ys (segI a n)) (hn : a ≤ (n : Int)) : IntsAre (ys ++ [.int (0 + (n : Int)) t]) (segI a (n + 1)) := by
  rw [segI_succ, if_pos hn, Int.zero_add]
  exact h.append (.cons _ _ .nil)
theorem seg_no {ys : List Value} {a : Int} {n : Nat} (h : IntsAre ys (segI a n)) (hn : ¬ a ≤ (n : Int)) : IntsAre ys (segI a (n + 1)) := by
  rw [segI_succ, if_neg hn, List.append_nil]
  exact h
abbrev filt (x : Str) (l : List Int) : List Int := (l.filter (fun (q : Int) => decide (q < x.length) && slashAt x q)).map (fun (q : Int) => q + 1)
theorem filt_yes {zs : List Value} {x : Str} {S : List Int} {idx : Nat} {q : Int} {t : Tok} (h : IntsAre zs (filt x (S.take idx))) (hq : S[idx]? = some q) (h1 : q < x.length) (h2 : (Builtin.Str.occurrences (Str.ofString "/") (Txt.item x q) 0 (Str.ofString "/").length 1).isEmpty = false) :
    IntsAre (zs ++ [.int (q + 1) t]) (filt x (S.take (idx + 1))) := by
  have e : S.take (idx + 1) = S.take idx ++ [q] := by rw [List.take_add_one, hq]; rfl
  have e2 : (decide (q < x.length) && slashAt x q) = true := by rw [decide_eq_true h1]; unfold slashAt; rw [h2]; rfl
  rw [filt, e, List.filter_append, List.map_append]
  refine h.append ?_
  rw [List.filter_cons, if_pos e2]
  exact .cons _ _ .nil
theorem filt_no {zs : List Value} {x : Str} {S : List Int} {idx : Nat} {q : Int} (h : IntsAre zs (filt x (S.take idx))) (hq : S[idx]? = some q) (h1 : ¬ q < x.length ∨ (Builtin.Str.occurrences (Str.ofString "/") (Txt.item x q) 0 (Str.ofString "/").length 1).isEmpty = true) :
    IntsAre zs (filt x (S.take (idx + 1))) := by
  have e : S.take (idx + 1) = S.take idx ++ [q] := by rw [List.take_add_one, hq]; rfl
  have e2 : (decide (q < x.length) && slashAt x q) = false := by
    rcases h1 with h1 | h1
    · rw [decide_eq_false h1]; rfl
    · unfold slashAt; rw [h1]; simp
  rw [filt, e, List.filter_append, List.map_append, List.filter_cons, if_neg (by rw [e2]; decide)]
  simpa using h
local macro_rules | `(tactic| walk_at "call builtin:str.strip") => `(tactic| (k_here; (with_reducible show wpAny _ _ (call (Value.builtin "str.strip") [Value.str _ _, Value.str _ _]) _ _ _); (refine KXw.stripChars (by assumption) (Nat.le_trans (show _ ≤ 10 by assumption) (by decide)) ?_); intro _ _))
local macro_rules | `(tactic| walk_at "compareOp NotEq") => `(tactic| (k_here; (with_reducible show wpAny _ _ (compareOp CmpOp.NotEq (Value.ref _) (Value.ref _)) _ _ _); k_dflt (refine' ke_ne_ints ?a ?b ?c ?d ?e ?_; (case a => exact News.isList (by k_asm) (by k_mem)); (case b => exact News.isList (by k_asm) (by k_mem)); (case c => first | exact .nil | exact .cons _ _ .nil | with_reducible assumption); (case d => first | exact .nil | exact .cons _ _ .nil); (case e => ktr_units); k_whole); (try simp only [decide_true, Bool.not_true, List.cons_ne_nil, reduceCtorEq, decide_false, Bool.not_false])))
local macro_rules | `(tactic| walk_at "exec For Name Name cons nil") => `(tactic| (k_here; (rename Fr _ _ _ _ => lF'); (with_unfolding_all refine' For_turns lF' ?_; k_whole)))
local macro_rules | `(tactic| walk_at "compareOp Is") => `(tactic| (k_here; (with_reducible show wpAny _ _ (compareOp CmpOp.Is (Value.str _ _) (Value.ref _)) _ _ _); refine wpAny_is_other (by rfl) (by intro x; cases x) ?_))
local macro_rules | `(tactic| walk_at "compareOp Is") => `(tactic| (k_here; (with_reducible show wpAny _ _ (compareOp CmpOp.Is (Value.ref _) (Value.ref _)) _ _ _); k_dflt (refine wpAny_is_ref_self ?_)))
local macro_rules | `(tactic| walk_at "eval ListComp") => `(tactic| (k_here; lct_look; lcg_calm; k_dflt (refine LCt.ListComp_T (F₀ := by k_asm) (by with_unfolding_all rfl) (by decide) (by rfl) (by decide) (by rfl) ?_)))
local macro_rules | `(tactic| walk_at "call type:range") => `(tactic| (k_here; k_dflt (refine' range_src ?hh ?F ?N ?a ?b ?_; (case hh => exact rfl); (case F => k_asm); (case N => k_asm); (case a => omega); (case b => omega); k_whole); intro k g' tk hk))
set_option maxHeartbeats 8000000 in
theorem ends_spec {w : World} {p : Program} {loose : List Str} {mean : ExcName → Option Value} {mg mb : Str → Option Value} (pt : Str) (hpt : Txt.stripChars pt (Str.ofString "[]") = Str.ofString "/") (hpl : pt.length ≤ 10) (x : Str) (t t0 t1 t2 : Tok) (i : Int) (D a : Addr) (n : Nat) (hx : x.length ≤ 100) (hi : 0 ≤ i) (hi2 : i < x.length) :
    Spec2 w p loose mean mg mb 3 100 81 [.ref D, .ref a, .str x t, .int i t0] [(D, listOf #[.str pt t1, .ref a, .str pt t2] n)] (fun _ => True) (REnds x i) := by
  unfold Spec2
  k_fill
  intros
  rename_i hpre hret
  refine wpAny_call ?_
  k_dflt (refine' enterC (binds := [(Str.ofString "parts", .ref D), (Str.ofString "star", .ref a), (Str.ofString "text", .str x t), (Str.ofString "first", .int i t0)]) ?k1 ?k2 ?k3 ?k4 ?k5 ?kA ?kF ?kK ?k6 ?k7 ?k8 ?k9 ?kB ?kD ?_ ?c2 ?c3 ?c4; (case kA => exact rfl); (case kF => exact rfl); (case kK => assumption); (case k1 => k_asm); (case k2 => k_asm); (case k3 => k_asm); (case k4 => k_asm); (case k5 => k_asm); (case k6 => k_is); (case k7 => k_is); (case k8 => ktr_room); (case k9 => exact BindsTo.of_eq rfl); (case kB => exact rfl); (case kD => decide +kernel); (case c2 => exact rfl); (case c3 => exact rfl); (case c4 => exact rfl); k_whole; intro g' L' h' tk' cells' kg kh hsz FG' F' N' Y' B' X' T' l1; (try k_lt l1); k_cells Y'; (try simp only [List.cons_append, List.nil_append] at N'); (try dsimp only); (try k_lift B'); (try k_fold))
  k_steps
  · rename_i k9 g9 tk9 hk9
    obtain rfl : k9 = x.length + 1 := by omega
    refine rest_ind (Inv := fun _ ys => ys = []) trivial rfl ?_ ?_
    · intro idx ys hidx hI v I' oI' C' oC' D' m' h' tk' E' hv' hC' hx' F' N' off' ne'
      subst hI
      obtain ⟨tv, rfl⟩ := hv'
      try simp only [LCg.Off3, and_true] at off'
      k_steps
      all_goals exact (TurnEnd.intro (by assumption) (by assumption) (by intro p hp; repeat (first | exact hp | refine List.mem_cons_of_mem _ ?_)) (trivial))
    · intro ys hI
      subst hI
      k_steps
      have hk : Kept [] _ _ := kept_all kg (by assumption : Fr g' L' _ _).keep (by assumption : News _ _ _ [(D, _)]) (by assumption : News g' L' _ _) (by intro p hp; repeat (first | exact hp | refine List.mem_cons_of_mem _ ?_))
      rename News g' L' _ _ => kN
      refine' hret _ _ _ _ (kg_off kg (kN _ ?mem).2.2 ?off) hk (News.get kN ?mem) ?iz
      case mem => k_mem
      case off => intro h; first | exact absurd (List.mem_singleton.mp h) (by k_ne) | exact absurd (List.mem_singleton.mp h).symm (by k_ne)
      case iz => rw [endsOf, if_neg (by unfold slashAt; simp only [*]; decide)]; exact .nil
  · rename_i k9 g9 tk9 hk9
    obtain rfl : k9 = x.length + 1 := by omega
    refine rest_ind (Inv := fun idx ys => IntsAre ys (segI (i + 1) idx)) trivial .nil ?_ ?_
    · intro idx ys hidx hI v I' oI' C' oC' D' m' h' tk' E' hv' hC' hx' F' N' off' ne'
      obtain ⟨tv, rfl⟩ := hv'
      try simp only [LCg.Off3, and_true] at off'
      k_steps
      all_goals first
        | (exfalso; exact absurd (of_decide_eq_true (by assumption)) (List.cons_ne_nil (i + 1) []))
        | (rename List.getD _ _ _ ≤ _ => hc; change i + 1 ≤ 0 + (idx : Int) at hc; rw [Int.zero_add] at hc; exact (TurnEnd.intro (by assumption) (by assumption) (by intro p hp; repeat (first | exact hp | refine List.mem_cons_of_mem _ ?_)) (seg_yes hI hc)))
        | (rename ¬ (List.getD _ _ _ ≤ _) => hc; change ¬ (i + 1 ≤ 0 + (idx : Int)) at hc; rw [Int.zero_add] at hc; exact (TurnEnd.intro (by assumption) (by assumption) (by intro p hp; repeat (first | exact hp | refine List.mem_cons_of_mem _ ?_)) (seg_no hI hc)))
    · intro ys hI
      k_steps
      have hlen := hI.length
      refine LCt.CompSrcT.ledger (by rfl) (by k_asm) (by k_asm) (by k_mem) ?_ ?_
      · exact Nat.le_trans (Nat.le_trans (seg_size hI) (show x.length + 1 ≤ 101 by omega)) (by decide)
      intro g8
      refine rest_ind (Inv := fun j zs => IntsAre zs (filt x ((segI (i + 1) (x.length + 1)).take j))) (by lcg_src) .nil ?_ ?_
      · intro idx zs hidx hJ v I' oI' C' oC' D' m' h' tk' E' hv' hC' hx' F' N' off' ne'
        obtain ⟨q, tq, rfl, hq⟩ := hI.at idx v (by simpa using hv')
        have hqb := seg_mem (List.mem_of_getElem? hq)
        try simp only [LCg.Off3, and_true] at off'
        k_steps
        all_goals first
          | exact (TurnEnd.intro (by assumption) (by assumption) (by intro p hp; repeat (first | exact hp | refine List.mem_cons_of_mem _ ?_)) (filt_yes hJ hq (by assumption) (by assumption)))
          | exact (TurnEnd.intro (by assumption) (by assumption) (by intro p hp; repeat (first | exact hp | refine List.mem_cons_of_mem _ ?_)) (filt_no hJ hq (.inr (by assumption))))
          | exact (TurnEnd.intro (by assumption) (by assumption) (by intro p hp; repeat (first | exact hp | refine List.mem_cons_of_mem _ ?_)) (filt_no hJ hq (.inl (by assumption))))
      · intro zs hJ
        rw [List.take_of_length_le (by rw [List.size_toArray, hlen]; exact Nat.le_refl _)] at hJ
        k_steps
        have hk : Kept [] _ _ := kept_all kg (by assumption : Fr g' L' _ _).keep (by assumption : News _ _ _ [(D, _)]) (by assumption : News g' L' _ _) (by intro p hp; repeat (first | exact hp | refine List.mem_cons_of_mem _ ?_))
        rename News g' L' _ _ => kN
        refine' hret _ _ _ _ (kg_off kg (kN _ ?mem).2.2 ?off) hk (News.get kN ?mem) ?iz
        case mem => k_mem
        case off => intro h; first | exact absurd (List.mem_singleton.mp h) (by k_ne) | exact absurd (List.mem_singleton.mp h).symm (by k_ne)
        case iz => rw [endsOf, if_pos (by unfold slashAt; simp only [*]; decide)]; exact hJ
end Mine
end

section
open PySem PySem.W PyProof.Rows PySem.Calls
namespace Mine
theorem rest_B7a : True ∧ True := by
  (try (walk1; fail "no walk"))
  w_top off
  exact ⟨trivial, trivial⟩
section
variable {prog : Program} {w : World} {A : Around} {E : Value → Shared → Prop} {s : Shared} {h₀ : Heap} {L : Addr} {m : Str → Option Value} {env : Env}
/-- the turns of a comprehension without a test -/
theorem rest_indU {elt : PySem.Expr} {x : Str} {scope : Scope} {cl : List (Str × Addr)} {S : List (Addr × Obj) → Prop} {P : Nat → Value → Prop} {Fin : List Value → List (Addr × Obj) → Prop} {news : List (Addr × Obj)} {n : Nat} (Inv : Nat → List Value → Prop) (hS : S news) (h0 : Inv 0 [])
    (step : ∀ i ys, i < n → Inv i ys → ∀ v I oI C oC D m₂ h tk (E' : Value → Shared → Prop), P i v → LCg.NsObj oC m₂ → m₂ x = some v → Fr h₀ L h m → News h₀ L h ((I, oI) :: (C, oC) :: (D, LCg.lst ys) :: news) → LCg.Off3 I C D news → ((@Ne Nat I C) ∧ (@Ne Nat I D) ∧ (@Ne Nat C D)) →
      wpAny (model prog w) A (eval elt (compEnvC scope cl C env)) (fun y => TurnEnd h₀ L m { s with heap := h, toks := tk } ((I, oI) :: (C, oC) :: (D, LCg.lst ys) :: news) (Inv (i + 1) (ys ++ [y]))) E' { s with heap := h, toks := tk })
    (fin : ∀ ys, Inv n ys → Fin ys news) : LCg.CompRest prog w A h₀ L m env elt x scope cl s S P Fin n 0 [] news := by
  suffices H : ∀ k i ys, i + k = n → Inv i ys → LCg.CompRest prog w A h₀ L m env elt x scope cl s S P Fin k i ys news from H n 0 [] (Nat.zero_add n) h0
  intro k
  induction k with
  | zero => intro i ys e hI; exact fin ys (by rw [← e]; exact hI)
  | succ k ih =>
    intro i ys e hI
    refine LCg.CompRest.succ fun v I oI C oC D m₂ h tk E' hv hC hx F N off ne => ?_
    exact wpAny_mono (step i ys (by omega) hI v I oI C oC D m₂ h tk E' hv hC hx F N off ne) (fun y s' hE => hE.comp off hS fun hJ => ih (i + 1) _ (by omega) hJ) fun _ _ e => e
end
end Mine
end

section
open PySem PySem.W PyProof.Rows PySem.Calls
namespace Mine
theorem rest_B7 : True ∧ True := by
  (try (walk1; fail "no walk"))
  w_top off
  exact ⟨trivial, trivial⟩
abbrev slash : Str := Str.ofString "/"
def piecesOf (x : Str) : List Str := Txt.split x slash
def pairsOf (x : Str) : Int := ((piecesOf x).length - 1 : Int).fdiv 2
def dueL (x : Str) : List Str := (pickL (piecesOf x) (some 1) (some (2 * pairsOf x)) (some 2)).map bareF
def dueR (x : Str) : Str := Txt.join (Str.ofString "") (pickL (piecesOf x) none (some (2 * pairsOf x + 1)) (some 2) ++ (pickL (piecesOf x) (some (2 * pairsOf x + 1)) none none).map (slash ++ ·))
section
variable {prog : Program} {w : World} {A : Around} {E : Value → Shared → Prop} {s : Shared} {h₀ : Heap} {L a b : Addr} {m : Str → Option Value} {news : List (Addr × Obj)} {vs us : List Value} {xs ys : List Str} {Q : Value → Shared → Prop}
theorem strs_append {vs us : List Value} {xs ys : List Str} (hi : StrsAre vs xs) (hj : StrsAre us ys) : StrsAre (vs ++ us) (xs ++ ys) := by
  induction hi with
  | nil => exact hj
  | cons x t _ ih => exact .cons x t ih
theorem my_src {env : Env} {elt : PySem.Expr} {x : Str} {scope : Scope} {cl : List (Str × Addr)} {Fin : Shared → List Value → List (Addr × Obj) → Prop} {ax : Addr} {k : Nat} (hh : A.handled = none) (F : Fr h₀ L s.heap m) (N : News h₀ L s.heap news)
    (hm : (ax, ({ cls := .type "list", data := .seq vs.toArray k } : Obj)) ∈ news) (hi : StrsAre vs xs) (hS : Small xs)
    (h : ∀ (n : Nat) g, n = xs.length → LCg.CompRest prog w A h₀ L m env elt x scope cl { s with heap := g } (LCg.SrcAt h₀ ax vs.toArray) (fun i v => vs.toArray[i]? = some v) (Fin { s with heap := g }) n 0 [] news) :
    LCg.CompSrc prog w A h₀ L m env elt x scope cl Fin (.ref ax) s := by
  have e : vs.toArray.size = xs.length := by rw [List.size_toArray]; exact hi.len_eq
  refine LCg.CompSrc.ledger hh F N hm (by rw [e, sizeLine_eq]; have := hS.1; omega) fun g => ?_
  rw [e]
  exact h _ g rfl
/-- some texts, not too long -/
def Mid (xs : List Str) : Prop := xs.length ≤ 3000 ∧ ∀ y ∈ xs, y.length ≤ 3000
theorem my_concat (F : Fr h₀ L s.heap m) (N : News h₀ L s.heap news) (ha : s.heap.IsList a vs.toArray) (hb : s.heap.IsList b us.toArray) (hi : StrsAre vs xs) (hj : StrsAre us ys) (hx : Small xs) (hy : ys.length ≤ 1002 ∧ ∀ y ∈ ys, y.length ≤ 3000)
    (h : ∀ D h', Fr h₀ L h' m → News h₀ L h' ((D, listOf (List.toArray (vs ++ us)) 0) :: news) → (∀ p ∈ news, p.1 < D) → StrsAre (vs ++ us) (xs ++ ys) → Mid (xs ++ ys) → Q (.ref D) { s with heap := h' }) : wpAny (model prog w) A (binaryOp .Add (.ref a) (.ref b)) Q E s :=
  kmk_add_lit F N ha hb (zs := vs ++ us) (by simp) (fun D h' F' N' lt => h D h' F' N' lt (strs_append hi hj) ⟨by rw [List.length_append]; have := hx.1; have := hy.1; omega, fun y hm => by
      rcases List.mem_append.mp hm with hm | hm
      · exact Nat.le_trans (hx.2 y hm) (by decide)
      · exact hy.2 y hm⟩)
    (by rw [sizeLine_eq]; have e1 := hi.length; have e2 := hj.length; have := hx.1; have := hy.1; simp only [List.toList_toArray]; omega)
theorem my_joinE {t : Tok} (hl : s.heap.IsList a vs.toArray) (hi : StrsAre vs xs) (hS : Mid xs)
    (h : ∀ t' k, Q (.str (Txt.join (Str.ofString "") xs) t') { s with toks := k }) : wpAny (model prog w) A (call (.builtin "str.join") [.str (Str.ofString "") t, .ref a]) Q E s := by
  refine join_list hl (by simpa using hi) ?_ h
  have e : (Str.ofString "").length = 0 := by decide +kernel
  have h1 := StrLaws.sumLen_le xs hS.2
  have h2 := hS.1
  rw [e]
  omega
theorem map_snoc {zs : List Value} {idx : Nat} {y : Str} {t : Tok} {f : Str → Str} (h : StrsAre zs ((xs.take idx).map f)) (hy : xs[idx]? = some y) : StrsAre (zs ++ [.str (f y) t]) ((xs.take (idx + 1)).map f) := by
  have e : xs.take (idx + 1) = xs.take idx ++ [y] := by rw [List.take_add_one, hy]; rfl
  rw [e, List.map_append]
  exact strs_append h (.cons _ _ .nil)
theorem map_all {zs : List Value} {n : Nat} {f : Str → Str} (h : StrsAre zs ((xs.take n).map f)) (e : n = xs.length) : StrsAre zs (xs.map f) := by
  subst e
  rw [List.take_of_length_le (Nat.le_refl _)] at h
  exact h
theorem small_cat (hS : Small xs) : (xs.map (slash ++ ·)).length ≤ 1002 ∧ ∀ y ∈ xs.map (slash ++ ·), y.length ≤ 3000 := by
  refine ⟨by rw [List.length_map]; exact hS.1, fun y hy => ?_⟩
  obtain ⟨z, hz, rfl⟩ := List.mem_map.mp hy
  have h1 := hS.2 z hz
  have e : slash.length = 1 := by decide +kernel
  rw [Str.length_append, e]
  omega
abbrev RDue (x : Str) : Ret2 := fun s Q => ∀ T D h' tk ws t oT, s.heap.get? T = none → s.heap.get? D = none → T ≠ D → Kept [] s.heap h' → h'.get? T = some oT → oT.cls = .type "tuple" → (∃ k, oT.data = .seq #[.ref D, .str (dueR x) t] k) → h'.get? D = some (LCg.lst ws) → StrsAre ws (dueL x) → Q (.ref T) { s with heap := h', toks := tk }
end
local macro_rules | `(tactic| walk_at "call builtin:str.split") => `(tactic| (k_here; (with_reducible show wpAny _ _ (call (Value.builtin "str.split") _) _ _ _); refine my_split (by k_asm) (by k_asm) (by decide) (by assumption) ?_; intro D' vs' h' k' e' S' F' N' l1; (try k_lt l1); (try dsimp only)))
local macro_rules | `(tactic| walk_at "call builtin:len") => `(tactic| (k_here; (with_reducible show wpAny _ _ (call (Value.builtin "len") [Value.ref _]) _ _ _); k_dflt (refine' my_len ?k1 ?k2 ?k3 ?_; (case k1 => exact News.isList (by k_asm) (by k_mem)); (case k2 => assumption); (case k3 => assumption)); k_whole))
local macro_rules | `(tactic| walk_at "subscriptTail Name Slice ref ref") => `(tactic| (k_here; (with_reducible show wpAny _ _ (subscriptTail _ (PySem.Expr.Slice _ _ none _) (Value.ref _) (Value.ref _)) _ _ _); k_dflt (refine' my_slice ?F ?N ?l ?i ?S ?p ?q ?_ ?s ?t; (case F => k_asm); (case N => k_asm); (case l => kmk_list); (case i => assumption); (case S => assumption); (case p => kmk_part); (case q => kmk_part); (case s => with_unfolding_all rfl); (case t => kmk_pure)); intro D' ws' h' F' N' l1 hI' hS'; (try k_lt l1); (try dsimp only)))
local macro_rules | `(tactic| walk_at "subscriptTail Name Slice ref ref") => `(tactic| (k_here; (with_reducible show wpAny _ _ (subscriptTail _ (PySem.Expr.Slice _ _ (some _) _) (Value.ref _) (Value.ref _)) _ _ _); k_dflt (refine' my_slice3 ?F ?N ?l ?i ?S ?p ?q ?r ?z ?_ ?s ?t; (case F => k_asm); (case N => k_asm); (case l => kmk_list); (case i => assumption); (case S => assumption); (case p => kmk_part); (case q => kmk_part); (case r => kmk_part); (case z => decide); (case s => with_unfolding_all rfl); (case t => kmk_pure)); intro D' ws' h' F' N' l1 hI' hS'; (try k_lt l1); (try dsimp only)))
local macro_rules | `(tactic| walk_at "binaryOp Add ref ref") => `(tactic| (k_here; k_dflt (refine' my_concat ?F ?N ?a ?b ?i ?j ?x ?y ?_; (case F => k_asm); (case N => k_asm); (case a => kmk_list); (case b => kmk_list); (case i => assumption); (case j => assumption); (case x => assumption); (case y => assumption); k_whole); intro D' h' F' N' l1 hI' hS'; (try k_lt l1); (try dsimp only)))
local macro_rules | `(tactic| walk_at "call builtin:str.join") => `(tactic| (k_here; (with_reducible show wpAny _ _ (call (Value.builtin _) [Value.str _ _, Value.ref _]) _ _ _); k_dflt (refine' my_joinE ?k1 ?k2 ?k3 ?_; (case k1 => exact News.isList (by k_asm) (by k_mem)); (case k2 => assumption); (case k3 => assumption)); intro _ _; k_whole))
local macro_rules | `(tactic| walk_at "call ref") => `(tactic| (k_here; (with_reducible show wpAny _ _ (call (Value.ref 102) [Value.str _ _]) _ _ _); k_dflt (refine' bare_spec _ _ ?x _ _ _ _ _ _ _ _ _ _ _ _ _ _ _ _ _ ?B ?F ?K ?N ?T ?k ?c1 ?c2 ?d ?u ?_; (case x => assumption); (case B => k_asm); (case F => k_asm); (case K => k_asm); (case N => k_asm); (case T => k_asm); (case k => exact rfl); (case c1 => k_asm); (case c2 => k_asm); (case d => ktr_room); (case u => ktr_units); k_whole); intro t9 h' tk' F' N'))
local macro_rules | `(tactic| walk_at "CompSrc") => `(tactic| (k_here; k_dflt (refine my_src (by rfl) (by k_asm) (by k_asm) (by k_mem) (by assumption) (by assumption) ?_; intro n' g' e')))
local macro_rules | `(tactic| walk_at "eval ListComp") => `(tactic| (k_here; (with_reducible show wpAny _ _ (eval (PySem.Expr.ListComp _ _ _ _) _) _ _ _); lcg_calm; k_dflt (refine LCg.ListComp_U (F₀ := by k_asm) (by with_unfolding_all rfl) (by decide) (by rfl) (by decide) (by rfl) ?_)))
set_option maxHeartbeats 1200000 in
theorem due_spec {w : World} {p : Program} {loose : List Str} {mean : ExcName → Option Value} {mg mb : Str → Option Value} (x : Str) (t : Tok) (hx : x.length ≤ 1000) :
    Spec2 w p loose mean mg mb 3 100 107 [.str x t] [] (fun _ => True) (RDue x) := by
  unfold Spec2
  k_fill
  intros
  rename_i hpre hret
  refine wpAny_call ?_
  k_dflt (refine' enterP (binds := [(Str.ofString "text", .str x t)]) ?k1 ?k2 ?k3 ?k4 ?k5 ?kA ?kF ?kK ?k6 ?k7 ?k8 ?k9 ?kB ?_ ?c2 ?c3 ?c4 ?c5; (case kA => exact rfl); (case kF => exact rfl); (case kK => assumption); (case k1 => k_asm); (case k2 => k_asm); (case k3 => k_asm); (case k4 => k_asm); (case k5 => k_asm); (case k6 => k_is); (case k7 => k_is); (case k8 => ktr_room); (case k9 => exact BindsTo.of_eq rfl); (case c5 => decide); (case kB => exact locs rfl); (case c2 => exact rfl); (case c3 => exact rfl); (case c4 => exact rfl); k_whole; intro g' L' h' kg kh hsz FG' F' N' B' X' T' l1; (try k_lt l1); (try dsimp only); (try k_lift B'); (try k_fold))
  k_steps
  rename_i n9 g9 e9
  rename StrsAre _ (pickL _ (some _) none none) => hI9
  rename Small (pickL _ (some _) none none) => hS9
  change StrsAre _ (pickL (piecesOf x) (some (2 * pairsOf x + 1)) none none) at hI9
  change Small (pickL (piecesOf x) (some (2 * pairsOf x + 1)) none none) at hS9
  refine rest_indU (Inv := fun j zs => StrsAre zs ((List.take j (pickL (piecesOf x) (some (2 * pairsOf x + 1)) none none)).map (slash ++ ·))) (by lcg_src) .nil ?_ ?_
  · intro idx zs hidx hJ v I' oI' C' oC' D' m' h' tk' E' hv' hC' hx' F' N' off' ne'
    obtain ⟨y, ty, rfl, hy⟩ := StrsAre.item hI9 idx v (by simpa using hv')
    have hyl := hS9.2 y (List.mem_of_getElem? hy)
    try simp only [LCg.Off3, and_true] at off'
    k_steps
    all_goals exact (TurnEnd.intro (by assumption) (by assumption) (by intro p hp; repeat (first | exact hp | refine List.mem_cons_of_mem _ ?_)) (map_snoc hJ hy))
  intro zs hJ
  replace hJ := map_all hJ e9
  have hM9 := small_cat hS9
  k_steps
  clear hI9 hS9 e9 hM9
  rename_i n8 g8 e8
  rename StrsAre _ (pickL _ (some _) (some _) (some 2)) => hI8
  rename Small (pickL _ (some _) (some _) (some 2)) => hS8
  change StrsAre _ (pickL (piecesOf x) (some 1) (some (2 * pairsOf x)) (some 2)) at hI8
  change Small (pickL (piecesOf x) (some 1) (some (2 * pairsOf x)) (some 2)) at hS8
  refine rest_indU (Inv := fun j zs => StrsAre zs ((List.take j (pickL (piecesOf x) (some 1) (some (2 * pairsOf x)) (some 2))).map bareF)) (by lcg_src) .nil ?_ ?_
  · intro idx zs hidx hJ v I' oI' C' oC' D' m' h' tk' E' hv' hC' hx' F' N' off' ne'
    obtain ⟨y, ty, rfl, hy⟩ := StrsAre.item hI8 idx v (by simpa using hv')
    have hyl := hS8.2 y (List.mem_of_getElem? hy)
    try simp only [LCg.Off3, and_true] at off'
    k_steps
    all_goals exact (TurnEnd.intro (by assumption) (by assumption) (by intro p hp; repeat (first | exact hp | refine List.mem_cons_of_mem _ ?_)) (map_snoc hJ hy))
  intro zs hJ
  replace hJ := map_all hJ e8
  k_steps
  have hk : Kept [] _ _ := fun b o hb e => (by assumption : Fr g' L' _ _).keep b o (kg b o hb e)
  rename News g' L' _ _ => kN
  have hT := kN (_, _) List.mem_cons_self
  have hD := kN (_, _) (List.mem_cons_of_mem _ List.mem_cons_self)
  exact hret _ _ _ _ _ _ _ (kg_none kg hT.2.2) (kg_none kg hD.2.2) (by first | k_ne | exact Ne.symm (by k_ne)) hk hT.1 rfl ⟨_, rfl⟩ hD.1 hJ
end Mine
end

section
open PySem PySem.W PyProof.Rows PySem.Calls
namespace Mine
theorem rest_B8a : True ∧ True := by
  (try (walk1; fail "no walk"))
  w_top off
  exact ⟨trivial, trivial⟩
theorem seg_bound {x : Str} {i e : Int} (hi : 0 ≤ i) (he : e ∈ endsOf x i) : i + 2 ≤ e ∧ e ≤ x.length := by
  unfold endsOf at he
  split at he
  · obtain ⟨q, hq, rfl⟩ := List.mem_map.mp he
    obtain ⟨h1, h2⟩ := List.mem_filter.mp hq
    have h3 := seg_mem h1
    rw [Bool.and_eq_true] at h2
    have h4 := of_decide_eq_true h2.1
    omega
  · cases he
/-- what _law_taken gives, by the steps that are left -/
def takenF : Nat → Str → Int → List Str × Str
  | 0, x, _ => ([], x)
  | n + 1, x, i => if (x.length : Int) ≤ i then ([], x) else match endsOf x i with
    | [] => takenF n x (i + 1)
    | e :: _ => (stripQ (Txt.slice x (some (i + 1)) (some (e - 1))) :: (takenF n (cutF x i e) i).1, (takenF n (cutF x i e) i).2)
section
variable {w : World} {p : Program} {loose : List Str} {mean : ExcName → Option Value} {mg mb : Str → Option Value} {dp un : Nat} {gd : Option (List Code)} {cn : Str} {cs : Scope} {a' : Addr} {ccd : Value} {cl : List (Str × Addr)} {outer : List Env} {A₀ : Around} {base h₀ : Heap} {L : Addr} {m : Str → Option Value} {s : Shared} {Q E : Value → Shared → Prop}
theorem off_of {all : List (Addr × Obj)} {Dr : Addr} (N : News h₀ L s.heap all) (hf : s.heap.get? Dr = none) : LCg.Off1 Dr all := by
  induction all with
  | nil => trivial
  | cons q r ih =>
    refine ⟨fun e => ?_, ih fun p hp => N p (List.mem_cons_of_mem _ hp)⟩
    have e' : q.1 = Dr := e
    have := (N q List.mem_cons_self).1
    rw [e', hf] at this
    cases this
theorem new_one {h' : Heap} {all : List (Addr × Obj)} {Dr : Addr} {o : Obj} (F : Fr h₀ L s.heap m) (hf : s.heap.get? Dr = none) (hg : h'.get? Dr = some o) (N' : News h₀ L h' all) : News h₀ L h' ((Dr, o) :: all) := fun q hq => by
  rcases List.mem_cons.mp hq with rfl | hq
  · refine ⟨hg, fun e => ?_, ?_⟩
    · have e' : Dr = L := e
      obtain ⟨oL, _, _, hL, _⟩ := F.ns
      rw [e', hL] at hf
      cases hf
    · cases e : h₀.get? Dr with
      | none => rfl
      | some o' => have := F.keep _ _ e; rw [hf] at this; cases this
  · exact N' q hq
/-- _law_ends, called in a frame; no end, or a first one -/
theorem ends_call (pt : Str) (hpt : Txt.stripChars pt (Str.ofString "[]") = Str.ofString "/") (hpl : pt.length ≤ 10) (x : Str) (t t0 t1 t2 : Tok) (i : Int) (D a : Addr) (n : Nat) (all : List (Addr × Obj)) (hx : x.length ≤ 100) (hi : 0 ≤ i) (hi2 : i < x.length)
    (B : Below A₀ base outer h₀) (F : Fr h₀ L s.heap m) (K : (Mine.hd.heap_39 w.params).In h₀) (N : News h₀ L s.heap all) (hD : (D, listOf #[.str pt t1, .ref a, .str pt t2] n) ∈ all) (T : Top p loose mean mg mb h₀) (hk : cs.kind = .function)
    (c1 : CodeHd base 87 83) (c2 : CodeHd base 68 64) (hd : dp + 3 < recursionLimit) (hu : un + 100 < cLine)
    (hN : endsOf x i = [] → ∀ Dr h' tk, Fr h₀ L h' m → News h₀ L h' ((Dr, LCg.lst []) :: all) → LCg.Off1 Dr all → Q (.ref Dr) { s with heap := h', toks := tk })
    (hC : ∀ e r te ys Dr h' tk, endsOf x i = e :: r → i + 2 ≤ e ∧ e ≤ x.length → IntsAre ys r → Fr h₀ L h' m → News h₀ L h' ((Dr, LCg.lst (.int e te :: ys)) :: all) → LCg.Off1 Dr all → Q (.ref Dr) { s with heap := h', toks := tk }) :
    wpAny (model PySem.Challenge.rw_ij0014_01.row.prog w) (ktrTop dp un gd cn cs L a' ccd cl outer) (call (.ref 81) [.ref D, .ref a, .str x t, .int i t0]) Q E s := by
  refine ends_spec pt hpt hpl x t t0 t1 t2 i D a n hx hi hi2 _ _ _ _ _ _ _ _ _ _ _ _ _ _ _ _ _ B F K (fun q hq => N q (by rw [List.mem_singleton.mp hq]; exact hD)) T hk c1 c2 hd hu trivial ?_
  intro Dr h' tk ys hf K' hg hI
  have F' : Fr h₀ L h' m := K'.fr (news := []) F News.nil rfl
  have N' := new_one F hf hg (K'.news N (fun _ _ h => nomatch h))
  cases hI' : endsOf x i with
  | nil =>
    rw [hI'] at hI
    cases hI
    exact hN hI' Dr h' tk F' N' (off_of N hf)
  | cons e r =>
    have hb := seg_bound hi (hI' ▸ List.mem_cons_self : e ∈ endsOf x i)
    rw [hI'] at hI
    cases hI with
    | cons _ te hr => exact hC e r te _ Dr h' tk hI' hb hr F' N' (off_of N hf)
theorem fresh_ne {all : List (Addr × Obj)} {c : Addr} (N : News h₀ L s.heap all) (h : s.heap.objs.size ≤ c) : LCg.Off1 c all := by
  refine off_of N ?_
  cases e : s.heap.get? c with
  | none => rfl
  | some o => exact absurd (Heap.lt_size e) (Nat.not_lt.mpr h)
theorem mem_out {p q : Addr × Obj} {l : List (Addr × Obj)} (h : LCg.Off1 q.1 l) (hp : p ∈ l) : p.1 ≠ q.1 := by
  induction l with
  | nil => cases hp
  | cons r l ih =>
    rcases List.mem_cons.mp hp with rfl | hp
    · exact h.1
    · exact ih h.2 hp
/-- _law_hit the first time, in a frame whose ledger has three entries more -/
theorem hit_call0 (x : Str) (t t2 t3 : Tok) (i j : Int) (p1 p2 p3 : Addr × Obj) (hx : x.length ≤ 1000) (hi : 0 ≤ i) (hi2 : i ≤ 1000) (hj : 0 ≤ j) (hj2 : j ≤ 1000)
    (B : Below A₀ base outer h₀) (F : Fr h₀ L s.heap m) (K : (Mine.hd.heap_39 w.params).In h₀) (N : News h₀ L s.heap [p1, p2, p3, (83, tabObj #[])]) (n : LCg.Off1 83 [p1, p2, p3]) (T : Top p loose mean mg mb h₀) (hk : cs.kind = .function)
    (c1 : CodeHd base 87 83) (c2 : CodeHd base 68 64) (hd : dp + 2 < recursionLimit) (hu : un + 16 < cLine)
    (h : ∀ f h' tk' k1 k2 o1 o2, CodeOb o1 → CodeOb o2 → Fr h₀ L h' m → News h₀ L h' [p1, p2, p3, (83, tabObj (tab2 k1 k2)), (k1, o1), (k2, o2)] → LCg.Off1 k1 [p1, p2, p3] → LCg.Off1 k2 [p1, p2, p3] →
      UnSpec w dp un gd cn cs a' ccd cl outer h₀ L f x i j h' → Q (.ref f) { s with heap := h', toks := tk' }) :
    wpAny (model PySem.Challenge.rw_ij0014_01.row.prog w) (ktrTop dp un gd cn cs L a' ccd cl outer) (call (.ref 88) [.str x t, .int i t2, .int j t3]) Q E s := by
  have N83 : News h₀ L s.heap [(83, tabObj #[])] := fun q hq => N q (by rw [List.mem_singleton.mp hq]; simp)
  have N3 : News h₀ L s.heap [p1, p2, p3] := fun q hq => N q (by simp only [List.mem_cons] at hq ⊢; rcases hq with h | h | h | h <;> simp [h] at *)
  refine hit_fresh x t t2 t3 i j hx hi hi2 hj hj2 _ _ _ _ _ _ _ _ _ _ _ _ _ _ _ _ _ B F K N83 T hk c1 c2 hd hu ?_
  intro f h' tk' k1 k2 o1 o2 K' e83 e1 e2 ob1 ob2 l1 l2 U
  have f1 : s.heap.get? k1 = none := by
    cases e : s.heap.get? k1 with
    | none => rfl
    | some o => exact absurd (Heap.lt_size e) (Nat.not_lt.mpr l1)
  have f2 : s.heap.get? k2 = none := by
    cases e : s.heap.get? k2 with
    | none => rfl
    | some o => exact absurd (Heap.lt_size e) (Nat.not_lt.mpr l2)
  have F' : Fr h₀ L h' m := K'.fr F N83 rfl
  have N3' : News h₀ L h' [p1, p2, p3] := K'.news N3 fun q hq => by
    rw [List.mem_singleton]
    exact mem_out (q := ((83 : Addr), tabObj #[])) n hq
  have NN := new_one F f1 e1 (new_one F f2 e2 N3')
  refine h f h' tk' k1 k2 o1 o2 ob1 ob2 F' (fun q hq => ?_) (off_of N3 f1) (off_of N3 f2) U
  by_cases hq83 : q = (83, tabObj (tab2 k1 k2))
  · subst hq83
    exact ⟨e83, (N83 _ List.mem_cons_self).2⟩
  · refine NN q ?_
    simp only [List.mem_cons, List.not_mem_nil, or_false] at hq ⊢
    rcases hq with h | h | h | h | h | h
    · simp [h]
    · simp [h]
    · simp [h]
    · exact absurd h hq83
    · simp [h]
    · simp [h]
/-- _law_hit, when its two lambdas have been made already -/
theorem hit_call1 (x : Str) (t t2 t3 : Tok) (i j : Int) (p1 p2 p3 : Addr × Obj) (k1 k2 : Addr) (o1 o2 : Obj) (ob1 : CodeOb o1) (ob2 : CodeOb o2) (hx : x.length ≤ 1000) (hi : 0 ≤ i) (hi2 : i ≤ 1000) (hj : 0 ≤ j) (hj2 : j ≤ 1000)
    (B : Below A₀ base outer h₀) (F : Fr h₀ L s.heap m) (K : (Mine.hd.heap_39 w.params).In h₀) (N : News h₀ L s.heap [p1, p2, p3, (83, tabObj (tab2 k1 k2)), (k1, o1), (k2, o2)]) (T : Top p loose mean mg mb h₀) (hk : cs.kind = .function)
    (c1 : CodeHd base 87 83) (c2 : CodeHd base 68 64) (hd : dp + 2 < recursionLimit) (hu : un + 16 < cLine)
    (h : ∀ f h' tk', Fr h₀ L h' m → News h₀ L h' [p1, p2, p3, (83, tabObj (tab2 k1 k2)), (k1, o1), (k2, o2)] →
      UnSpec w dp un gd cn cs a' ccd cl outer h₀ L f x i j h' → Q (.ref f) { s with heap := h', toks := tk' }) :
    wpAny (model PySem.Challenge.rw_ij0014_01.row.prog w) (ktrTop dp un gd cn cs L a' ccd cl outer) (call (.ref 88) [.str x t, .int i t2, .int j t3]) Q E s := by
  refine hit_again x t t2 t3 i j hx hi hi2 hj hj2 k1 k2 o1 o2 ob1 ob2 _ _ _ _ _ _ _ _ _ _ _ _ _ _ _ _ _ B F K (fun q hq => N q (List.mem_cons_of_mem _ (List.mem_cons_of_mem _ (List.mem_cons_of_mem _ hq)))) T hk c1 c2 hd hu ?_
  intro f h' tk' K' U
  exact h f h' tk' (K'.fr (news := []) F News.nil rfl) (K'.news N (fun _ _ h => nomatch h)) U
theorem un_call {f : Addr} {x : Str} {i j : Int} {all : List (Addr × Obj)} (U : UnSpec w dp un gd cn cs a' ccd cl outer h₀ L f x i j s.heap) (F : Fr h₀ L s.heap m) (N : News h₀ L s.heap all)
    (h : ∀ t h' tk, Fr h₀ L h' m → News h₀ L h' all → Q (.str (cutF x i j) t) { s with heap := h', toks := tk }) :
    wpAny (model PySem.Challenge.rw_ij0014_01.row.prog w) (ktrTop dp un gd cn cs L a' ccd cl outer) (call (.ref 38) [.ref f]) Q E s :=
  U m s Q E F (fun _ _ _ e => e) fun t h' tk K' _ => h t h' tk (K'.fr (news := []) F News.nil rfl) (K'.news N (fun _ _ h => nomatch h))
theorem cut_length {x : Str} {i e : Int} (hi : 0 ≤ i) (h : i ≤ e) (he : e ≤ x.length) : ((cutF x i e).length : Int) = x.length - (e - i) := by
  have hl : x.cps.toList.length = x.length := by simp [Str.length]
  unfold cutF
  rw [Str.length_append]
  have e1 : Txt.slice x none (some i) = ⟨((x.cps.toList.drop 0).take (i - 0).toNat).toArray⟩ := StrLaws.sliceText_to ⟨hi, by omega⟩
  have e2 := StrLaws.sliceText_from (x := x) (i := e) ⟨by omega, by omega⟩
  have e2' : Txt.slice x (some e) none = _ := e2
  rw [e1, e2']
  simp only [Str.length, List.size_toArray, List.length_take, List.length_drop]
  simp only [Str.length] at he hl
  omega
end
end Mine
end

section
open PySem PySem.W PyProof.Rows PySem.Calls
namespace Mine
theorem rest_B8 : True ∧ True := by
  (try (walk1; fail "no walk"))
  w_top off
  exact ⟨trivial, trivial⟩
abbrev nE : Str := Str.ofString "ends"
abbrev nT : Str := Str.ofString "text"
abbrev nF : Str := Str.ofString "first"
abbrev nS : Str := Str.ofString "stretches"
/-- the names of _law_taken, as its loop leaves them -/
def mform (b : List (Str × Value)) (ve : Option Value) (vt vf vs : Value) : Str → Option Value := fun z =>
  if z = nE then ve else if z = nT then some vt else if z = nF then some vf else if z = nS then some vs else List.lookup z b.reverse
theorem news_tail {h₀ h : Heap} {L : Addr} {q : Addr × Obj} {r : List (Addr × Obj)} (N : News h₀ L h (q :: r)) : News h₀ L h r := fun p hp => N p (List.mem_cons_of_mem _ hp)
theorem with_S {h₀ h : Heap} {L S : Addr} {o : Obj} {r : List (Addr × Obj)} {P : Prop} (_ : News h₀ L h ((S, o) :: r)) (k : ∀ S', S' = S → P) : P := k S rfl
section
variable {b : List (Str × Value)} {ve : Option Value} {vt vf vs u v : Value}
theorem mf_step : (fun z => if z = nF then some v else if z = nE then some u else mform b ve vt vf vs z) = mform b (some u) vt v vs := by
  funext z
  by_cases h1 : z = nE
  · subst h1; rfl
  · by_cases h2 : z = nF
    · subst h2; rfl
    · simp only [mform, if_neg h1, if_neg h2]
theorem mf_hit : (fun z => if z = nT then some v else if z = nE then some u else mform b ve vt vf vs z) = mform b (some u) v vf vs := by
  funext z
  by_cases h1 : z = nE
  · subst h1; rfl
  · by_cases h2 : z = nT
    · subst h2; rfl
    · simp only [mform, if_neg h1, if_neg h2]
end
section
variable {prog : Program} {w : World} {A : Around} {E : Value → Shared → Prop} {s : Shared} {value slice : PySem.Expr} {l : Addr} {v : Value} {vs : List Value} {u : Tok} {Q : Value → Shared → Prop}
theorem item0 (hl : s.heap.IsList l (List.toArray (v :: vs))) (h : Q v s)
    (hs : subscripted slice false (.ref l) (.int 0 u) = operate [.ref l, .int 0 u] (getItem (.ref l) (.int 0 u)) := by with_unfolding_all rfl) :
    wpAny (model prog w) A (subscriptTail value slice (.ref l) (.int 0 u)) Q E s :=
  item_listR hl (by decide) (by decide) (by rfl) h hs
end
theorem step2 {h₀ h' : Heap} {L : Addr} {s : Shared} {J : Nat → (Str → Option Value) → List (Addr × Obj) → Prop} {Q : Flow → Shared → Prop} {n n' tk : Nat} {m₂ : Str → Option Value} {news₂ all : List (Addr × Obj)}
    (F : Fr h₀ L h' m₂) (N : News h₀ L h' all) (sub : ∀ p ∈ news₂, p ∈ all) (hn : n' < n) (hJ : J n' m₂ news₂) : WhileStep2 h₀ L s J Q n .next { s with heap := h', toks := tk } :=
  ⟨h', tk, m₂, news₂, n', rfl, F, fun p hp => N p (sub p hp), hn, hJ⟩
theorem taken_end {f : Nat} {y : Str} {i : Int} (h : ¬ i < (y.length : Int)) : takenF f y i = ([], y) := by
  cases f with
  | zero => rfl
  | succ f => rw [takenF, if_pos (by omega)]
theorem taken_no {f : Nat} {y : Str} {i : Int} (h : i < (y.length : Int)) (e : endsOf y i = []) (hf : 1 ≤ f) : takenF f y i = takenF (f - 1) y (i + 1) := by
  obtain ⟨f, rfl⟩ : ∃ g, f = g + 1 := ⟨f - 1, by omega⟩
  rw [takenF, if_neg (by omega), e]
  rfl
theorem taken_hit {f : Nat} {y : Str} {i v : Int} {r : List Int} (h : i < (y.length : Int)) (e : endsOf y i = v :: r) (hf : 1 ≤ f) :
    takenF f y i = (stripQ (Txt.slice y (some (i + 1)) (some (v - 1))) :: (takenF (f - 1) (cutF y i v) i).1, (takenF (f - 1) (cutF y i v) i).2) := by
  obtain ⟨f, rfl⟩ : ∃ g, f = g + 1 := ⟨f - 1, by omega⟩
  rw [takenF, if_neg (by omega), e]
  rfl
/-- the code table of _law_hit, with what lies behind it -/
inductive HitLed : List (Addr × Obj) → Prop
  | fresh : HitLed [(83, tabObj #[])]
  | again (k1 k2 : Addr) (o1 o2 : Obj) : CodeOb o1 → CodeOb o2 → HitLed [(83, tabObj (tab2 k1 k2)), (k1, o1), (k2, o2)]
abbrev partsOb (pt : Str) (a : Addr) (t1 t2 : Tok) (n : Nat) : Obj := listOf #[.str pt t1, .ref a, .str pt t2] n
/-- what holds at each test of the loop -/
def TJ (b : List (Str × Value)) (S D : Addr) (oD : Obj) (L0 : List Str) (R0 : Str) (n : Nat) (m : Str → Option Value) (news : List (Addr × Obj)) : Prop :=
  ∃ y ty i ti ve acc us k led, m = mform b ve (.str y ty) (.int i ti) (.ref S) ∧ news = (S, listOf (List.toArray us) k) :: (D, oD) :: led ∧ HitLed led ∧ LCg.Off1 S led ∧ StrsAre us acc ∧ 0 ≤ i ∧ y.length ≤ 100 ∧ n = ((y.length : Int) - i).toNat ∧ us.length + n ≤ 100 ∧
    ∃ f, n ≤ f ∧ acc ++ (takenF f y i).1 = L0 ∧ (takenF f y i).2 = R0
section
variable {h₀ h' : Heap} {L : Addr} {s : Shared} {Q : Flow → Shared → Prop} {b : List (Str × Value)} {S D : Addr} {oD : Obj} {L0 acc : List Str} {R0 y : Str} {n tk k f : Nat} {ve : Option Value} {u : Value} {t' ty ti t9 : Tok} {i e : Int} {us : List Value} {led led' : List (Addr × Obj)} {q q2 : Addr × Obj} {r : List Int}
theorem no_turn (F : Fr h₀ L h' (fun z => if z = nF then some (.int (i + 1) t') else if z = nE then some u else mform b ve (.str y ty) (.int i ti) (.ref S) z)) (N : News h₀ L h' (q :: q2 :: (S, listOf (List.toArray us) k) :: (D, oD) :: led))
    (hl : HitLed led) (hoff : LCg.Off1 S led) (hI : StrsAre us acc) (hi : 0 ≤ i) (hlt : i < (y.length : Int)) (hy : y.length ≤ 100) (hn : n = ((y.length : Int) - i).toNat) (hsz : us.length + n ≤ 100) (hf : n ≤ f)
    (e1 : acc ++ (takenF f y i).1 = L0) (e2 : (takenF f y i).2 = R0) (eN : endsOf y i = []) : WhileStep2 h₀ L s (TJ b S D oD L0 R0) Q n .next { s with heap := h', toks := tk } := by
  have e3 := taken_no (f := f) hlt eN (by omega)
  rw [e3] at e1 e2
  exact step2 F (news_tail (news_tail N)) (fun _ h => h) (n' := ((y.length : Int) - (i + 1)).toNat) (by omega)
    ⟨y, ty, i + 1, t', some u, acc, us, k, led, mf_step, rfl, hl, hoff, hI, by omega, hy, rfl, by omega, f - 1, by omega, e1, e2⟩
theorem hit_turn (F : Fr h₀ L h' (fun z => if z = nT then some (.str (cutF y i e) t') else if z = nE then some u else mform b ve (.str y ty) (.int i ti) (.ref S) z))
    (N : News h₀ L h' (q :: (S, listOf (us.toArray.push (.str (stripQ (Txt.slice y (some (i + 1)) (some (e - 1)))) t9)) k) :: (D, oD) :: led'))
    (hl : HitLed led') (hoff : LCg.Off1 S led') (hI : StrsAre us acc) (hi : 0 ≤ i) (hlt : i < (y.length : Int)) (hy : y.length ≤ 100) (hn : n = ((y.length : Int) - i).toNat) (hsz : us.length + n ≤ 100) (hf : n ≤ f)
    (e1 : acc ++ (takenF f y i).1 = L0) (e2 : (takenF f y i).2 = R0) (eC : endsOf y i = e :: r) (bC : i + 2 ≤ e ∧ e ≤ (y.length : Int)) : WhileStep2 h₀ L s (TJ b S D oD L0 R0) Q n .next { s with heap := h', toks := tk } := by
  have e3 := taken_hit (f := f) hlt eC (by omega)
  have hc := cut_length hi (by omega) bC.2
  rw [e3] at e1 e2
  rw [List.push_toArray] at N
  exact step2 F (news_tail N) (fun _ h => h) (n' := (((cutF y i e).length : Int) - i).toNat) (by omega)
    ⟨cutF y i e, t', i, ti, some u, acc ++ [stripQ (Txt.slice y (some (i + 1)) (some (e - 1)))], us ++ [_], k, led', mf_hit, rfl, hl, hoff, strsAre_append hI (.cons _ _ .nil), hi, by omega, rfl, by
      rw [List.length_append, List.length_singleton]; omega, f - 1, by omega, by rw [List.append_assoc]; exact e1, e2⟩
theorem exit_turn (hlt : ¬ i < (y.length : Int)) (hI : StrsAre us acc) (e1 : acc ++ (takenF f y i).1 = L0) (e2 : (takenF f y i).2 = R0) : StrsAre us L0 ∧ y = R0 := by
  rw [taken_end hlt] at e1 e2
  rw [List.append_nil] at e1
  exact ⟨e1 ▸ hI, e2⟩
end
abbrev RTaken (x : Str) : Ret2 := fun s Q => ∀ T S h' tk ws k t oT ps, s.heap.get? T = none → s.heap.get? S = none → T ≠ S → Kept [83] s.heap h' → h'.get? T = some oT → oT.cls = .type "tuple" → (∃ k, oT.data = .seq #[.ref S, .str (takenF x.length x 0).2 t] k) →
  h'.get? S = some (listOf (List.toArray ws) k) → StrsAre ws (takenF x.length x 0).1 → h'.get? 83 = some (tabObj ps) → Q (.ref T) { s with heap := h', toks := tk }
theorem taken_ret {h₀ g h' : Heap} {L L' : Addr} {m : Str → Option Value} {s : Shared} {Q : Value → Shared → Prop} {x : Str} {T S D : Addr} {oT oD oZ : Obj} {us : List Value} {k tk : Nat} {t : Tok} {ps : Array Value} {r : List (Addr × Obj)} (hret : RTaken x s Q)
    (kg : Kept [D, 83] s.heap g) (N0 : News h₀ L s.heap [(D, oD), (83, oZ)]) (F : Fr g L' h' m) (N : News g L' h' ((T, oT) :: (S, listOf (List.toArray us) k) :: (D, oD) :: (83, tabObj ps) :: r))
    (hTS : @Ne Nat T S) (hTD : @Ne Nat T D) (hT8 : @Ne Nat T 83) (hSD : @Ne Nat S D) (hS8 : @Ne Nat S 83) (hc : oT.cls = .type "tuple") (hd : ∃ k, oT.data = .seq #[.ref S, .str (takenF x.length x 0).2 t] k) (hI : StrsAre us (takenF x.length x 0).1) :
    Q (.ref T) { s with heap := h', toks := tk } := by
  have nT := N (T, oT) (by simp)
  have nS := N (S, listOf (List.toArray us) k) (by simp)
  have nD := N (D, oD) (by simp)
  have n8 := N ((83 : Addr), tabObj ps) (by simp)
  refine hret T S h' tk us k t oT ps (kg_off kg nT.2.2 ?_) (kg_off kg nS.2.2 ?_) hTS (fun b o hb e => ?_) nT.1 hc hd nS.1 hI n8.1
  · simp only [List.mem_cons, List.not_mem_nil, or_false, not_or]; exact ⟨hTD, hT8⟩
  · simp only [List.mem_cons, List.not_mem_nil, or_false, not_or]; exact ⟨hSD, hS8⟩
  · by_cases hbD : b = D
    · subst hbD
      have e1 := (N0 (b, oD) (by simp)).1
      have e1' : s.heap.get? b = some oD := e1
      rw [e] at e1'
      cases e1'
      exact nD.1
    · refine F.keep b o (kg b o ?_ e)
      simp only [List.mem_cons, List.not_mem_nil, or_false, not_or] at hb ⊢
      exact ⟨hbD, hb⟩
local macro_rules | `(tactic| walk_at "compareOp Eq ref ref") => `(tactic| (k_here; (with_reducible show wpAny _ _ (compareOp CmpOp.Eq (Value.ref _) (Value.ref _)) _ _ _); k_dflt (refine' ke_eq_ints ?a ?b ?c ?d ?e ?_; (case a => exact News.isList (by k_asm) (by k_mem)); (case b => exact News.isList (by k_asm) (by k_mem)); (case c => first | exact .nil | exact .cons _ _ (by assumption)); (case d => exact .nil); (case e => ktr_units); k_whole); (try simp only [decide_true, Bool.not_true, List.cons_ne_nil, reduceCtorEq, decide_false, Bool.not_false])))
local macro_rules | `(tactic| walk_at "subscriptTail Name Constant ref int") => `(tactic| (k_here; (with_reducible show wpAny _ _ (subscriptTail _ _ (Value.ref _) (Value.int _ _)) _ _ _); k_dflt (refine' item0 ?a ?_; (case a => exact News.isList (by k_asm) (by k_mem)); k_whole)))
local macro_rules | `(tactic| walk_at "call ref") => `(tactic| (k_here; (with_reducible show wpAny _ _ (call (Value.ref 81) _) _ _ _); k_dflt (refine' ends_call _ ?h1 ?h2 _ _ _ _ _ _ _ _ _ _ ?x ?i ?j ?B ?F ?K ?N ?D ?T ?k ?c1 ?c2 ?d ?u ?hN ?hC; (case h1 => assumption); (case h2 => assumption); (case x => assumption); (case i => assumption); (case j => first | assumption | omega); (case B => k_asm); (case F => k_asm); (case K => k_asm); (case N => k_asm); (case D => k_mem); (case T => k_asm); (case k => exact rfl); (case c1 => k_asm); (case c2 => k_asm); (case d => ktr_room); (case u => ktr_units)); (case' hN => (intro eN' Dr' h' tk' F' N' o1'; (try simp only [LCg.Off1, and_true] at o1'))); (case' hC => (intro e' r' te' ys' Dr' h' tk' eC' bC' hI' F' N' o1'; (try simp only [LCg.Off1, and_true] at o1')))))
local macro_rules | `(tactic| walk_at "call ref") => `(tactic| (k_here; (with_reducible show wpAny _ _ (call (Value.ref 45) [Value.str _ _]) _ _ _); k_dflt (refine' strip_spec _ _ ?x _ _ _ _ _ _ _ _ _ _ _ _ _ _ _ _ _ ?B ?F ?K ?N ?T ?k ?c1 ?c2 ?d ?u ?_; (case x => first | assumption | omega); (case B => k_asm); (case F => k_asm); (case K => k_asm); (case N => k_asm); (case T => k_asm); (case k => exact rfl); (case c1 => k_asm); (case c2 => k_asm); (case d => ktr_room); (case u => ktr_units); k_whole); intro t9 h' tk' F' N'))
local macro_rules | `(tactic| walk_at "call ref") => `(tactic| (k_here; (with_reducible show wpAny _ _ (call (Value.ref 88) _) _ _ _); k_dflt (refine' hit_call0 _ _ _ _ _ _ _ _ _ ?x ?i ?i2 ?j ?j2 ?B ?F ?K ?N ?n ?T ?k ?c1 ?c2 ?d ?u ?_; (case N => first | k_asm | exact news_tail (by k_asm)); (case x => first | assumption | omega); (case i => omega); (case i2 => omega); (case j => omega); (case j2 => omega); (case B => k_asm); (case F => k_asm); (case K => k_asm); (case n => exact ⟨by k_ne, by k_ne, by k_ne, trivial⟩); (case T => k_asm); (case k => exact rfl); (case c1 => k_asm); (case c2 => k_asm); (case d => ktr_room); (case u => ktr_units); k_whole); intro f' h' tk' k1' k2' o1' o2' ob1' ob2' F' N' n1' n2' U'; (try simp only [LCg.Off1, and_true] at n1' n2')))
local macro_rules | `(tactic| walk_at "call ref") => `(tactic| (k_here; (with_reducible show wpAny _ _ (call (Value.ref 88) _) _ _ _); k_dflt (refine' hit_call1 _ _ _ _ _ _ _ _ _ _ _ _ _ ?o1 ?o2 ?x ?i ?i2 ?j ?j2 ?B ?F ?K ?N ?T ?k ?c1 ?c2 ?d ?u ?_; (case N => first | k_asm | exact news_tail (by k_asm)); (case o1 => assumption); (case o2 => assumption); (case x => first | assumption | omega); (case i => omega); (case i2 => omega); (case j => omega); (case j2 => omega); (case B => k_asm); (case F => k_asm); (case K => k_asm); (case T => k_asm); (case k => exact rfl); (case c1 => k_asm); (case c2 => k_asm); (case d => ktr_room); (case u => ktr_units); k_whole); intro f' h' tk' F' N' U'))
local macro_rules | `(tactic| walk_at "call ref") => `(tactic| (k_here; (with_reducible show wpAny _ _ (call (Value.ref 38) _) _ _ _); k_dflt (refine' un_call ?U ?F ?N ?_; (case U => assumption); (case F => k_asm); (case N => k_asm); k_whole); intro t9 h' tk' F' N'))
set_option maxHeartbeats 16000000 in
theorem taken_spec {w : World} {p : Program} {loose : List Str} {mean : ExcName → Option Value} {mg mb : Str → Option Value} (pt : Str) (hpt : Txt.stripChars pt (Str.ofString "[]") = Str.ofString "/") (hpl : pt.length ≤ 10) (x : Str) (t t1 t2 : Tok) (D a : Addr) (n : Nat) (hD83 : @Ne Nat D 83) (hx : x.length ≤ 100) :
    Spec2 w p loose mean mg mb 6 140 95 [.ref D, .ref a, .str x t] [(D, listOf #[.str pt t1, .ref a, .str pt t2] n), (83, tabObj #[])] (fun _ => True) (RTaken x) := by
  unfold Spec2
  k_fill
  intros
  rename_i hpre hret
  refine wpAny_call ?_
  k_dflt (refine' enterP (binds := [(Str.ofString "parts", .ref D), (Str.ofString "star", .ref a), (Str.ofString "text", .str x t)]) ?k1 ?k2 ?k3 ?k4 ?k5 ?kA ?kF ?kK ?k6 ?k7 ?k8 ?k9 ?kB ?_ ?c2 ?c3 ?c4 ?c5; (case kA => exact rfl); (case kF => exact rfl); (case kK => assumption); (case k1 => k_asm); (case k2 => k_asm); (case k3 => k_asm); (case k4 => k_asm); (case k5 => k_asm); (case k6 => k_is); (case k7 => k_is); (case k8 => ktr_room); (case k9 => exact BindsTo.of_eq rfl); (case c5 => decide); (case kB => exact locs rfl); (case c2 => exact rfl); (case c3 => exact rfl); (case c4 => exact rfl); k_whole; intro g' L' h' kg kh hsz FG' F' N' B' X' T' l1; (try k_lt l1); (try dsimp only); (try k_lift B'); (try k_fold))
  iterate 12 (first | (k_unfold; (try dsimp only)) | walk1 | (dsimp only; walk1))
  rename Fr g' L' _ _ => kF
  rename News g' L' _ _ => kN
  refine with_S kN ?_
  intro S eS
  subst eS
  refine' While_inv2 (TJ [(Str.ofString "parts", .ref D), (Str.ofString "star", .ref a), (Str.ofString "text", .str x t)] S D (partsOb pt a t1 t2 n) (takenF x.length x 0).1 (takenF x.length x 0).2) (n₀ := x.length) kF kN ?hJ ?turn
  case hJ =>
    refine ⟨x, t, 0, tk, none, [], [], 0, [(83, tabObj #[])], ?_, rfl, .fresh, ⟨?_, trivial⟩, .nil, by decide, hx, by omega, by simpa using hx, x.length, Nat.le_refl _, by simp, rfl⟩
    rotate_left
    · k_ne
    funext z
    by_cases h1 : z = nE
    · subst h1; rfl
    · by_cases h2 : z = nT
      · subst h2; rfl
      · by_cases h3 : z = nF
        · subst h3; rfl
        · by_cases h4 : z = nS
          · subst h4; rfl
          · simp only [mform, if_neg h1, if_neg h2, if_neg h3, if_neg h4]
  intro n1 m1 news1 h1 tk1 F1 N1 hJ1
  obtain ⟨y, ty, i, ti, ve, acc, us, k, led, rfl, rfl, hl, hoff, hI, hi, hy, hn, hsz, f, hf, e1, e2⟩ := hJ1
  clear kF kN
  have hoff0 := hoff
  cases hl with
  | fresh =>
    simp only [LCg.Off1, and_true] at hoff
    k_steps
    · rename endsOf y i = _ => eC
      exact hit_turn (by assumption) (by assumption) (.again _ _ _ _ (by assumption) (by assumption)) ⟨by k_ne, by k_ne, by k_ne, trivial⟩ hI hi (by omega) hy hn hsz hf e1 e2 eC (by assumption)
    · rename endsOf y i = _ => eN
      exact no_turn (by assumption) (by assumption) .fresh hoff0 hI hi (by omega) hy hn hsz hf e1 e2 eN
    · obtain ⟨hI2, rfl⟩ := exit_turn (by omega) hI e1 e2
      rename News g' L' _ _ => kN
      exact taken_ret hret kg (by assumption) (by assumption) kN (by k_ne) (by k_ne) (by k_ne) (by k_ne) (by k_ne) rfl ⟨_, rfl⟩ hI2
  | again k1 k2 o1 o2 ob1 ob2 =>
    simp only [LCg.Off1, and_true] at hoff
    k_steps
    · with_reducible walk_at "call ref"
      all_goals k_steps
      all_goals first
        | (rename endsOf y i = [] => eN; exact no_turn (by assumption) (by assumption) (.again _ _ _ _ ob1 ob2) hoff0 hI hi (by omega) hy hn hsz hf e1 e2 eN)
        | (rename endsOf y i = _ => eC; exact hit_turn (by assumption) (by assumption) (.again _ _ _ _ ob1 ob2) ⟨by k_ne, by k_ne, by k_ne, trivial⟩ hI hi (by omega) hy hn hsz hf e1 e2 eC (by assumption))
    · obtain ⟨hI2, rfl⟩ := exit_turn (by omega) hI e1 e2
      rename News g' L' _ _ => kN
      exact taken_ret hret kg (by assumption) (by assumption) kN (by k_ne) (by k_ne) (by k_ne) (by k_ne) (by k_ne) rfl ⟨_, rfl⟩ hI2
end Mine
end

section
open PySem PySem.W PyProof.Rows PySem.Calls
namespace Mine
theorem slash_is : Str.ofString "/" = (⟨#[47]⟩ : Str) := by decide +kernel
theorem slashAt_eq (x : Str) (q : Int) : slashAt x q = decide ((Txt.charAt x q).getD 0 = 47) := by
  have h := StrLaws.found_one (⟨#[47]⟩ : Str) ((Txt.charAt x q).getD 0)
  have e : slashAt x q = !(Builtin.Str.occurrences (⟨#[47]⟩ : Str) ⟨#[(Txt.charAt x q).getD 0]⟩ 0 (⟨#[47]⟩ : Str).length 1).isEmpty := by
    unfold slashAt Txt.item; rw [slash_is]
  rw [e, h]
  simp
theorem charAt_nat (x : Str) (q : Nat) : Txt.charAt x q = x.cps.toList[q]? := by
  unfold Txt.charAt
  by_cases h : q < x.length
  · rw [StrLaws.seqIndex_nonneg (by omega) (by omega)]
    simp
  · have e1 : x.cps.toList[q]? = none := by
      rw [List.getElem?_eq_none_iff]; simpa [Str.length] using h
    rw [e1]
    have e : seqIndex? (q : Int) x.length = none := by unfold seqIndex?; simp; omega
    rw [e]; rfl
theorem slash_iff (x : Str) (q : Nat) : slashAt x q = decide (x.cps.toList[q]? = some 47) := by
  rw [slashAt_eq, charAt_nat]
  cases x.cps.toList[q]? with
  | none => simp
  | some c => simp
theorem seg_none {a : Int} {n : Nat} {P : Int → Bool} (h : ∀ q, a ≤ q → q < (n : Int) → P q = false) : (segI a n).filter P = [] := by
  rw [List.filter_eq_nil_iff]
  intro q hq
  have := seg_mem hq
  rw [h q this.1 this.2]
  decide
theorem seg_head {a : Int} {m : Nat} {P : Int → Bool} (ha : a ≤ (m : Int)) (h1 : ∀ q, a ≤ q → q < (m : Int) → P q = false) (h2 : P m = true) : ∀ k, ∃ r, (segI a (m + 1 + k)).filter P = (m : Int) :: r
  | 0 => by
    refine ⟨[], ?_⟩
    rw [Nat.add_zero, segI_succ, List.filter_append, seg_none h1, if_pos ha]
    simp [h2]
  | k + 1 => by
    obtain ⟨r, e⟩ := seg_head ha h1 h2 k
    refine ⟨r ++ (if a ≤ ((m + 1 + k : Nat) : Int) then [((m + 1 + k : Nat) : Int)] else []).filter P, ?_⟩
    rw [show m + 1 + (k + 1) = (m + 1 + k) + 1 by omega, segI_succ, List.filter_append, e]
    rfl
def J : List (List Nat) → List Nat
  | [] => []
  | [p] => p
  | p :: q :: r => p ++ 47 :: J (q :: r)
def altL : List (List Nat) → List Str × List Nat
  | [] => ([], [])
  | [p] => ([], p)
  | [p, q] => ([], p ++ 47 :: q)
  | p :: q :: r :: rest => (stripQ ⟨q.toArray⟩ :: (altL (r :: rest)).1, p ++ (altL (r :: rest)).2)
theorem altL_cons (c : Nat) (p : List Nat) : ∀ t, altL ((c :: p) :: t) = ((altL (p :: t)).1, c :: (altL (p :: t)).2)
  | [] => rfl
  | [_] => rfl
  | _ :: _ :: _ => rfl
theorem J_cons (c : Nat) (p : List Nat) : ∀ t, J ((c :: p) :: t) = c :: J (p :: t)
  | [] => rfl
  | _ :: _ => rfl
theorem ends_no {l : List Nat} {i : Nat} (h : l[i]? ≠ some 47) : endsOf ⟨l.toArray⟩ i = [] := by
  unfold endsOf
  rw [slash_iff, if_neg (by simpa using h)]
theorem ends_none {l : List Nat} {i : Nat} (h : ∀ q, i + 1 ≤ q → l[q]? ≠ some 47) : endsOf ⟨l.toArray⟩ i = [] := by
  unfold endsOf
  split
  · rw [seg_none, List.map_nil]
    intro q h1 h2
    obtain ⟨j, rfl⟩ : ∃ j : Nat, q = j := ⟨q.toNat, by omega⟩
    rw [slash_iff]
    have := h j (by omega)
    simp [this]
  · rfl
theorem ends_some {l : List Nat} {i m : Nat} (h0 : l[i]? = some 47) (him : i + 1 ≤ m) (hm : l[m]? = some 47) (h : ∀ q, i + 1 ≤ q → q < m → l[q]? ≠ some 47) : ∃ r, endsOf ⟨l.toArray⟩ i = ((m : Int) + 1) :: r := by
  have hml : m < l.length := by
    rcases Nat.lt_or_ge m l.length with h' | h'
    · exact h'
    · rw [List.getElem?_eq_none h'] at hm; cases hm
  have hl : (⟨l.toArray⟩ : Str).length = l.length := by simp [Str.length]
  obtain ⟨r, e⟩ := seg_head (a := (i : Int) + 1) (m := m) (P := fun (q : Int) => decide (q < (⟨l.toArray⟩ : Str).length) && slashAt ⟨l.toArray⟩ q) (by omega) (fun q h1 h2 => by
      obtain ⟨j, rfl⟩ : ∃ j : Nat, q = j := ⟨q.toNat, by omega⟩
      rw [slash_iff]
      have := h j (by omega) (by omega)
      simp [this]) (by rw [slash_iff]; have hm' : (⟨l.toArray⟩ : Str).cps.toList[m]? = some 47 := hm; rw [hm', hl, Bool.and_eq_true]; exact ⟨decide_eq_true (by omega), by simp⟩) (l.length - m)
  refine ⟨r.map (fun (q : Int) => q + 1), ?_⟩
  unfold endsOf
  rw [slash_iff, if_pos (by simpa using h0)]
  have e2 : (⟨l.toArray⟩ : Str).length + 1 = m + 1 + (l.length - m) := by rw [hl]; omega
  rw [e2, e]
  rfl
end Mine
end

section
open PySem PySem.W PyProof.Rows PySem.Calls
namespace Mine
theorem len_mk (l : List Nat) : (⟨l.toArray⟩ : Str).length = l.length := by simp [Str.length]
theorem J_two (p q : List Nat) (r : List (List Nat)) : J (p :: q :: r) = p ++ 47 :: J (q :: r) := rfl
theorem slice_mid (A q B : List Nat) : Txt.slice ⟨(A ++ 47 :: (q ++ B)).toArray⟩ (some ((A.length : Int) + 1)) (some ((A.length + 1 + q.length : Nat) : Int)) = ⟨q.toArray⟩ := by
  have h := StrLaws.sliceText_plain (x := ⟨(A ++ 47 :: (q ++ B)).toArray⟩) (i := (A.length : Int) + 1) (j := ((A.length + 1 + q.length : Nat) : Int)) ⟨by omega, by omega, by simp; omega⟩
  refine h.trans (Str.ext' ?_)
  show List.toArray _ = List.toArray _
  congr 1
  have e1 : ((A.length : Int) + 1).toNat = A.length + 1 := by omega
  have e2 : (((A.length + 1 + q.length : Nat) : Int) - ((A.length : Int) + 1)).toNat = q.length := by omega
  rw [e1, e2]
  show (((A ++ 47 :: (q ++ B)).drop (A.length + 1)).take q.length) = q
  rw [show A.length + 1 = (A ++ [47]).length by simp, show A ++ 47 :: (q ++ B) = (A ++ [47]) ++ (q ++ B) by simp, List.drop_left, List.take_left]
theorem cut_mid (A q B : List Nat) : cutF ⟨(A ++ 47 :: (q ++ 47 :: B)).toArray⟩ (A.length : Int) (((A.length + 1 + q.length : Nat) : Int) + 1) = ⟨(A ++ B).toArray⟩ := by
  have h1 := StrLaws.sliceText_to (x := ⟨(A ++ 47 :: (q ++ 47 :: B)).toArray⟩) (j := (A.length : Int)) ⟨by omega, by simp; omega⟩
  have h2 := StrLaws.sliceText_from (x := ⟨(A ++ 47 :: (q ++ 47 :: B)).toArray⟩) (i := ((A.length + 1 + q.length : Nat) : Int) + 1) ⟨by omega, by simp; omega⟩
  unfold cutF
  have h1' : Txt.slice ⟨(A ++ 47 :: (q ++ 47 :: B)).toArray⟩ none (some (A.length : Int)) = _ := h1
  have h2' : Txt.slice ⟨(A ++ 47 :: (q ++ 47 :: B)).toArray⟩ (some (((A.length + 1 + q.length : Nat) : Int) + 1)) none = _ := h2
  rw [h1', h2']
  apply Str.ext'
  rw [Str.cps_append]
  have e1 : ((A.length : Int) - 0).toNat = A.length := by omega
  have e2 : (((A.length + 1 + q.length : Nat) : Int) + 1).toNat = A.length + 1 + q.length + 1 := by omega
  rw [e1, e2]
  show List.toArray (((A ++ 47 :: (q ++ 47 :: B)).drop 0).take A.length) ++ List.toArray (((A ++ 47 :: (q ++ 47 :: B)).drop (A.length + 1 + q.length + 1)).take _) = List.toArray (A ++ B)
  rw [List.drop_zero, List.take_left]
  have e3 : (A ++ 47 :: (q ++ 47 :: B)).drop (A.length + 1 + q.length + 1) = B := by
    rw [show A ++ 47 :: (q ++ 47 :: B) = (A ++ 47 :: (q ++ [47])) ++ B by simp, show A.length + 1 + q.length + 1 = (A ++ 47 :: (q ++ [47])).length by simp; omega, List.drop_left]
  rw [e3, List.take_of_length_le (by simp; omega)]
  simp
theorem at_mid (A B : List Nat) (c : Nat) : (A ++ c :: B)[A.length]? = some c := by simp
theorem taken_J : ∀ (n : Nat) (A : List Nat) (ps : List (List Nat)), ps ≠ [] → (∀ p ∈ ps, 47 ∉ p) → (J ps).length ≤ n → takenF n ⟨(A ++ J ps).toArray⟩ (A.length : Int) = ((altL ps).1, ⟨(A ++ (altL ps).2).toArray⟩) := by
  intro n
  induction n with
  | zero =>
    intro A ps hne hf hl
    match ps, hne with
    | [p], _ =>
      have : p = [] := List.eq_nil_of_length_eq_zero (Nat.le_zero.mp hl)
      subst this
      rfl
    | p :: q :: r, _ => rw [J_two] at hl; simp at hl
  | succ n ih =>
    intro A ps hne hf hl
    match ps, hne with
    | (c :: p) :: t, _ =>
      have hc : c ≠ 47 := fun e => hf _ List.mem_cons_self (e ▸ List.mem_cons_self)
      rw [J_cons] at hl ⊢
      have hx : ((⟨(A ++ c :: J (p :: t)).toArray⟩ : Str).length : Int) = A.length + 1 + (J (p :: t)).length := by rw [len_mk]; simp; omega
      rw [taken_no (f := n + 1) (by rw [hx]; omega) (ends_no (by rw [at_mid]; simpa using hc)) (by omega), altL_cons]
      have h := ih (A ++ [c]) (p :: t) (by simp) (fun q hq => by
        rcases List.mem_cons.mp hq with rfl | hq
        · exact fun h => hf _ List.mem_cons_self (List.mem_cons_of_mem _ h)
        · exact hf q (List.mem_cons_of_mem _ hq)) (by simpa using hl)
      simp only [List.append_assoc, List.singleton_append, List.length_append, List.length_singleton] at h
      exact h
    | [[]], _ =>
      rw [taken_end (by rw [len_mk]; simp [J])]
      rfl
    | [[], q], _ =>
      have hq : 47 ∉ q := hf q (by simp)
      have hx : ((⟨(A ++ 47 :: q).toArray⟩ : Str).length : Int) = A.length + 1 + q.length := by rw [len_mk]; simp; omega
      show takenF (n + 1) ⟨(A ++ 47 :: q).toArray⟩ _ = _
      rw [taken_no (f := n + 1) (by rw [hx]; omega) (ends_none (fun j hj e => hq ?_)) (by omega)]
      · have h := ih (A ++ [47]) [q] (by simp) (fun p hp => by rw [List.mem_singleton.mp hp]; exact hq) (by simpa [J] using hl)
        simp only [List.append_assoc, List.singleton_append, List.length_append, List.length_singleton, J, altL] at h
        exact h
      · rw [List.getElem?_append_right (by omega), show j - A.length = (j - A.length - 1) + 1 by omega, List.getElem?_cons_succ] at e
        exact List.mem_of_getElem? e
    | [] :: q :: r :: rest, _ =>
      have hq : 47 ∉ q := hf q (by simp)
      have eJ : J ([] :: q :: r :: rest) = 47 :: (q ++ 47 :: J (r :: rest)) := rfl
      rw [eJ] at hl ⊢
      have hx : ((⟨(A ++ 47 :: (q ++ 47 :: J (r :: rest))).toArray⟩ : Str).length : Int) = A.length + 1 + q.length + 1 + (J (r :: rest)).length := by rw [len_mk]; simp; omega
      obtain ⟨tl, e⟩ := ends_some (l := A ++ 47 :: (q ++ 47 :: J (r :: rest))) (i := A.length) (m := A.length + 1 + q.length) (at_mid _ _ _) (by omega) (by
        rw [show A ++ 47 :: (q ++ 47 :: J (r :: rest)) = (A ++ 47 :: q) ++ 47 :: J (r :: rest) by simp, show A.length + 1 + q.length = (A ++ 47 :: q).length by simp; omega]
        exact at_mid _ _ _) (fun j h1 h2 h3 => hq (by
          rw [List.getElem?_append_right (by omega), show j - A.length = (j - A.length - 1) + 1 by omega, List.getElem?_cons_succ, List.getElem?_append_left (by omega)] at h3
          exact List.mem_of_getElem? h3))
      rw [taken_hit (f := n + 1) (by rw [hx]; omega) e (by omega), show ((A.length + 1 + q.length : Nat) : Int) + 1 - 1 = ((A.length + 1 + q.length : Nat) : Int) by omega, slice_mid, cut_mid]
      have h := ih A (r :: rest) (by simp) (fun p hp => hf p (by simp at hp ⊢; rcases hp with h | h <;> simp [h])) (by simp at hl; omega)
      rw [show n + 1 - 1 = n by omega, h]
      rfl
end Mine
end

section
open PySem PySem.W PyProof.Rows PySem.Calls
namespace Mine
section
variable {α : Type}
def E2 (xs : List α) (p : Nat) : List α := ((List.range (p + 1)).map (fun k => 2 * k)).filterMap (xs[·]?)
def O2 (xs : List α) (p : Nat) : List α := ((List.range p).map (fun k => 2 * k + 1)).filterMap (xs[·]?)
theorem E2_step (a b : α) (t : List α) (p : Nat) : E2 (a :: b :: t) (p + 1) = a :: E2 t p := by
  unfold E2
  rw [List.range_succ_eq_map, List.map_cons, List.filterMap_cons_some (b := a) (by rfl), List.map_map, List.filterMap_map, List.filterMap_map]
  congr 1
theorem O2_step (a b : α) (t : List α) (p : Nat) : O2 (a :: b :: t) (p + 1) = b :: O2 t p := by
  unfold O2
  rw [List.range_succ_eq_map, List.map_cons, List.filterMap_cons_some (b := b) (by rfl), List.map_map, List.filterMap_map, List.filterMap_map]
  congr 1
theorem E2_zero (a : α) (t : List α) : E2 (a :: t) 0 = [a] := rfl
theorem O2_zero (t : List α) : O2 t 0 = [] := rfl
theorem pick_even (xs : List α) (p : Nat) (h : 2 * p + 1 ≤ xs.length) : pickL xs none (some (2 * (p : Int) + 1)) (some 2) = E2 xs p := by
  have e : sliceBounds none (some (2 * (p : Int) + 1)) (some 2) xs.length = (0, 2 * (p : Int) + 1, 2) := by
    simp only [sliceBounds, Option.getD_some, if_pos (show (2 : Int) > 0 by decide), if_neg (show ¬ (2 * (p : Int) + 1 < 0) by omega)]
    rw [show max (0 : Int) (min (2 * (p : Int) + 1) xs.length) = 2 * (p : Int) + 1 by omega]
  unfold pickL E2
  rw [e]
  simp only [sliceRange, if_pos (show (2 : Int) > 0 by decide), if_pos (show (0 : Int) < 2 * (p : Int) + 1 by omega)]
  rw [show ((2 * (p : Int) + 1 - 0 + 2 - 1) / 2).toNat = p + 1 by omega]
  congr 1
  refine List.map_congr_left fun k _ => ?_
  omega
theorem pick_odd (xs : List α) (p : Nat) (h : 2 * p + 1 ≤ xs.length) : pickL xs (some 1) (some (2 * (p : Int))) (some 2) = O2 xs p := by
  have e : sliceBounds (some 1) (some (2 * (p : Int))) (some 2) xs.length = (1, 2 * (p : Int), 2) := by
    simp only [sliceBounds, Option.getD_some, if_pos (show (2 : Int) > 0 by decide), if_neg (show ¬ (2 * (p : Int) < 0) by omega), if_neg (show ¬ ((1 : Int) < 0) by decide)]
    rw [show max (0 : Int) (min (2 * (p : Int)) xs.length) = 2 * (p : Int) by omega, show max (0 : Int) (min 1 (xs.length : Int)) = 1 by omega]
  unfold pickL O2
  rw [e]
  simp only [sliceRange, if_pos (show (2 : Int) > 0 by decide)]
  have e2 : (if (1 : Int) < 2 * (p : Int) then (2 * (p : Int) - 1 + 2 - 1) / 2 else 0).toNat = p := by split <;> omega
  rw [e2]
  congr 1
  refine List.map_congr_left fun k _ => ?_
  omega
theorem pick_tail (xs : List α) (p : Nat) (h : 2 * p + 1 ≤ xs.length) : pickL xs (some (2 * (p : Int) + 1)) none none = xs.drop (2 * p + 1) := by
  have e : sliceBounds (some (2 * (p : Int) + 1)) none none xs.length = (2 * (p : Int) + 1, (xs.length : Int), 1) := by
    simp only [sliceBounds, Option.getD_none, if_pos (show (1 : Int) > 0 by decide), if_neg (show ¬ (2 * (p : Int) + 1 < 0) by omega)]
    rw [show max (0 : Int) (min (2 * (p : Int) + 1) xs.length) = 2 * (p : Int) + 1 by omega]
  unfold pickL
  rw [e]
  simp only [sliceRange, if_pos (show (1 : Int) > 0 by decide)]
  have e2 : (if 2 * (p : Int) + 1 < (xs.length : Int) then ((xs.length : Int) - (2 * (p : Int) + 1) + 1 - 1) / 1 else 0).toNat = xs.length - (2 * p + 1) := by split <;> omega
  rw [e2]
  have hp := StrLaws.picks xs (xs.length - (2 * p + 1)) (2 * p + 1) (by omega)
  rw [List.take_of_length_le (by simp)] at hp
  rw [← hp]
  congr 1
  refine List.map_congr_left fun k _ => ?_
  omega
end
theorem join_empty : ∀ (a : Str) (l : List Str), (Str.join (Str.ofString "") (a :: l)).cps.toList = a.cps.toList ++ (Str.join (Str.ofString "") l).cps.toList
  | a, [] => by simp [Str.join, Str.empty]
  | a, b :: l => by
    have e : Str.ofString "" = Str.empty := by decide +kernel
    show ((a ++ Str.ofString "" ++ Str.join (Str.ofString "") (b :: l)).cps).toList = _
    rw [e, Str.append_empty, Str.cps_append, Array.toList_append]
theorem due_pieces : ∀ (ps : List Str), ps ≠ [] → (O2 ps ((ps.length - 1) / 2)).map stripQ = (altL (ps.map (·.cps.toList))).1 ∧
    (Str.join (Str.ofString "") (E2 ps ((ps.length - 1) / 2) ++ (ps.drop (2 * ((ps.length - 1) / 2) + 1)).map (slash ++ ·))).cps.toList = (altL (ps.map (·.cps.toList))).2
  | [p], _ => by simp [E2_zero, O2_zero, altL, Str.join]
  | [p, q], _ => by
    have e : slash.cps.toList = [47] := by decide +kernel
    refine ⟨by simp [O2_zero, altL], ?_⟩
    have e0 : ([p, q].length - 1) / 2 = 0 := by simp
    rw [e0, E2_zero]
    show (Str.join (Str.ofString "") [p, slash ++ q]).cps.toList = p.cps.toList ++ 47 :: q.cps.toList
    rw [join_empty]
    show p.cps.toList ++ (slash ++ q).cps.toList = _
    rw [Str.cps_append, Array.toList_append, e]
    rfl
  | p :: q :: r :: rest, _ => by
    have ih := due_pieces (r :: rest) (by simp)
    have e : ((p :: q :: r :: rest).length - 1) / 2 = ((r :: rest).length - 1) / 2 + 1 := by simp only [List.length_cons]; omega
    rw [e, O2_step, E2_step]
    refine ⟨?_, ?_⟩
    · rw [List.map_cons, ih.1]; rfl
    · have e2 : (p :: q :: r :: rest).drop (2 * (((r :: rest).length - 1) / 2 + 1) + 1) = (r :: rest).drop (2 * (((r :: rest).length - 1) / 2) + 1) := by
        rw [show 2 * (((r :: rest).length - 1) / 2 + 1) + 1 = (2 * (((r :: rest).length - 1) / 2) + 1) + 1 + 1 by omega]; rfl
      rw [e2, List.cons_append, join_empty, ih.2]
      rfl
end Mine
end

section
open PySem PySem.W PyProof.Rows PySem.Calls
namespace Mine
theorem quote_is : Str.ofString "\"" = (⟨#[34]⟩ : Str) := by decide +kernel
def headQ (l : List Nat) : List Nat := if l.head? = some 34 then l.drop 1 else l
def lastQ (l : List Nat) : List Nat := if l.getLast? = some 34 then l.dropLast else l
theorem starts_iff (x : Str) : Txt.startswith x (Str.ofString "\"") = decide (x.cps.toList.head? = some 34) := by
  unfold Txt.startswith
  rw [quote_is, StrLaws.subAt_eq]
  have hl : x.length = x.cps.toList.length := by simp [Str.length]
  rw [hl]
  cases x.cps.toList with
  | nil => simp [Str.length]
  | cons a r => simp [Str.length]; rfl
theorem ends_iff (x : Str) : Txt.endswith x (Str.ofString "\"") = decide (x.cps.toList.getLast? = some 34) := by
  unfold Txt.endswith
  rw [quote_is, StrLaws.subAt_eq]
  have hl : x.length = x.cps.toList.length := by simp [Str.length]
  rw [hl]
  rcases List.eq_nil_or_concat x.cps.toList with h | ⟨r, a, h⟩
  · rw [h]; simp [Str.length]
  · rw [h]; simp [Str.length]; rfl
theorem strip_list (x : Str) : (stripQ x).cps.toList = lastQ (headQ x.cps.toList) := by
  have hl : ∀ y : Str, y.length = y.cps.toList.length := fun y => by simp [Str.length]
  have h1 : (if Txt.startswith x (Str.ofString "\"") then Txt.slice x (some 1) none else x).cps.toList = headQ x.cps.toList := by
    rw [starts_iff]
    unfold headQ
    by_cases h : x.cps.toList.head? = some 34
    · rw [if_pos (by simpa using h), if_pos h]
      have hlen : 1 ≤ x.cps.toList.length := by
        cases e : x.cps.toList with
        | nil => rw [e] at h; cases h
        | cons a r => simp
      have hs : Txt.slice x (some 1) none = _ := StrLaws.sliceText_from (x := x) (i := 1) ⟨by decide, by omega⟩
      rw [hs]
      show (List.take _ (List.drop 1 x.cps.toList)) = _
      rw [List.take_of_length_le (by simp)]
    · rw [if_neg (by simpa using h), if_neg h]
  unfold stripQ
  generalize hy : (if Txt.startswith x (Str.ofString "\"") then Txt.slice x (some 1) none else x) = y at h1
  show (if Txt.endswith y (Str.ofString "\"") then Txt.slice y none (some (-1)) else y).cps.toList = _
  rw [← h1, ends_iff]
  unfold lastQ
  by_cases h : y.cps.toList.getLast? = some 34
  · rw [if_pos (by simpa using h), if_pos h]
    have hlen : 1 ≤ y.cps.toList.length := by
      cases e : y.cps.toList with
      | nil => rw [e] at h; cases h
      | cons a r => simp
    have hs : Txt.slice y none (some (-1)) = _ := StrLaws.sliceText_to_neg (x := y) (j := -1) (by decide) (by rw [hl]; omega)
    rw [hs]
    show (List.take _ (List.drop 0 y.cps.toList)) = _
    rw [List.drop_zero, List.dropLast_eq_take]
    congr 1
    rw [hl]; omega
  · rw [if_neg (by simpa using h), if_neg h]
end Mine
end

section
open PySem PySem.W PyProof.Rows PySem.Calls
namespace Mine
theorem pick_init {α : Type} (xs : List α) (h : 1 ≤ xs.length) : pickL xs none (some (-1)) none = xs.dropLast := by
  have e : sliceBounds none (some (-1)) none xs.length = (0, (xs.length : Int) - 1, 1) := by
    simp only [sliceBounds, Option.getD_none, if_pos (show (1 : Int) > 0 by decide), if_pos (show ((-1 : Int) < 0) by decide)]
    rw [show max (0 : Int) (min (-1 + (xs.length : Int)) xs.length) = (xs.length : Int) - 1 by omega]
  unfold pickL
  rw [e]
  simp only [sliceRange, if_pos (show (1 : Int) > 0 by decide)]
  have e2 : (if (0 : Int) < (xs.length : Int) - 1 then ((xs.length : Int) - 1 - 0 + 1 - 1) / 1 else 0).toNat = xs.length - 1 := by split <;> omega
  rw [e2, List.dropLast_eq_take]
  have hp := StrLaws.picks xs (xs.length - 1) 0 (by omega)
  rw [List.drop_zero] at hp
  rw [← hp]
  congr 1
  refine List.map_congr_left fun k _ => ?_
  omega
theorem pick_tl {α : Type} (xs : List α) (h : 1 ≤ xs.length) : pickL xs (some 1) none none = xs.drop 1 := pick_tail xs 0 (by omega)
abbrev qJ (ps : List Str) : List Nat := (Str.join (Str.ofString "\"") ps).cps.toList
theorem qJ_two (p r : Str) (t : List Str) : qJ (p :: r :: t) = p.cps.toList ++ 34 :: qJ (r :: t) := by
  show ((p ++ Str.ofString "\"" ++ Str.join (Str.ofString "\"") (r :: t)).cps).toList = _
  have e : (Str.ofString "\"").cps.toList = [34] := by rw [quote_is]
  rw [Str.cps_append, Str.cps_append, Array.toList_append, Array.toList_append, e, List.append_assoc]
  rfl
theorem beq_empty (p : Str) : (p == Str.ofString "") = decide (p.cps.toList = []) := by
  have e : Str.ofString "" = (⟨#[]⟩ : Str) := by decide +kernel
  rw [e, Bool.eq_iff_iff, beq_iff_eq, decide_eq_true_eq]
  constructor
  · intro h; subst h; rfl
  · intro h; apply Str.ext'; simpa using h
theorem head_free {l : List Nat} (h : 34 ∉ l) (B : List Nat) (hl : l ≠ []) : (l ++ B).head? ≠ some 34 := by
  cases l with
  | nil => exact absurd rfl hl
  | cons a r => intro e; simp at e; subst e; exact h List.mem_cons_self
theorem trimHead_J : ∀ (R : List Str), R ≠ [] → (∀ p ∈ R, 34 ∉ p.cps.toList) → headQ (qJ R) = qJ (trimHead R)
  | [p], _, hf => by
    have hp : 34 ∉ p.cps.toList := hf p List.mem_cons_self
    unfold trimHead headQ
    rw [if_neg (show ¬ (qJ [p]).head? = some 34 from fun e => hp (List.mem_of_mem_head? e)), if_neg (fun h => by have := h.1; simp at this)]
  | p :: r :: t, _, hf => by
    have hp : 34 ∉ p.cps.toList := hf p List.mem_cons_self
    rw [qJ_two]
    unfold trimHead headQ
    have e0 : (p :: r :: t).getD (Int.toNat 0) Str.empty = p := rfl
    rw [e0, beq_empty]
    by_cases h : p.cps.toList = []
    · rw [h, if_pos (by rfl), if_pos ⟨by simp only [List.length_cons]; omega, by simp⟩, pick_tl _ (by simp)]
      rfl
    · rw [if_neg (head_free hp _ h), if_neg (fun hh => h (by simpa using hh.2)), qJ_two]
theorem qJ_snoc (z : Str) : ∀ (R : List Str), R ≠ [] → qJ (R ++ [z]) = qJ R ++ 34 :: z.cps.toList
  | [p], _ => by rw [show [p] ++ [z] = [p, z] from rfl, qJ_two]; rfl
  | p :: r :: t, _ => by
    have ih := qJ_snoc z (r :: t) (by simp)
    rw [show (p :: r :: t) ++ [z] = p :: r :: (t ++ [z]) from rfl, qJ_two, qJ_two, show r :: (t ++ [z]) = (r :: t) ++ [z] from rfl, ih]
    simp
theorem trimLast_J (R : List Str) (hne : R ≠ []) (hf : ∀ p ∈ R, 34 ∉ p.cps.toList) : lastQ (qJ R) = qJ (trimLast R) := by
  obtain ⟨I, z, rfl⟩ : ∃ I z, R = I ++ [z] := ⟨R.dropLast, R.getLast hne, (List.dropLast_concat_getLast hne).symm⟩
  have hz : 34 ∉ z.cps.toList := hf z (by simp)
  cases I with
  | nil =>
    unfold trimLast lastQ
    rw [if_neg (show ¬ (qJ ([] ++ [z])).getLast? = some 34 from fun e => hz (List.mem_of_getLast? e)), if_neg (fun h => by have := h.1; simp at this)]
  | cons a I =>
    rw [qJ_snoc z (a :: I) (by simp)]
    unfold trimLast lastQ
    have e0 : ((a :: I) ++ [z]).getD (-1 + (((a :: I) ++ [z]).length : Int)).toNat Str.empty = z := by
      rw [show (-1 + (((a :: I) ++ [z]).length : Int)).toNat = (a :: I).length by simp; omega]
      simp
    rw [e0, beq_empty]
    by_cases h : z.cps.toList = []
    · rw [h, if_pos (by simp), if_pos ⟨by simp; omega, by simp⟩, pick_init _ (by simp), show ((a :: I) ++ [z]).dropLast = a :: I from List.dropLast_concat]
      simp
    · rw [if_neg (fun e => ?_), if_neg (fun hh => h (by simpa using hh.2)), qJ_snoc z (a :: I) (by simp)]
      rw [List.getLast?_append, List.getLast?_cons] at e
      obtain ⟨ll, zz, hzz⟩ : ∃ ll zz, z.cps.toList = ll ++ [zz] := ⟨z.cps.toList.dropLast, z.cps.toList.getLast h, (List.dropLast_concat_getLast h).symm⟩
      rw [hzz] at e hz
      simp at e
      subst e
      exact hz (by simp)
theorem split_ne (x : Str) : Txt.split x (Str.ofString "\"") ≠ [] := by
  unfold Txt.split
  split
  · simp
  · split
    · simp
    · intro h
      have h2 := congrArg List.length h
      rw [length_partsBetween] at h2
      simp at h2
theorem trimHead_ok (R : List Str) (hne : R ≠ []) (hf : ∀ p ∈ R, 34 ∉ p.cps.toList) : trimHead R ≠ [] ∧ ∀ p ∈ trimHead R, 34 ∉ p.cps.toList := by
  unfold trimHead
  split
  · rename_i h
    have h1 := h.1
    rw [pick_tl R (by omega)]
    refine ⟨fun e => ?_, fun p hp => hf p (List.mem_of_mem_drop hp)⟩
    have := congrArg List.length e
    simp at this
    omega
  · exact ⟨hne, hf⟩
theorem strip_bare (x : Str) : stripQ x = bareF x := by
  apply Str.ext'
  apply Array.toList_inj.mp
  rw [strip_list]
  have hj : Str.join (Str.ofString "\"") (Txt.split x (Str.ofString "\"")) = x := StrLaws.join_split x _
  have hf : ∀ p ∈ Txt.split x (Str.ofString "\""), 34 ∉ p.cps.toList := by rw [quote_is]; exact StrLaws.split_free x 34
  have hne : Txt.split x (Str.ofString "\"") ≠ [] := split_ne x
  have ho := trimHead_ok _ hne hf
  have e1 := trimHead_J _ hne hf
  rw [show qJ (Txt.split x (Str.ofString "\"")) = x.cps.toList from by rw [qJ, hj]] at e1
  rw [e1, trimLast_J _ ho.1 ho.2]
  unfold bareF Txt.join
  rw [StrLaws.glued_eq_join]
end Mine
end

section
open PySem PySem.W PyProof.Rows PySem.Calls
namespace Mine
theorem J_join : ∀ (P : List Str), P ≠ [] → J (P.map (·.cps.toList)) = (Str.join slash P).cps.toList
  | [p], _ => rfl
  | p :: q :: r, _ => by
    have ih := J_join (q :: r) (by simp)
    have e : slash.cps.toList = [47] := by decide +kernel
    show p.cps.toList ++ 47 :: J ((q :: r).map (·.cps.toList)) = ((p ++ slash ++ Str.join slash (q :: r)).cps).toList
    rw [ih, Str.cps_append, Str.cps_append, Array.toList_append, Array.toList_append, e, List.append_assoc]
    rfl
theorem split_neS (x : Str) : Txt.split x slash ≠ [] := by
  unfold Txt.split
  split
  · simp
  · split
    · simp
    · intro h
      have h2 := congrArg List.length h
      rw [length_partsBetween] at h2
      simp at h2
theorem law_plain (x : Str) : takenF x.length x 0 = (dueL x, dueR x) := by
  have hj : Str.join slash (Txt.split x slash) = x := StrLaws.join_split x _
  have hf : ∀ p ∈ Txt.split x slash, 47 ∉ p.cps.toList := by
    show ∀ p ∈ Txt.split x (Str.ofString "/"), 47 ∉ p.cps.toList
    rw [slash_is]; exact StrLaws.split_free x 47
  have hne := split_neS x
  have eJ := J_join _ hne
  rw [hj] at eJ
  have h := taken_J x.length [] ((Txt.split x slash).map (·.cps.toList)) (by simpa using hne) (fun p hp => by
    obtain ⟨q, hq, rfl⟩ := List.mem_map.mp hp
    exact hf q hq) (by rw [eJ]; simp [Str.length])
  rw [eJ] at h
  have hx : (⟨([] ++ x.cps.toList).toArray⟩ : Str) = x := Str.ext' (by simp)
  rw [hx] at h
  have hd := due_pieces _ hne
  have hlen : 1 ≤ (Txt.split x slash).length := by
    cases e : Txt.split x slash with
    | nil => exact absurd e hne
    | cons a r => simp
  have hp : pairsOf x = (((Txt.split x slash).length - 1) / 2 : Nat) := by
    unfold pairsOf piecesOf
    rw [Int.fdiv_eq_ediv_of_nonneg _ (by decide)]
    omega
  have hb : (stripQ : Str → Str) = bareF := funext strip_bare
  have hL : dueL x = (altL ((Txt.split x slash).map (fun (y : Str) => y.cps.toList))).1 := by
    rw [← hd.1, hb]
    unfold dueL
    rw [hp, piecesOf, pick_odd _ _ (by omega)]
  have hR : dueR x = ⟨([] ++ (altL ((Txt.split x slash).map (fun (y : Str) => y.cps.toList))).2).toArray⟩ := by
    rw [← hd.2]
    unfold dueR Txt.join
    rw [hp, piecesOf, StrLaws.glued_eq_join, pick_even _ _ (by omega), pick_tail _ _ (by omega)]
    exact Str.ext' (by simp)
  rw [hL, hR]
  exact h
end Mine
end

section
open PySem PySem.W PyProof.Rows PySem.Calls
namespace Mine
theorem rest_B9a : True ∧ True := by
  (try (walk1; fail "no walk"))
  w_top off
  exact ⟨trivial, trivial⟩
section
variable {w : World} {p : Program} {loose : List Str} {mean : ExcName → Option Value} {mg mb : Str → Option Value} {dp un : Nat} {gd : Option (List Code)} {cn : Str} {cs : Scope} {a' : Addr} {ccd : Value} {cl : List (Str × Addr)} {outer : List Env} {A₀ : Around} {base h₀ : Heap} {L : Addr} {m : Str → Option Value} {s : Shared} {Q E : Value → Shared → Prop}
theorem tr_out {x : Str} {a : Addr} {all : List (Addr × Obj)} (F : Fr h₀ L s.heap m) (N : News h₀ L s.heap all)
    (h : ∀ D h' tk t1 t2 n, Fr h₀ L h' m → News h₀ L h' ((D, listOf #[.str x t1, .ref a, .str x t2] n) :: all) → LCg.Off1 D all → Q (.ref D) { s with heap := h', toks := tk }) : RTr x a s Q :=
  fun D h' tk t1 t2 n hf K hg => h D h' tk t1 t2 n (K.fr (news := []) F News.nil rfl) (new_one F hf hg (K.news N (fun _ _ h => nomatch h))) (off_of N hf)
theorem tr_call1 {all : List (Addr × Obj)} (t t2 : Tok) (a : Addr) (B : Below A₀ base outer h₀) (F : Fr h₀ L s.heap m) (K : (Mine.hd.heap_39 w.params).In h₀) (N : News h₀ L s.heap all) (T : Top p loose mean mg mb h₀) (hk : cs.kind = .function)
    (c1 : CodeHd base 87 83) (c2 : CodeHd base 68 64) (hd : dp + 3 < recursionLimit) (hu : un + 20 < cLine)
    (h : ∀ D h' tk t1 t2 n, Fr h₀ L h' m → News h₀ L h' ((D, listOf #[.str (Str.ofString "/") t1, .ref a, .str (Str.ofString "/") t2] n) :: all) → LCg.Off1 D all → Q (.ref D) { s with heap := h', toks := tk }) :
    wpAny (model PySem.Challenge.rw_ij0014_01.row.prog w) (ktrTop dp un gd cn cs L a' ccd cl outer) (call (.ref 69) [.str (Str.ofString "/*/") t, .ref a, .str (Str.ofString ".") t2]) Q E s :=
  tr1_spec t t2 a _ _ _ _ _ _ _ _ _ _ _ _ _ _ _ _ _ B F K (fun _ h => nomatch h) T hk c1 c2 hd hu trivial (tr_out F N h)
theorem tr_call3 {all : List (Addr × Obj)} (t t2 : Tok) (a : Addr) (B : Below A₀ base outer h₀) (F : Fr h₀ L s.heap m) (K : (Mine.hd.heap_39 w.params).In h₀) (N : News h₀ L s.heap all) (T : Top p loose mean mg mb h₀) (hk : cs.kind = .function)
    (c1 : CodeHd base 87 83) (c2 : CodeHd base 68 64) (hd : dp + 3 < recursionLimit) (hu : un + 20 < cLine)
    (h : ∀ D h' tk t1 t2 n, Fr h₀ L h' m → News h₀ L h' ((D, listOf #[.str (Str.ofString "/") t1, .ref a, .str (Str.ofString "/") t2] n) :: all) → LCg.Off1 D all → Q (.ref D) { s with heap := h', toks := tk }) :
    wpAny (model PySem.Challenge.rw_ij0014_01.row.prog w) (ktrTop dp un gd cn cs L a' ccd cl outer) (call (.ref 69) [.str (Str.ofString "/***/") t, .ref a, .str (Str.ofString ".") t2]) Q E s :=
  tr3_spec t t2 a _ _ _ _ _ _ _ _ _ _ _ _ _ _ _ _ _ B F K (fun _ h => nomatch h) T hk c1 c2 hd hu trivial (tr_out F N h)
theorem tr_call2 {p1 p2 p3 p4 p5 : Addr × Obj} (t t2 : Tok) (a : Addr) (B : Below A₀ base outer h₀) (F : Fr h₀ L s.heap m) (K : (Mine.hd.heap_39 w.params).In h₀) (N : News h₀ L s.heap [p1, p2, p3, p4, p5, (64, tabObj #[])]) (o : LCg.Off1 64 [p1, p2, p3, p4, p5]) (T : Top p loose mean mg mb h₀) (hk : cs.kind = .function)
    (c1 : CodeHd base 87 83) (c2 : CodeHd base 68 64) (hd : dp + 3 < recursionLimit) (hu : un + 20 < cLine)
    (h : ∀ D h' tk t1 t2 n ps, Fr h₀ L h' m → News h₀ L h' [(D, listOf #[.str (Str.ofString "[/]") t1, .ref a, .str (Str.ofString "[/]") t2] n), p1, p2, p3, p4, p5, (64, tabObj ps)] → LCg.Off1 D [p1, p2, p3, p4, p5, (64, tabObj #[])] → Q (.ref D) { s with heap := h', toks := tk }) :
    wpAny (model PySem.Challenge.rw_ij0014_01.row.prog w) (ktrTop dp un gd cn cs L a' ccd cl outer) (call (.ref 69) [.str (Str.ofString "[/]*[/]") t, .ref a, .str (Str.ofString ".") t2]) Q E s := by
  have N64 : News h₀ L s.heap [(64, tabObj #[])] := fun q hq => N q (by rw [List.mem_singleton.mp hq]; simp)
  have NR : News h₀ L s.heap [p1, p2, p3, p4, p5] := fun q hq => N q (by
    simp only [List.mem_cons, List.not_mem_nil, or_false] at hq ⊢
    rcases hq with h | h | h | h | h <;> simp [h])
  refine tr2_spec t t2 a _ _ _ _ _ _ _ _ _ _ _ _ _ _ _ _ _ B F K N64 T hk c1 c2 hd hu trivial ?_
  intro D h' tk t1 t2 n ps hf K' h64 hg
  have F' : Fr h₀ L h' m := K'.fr F N64 rfl
  have NR' : News h₀ L h' [p1, p2, p3, p4, p5] := K'.news NR fun q hq => by
    rw [List.mem_singleton]
    exact mem_out (q := ((64 : Addr), tabObj #[])) o hq
  have NN := new_one F hf hg NR'
  refine h D h' tk t1 t2 n ps F' (fun q hq => ?_) (off_of N hf)
  by_cases hq64 : q = (64, tabObj ps)
  · subst hq64
    exact ⟨h64, (N64 _ List.mem_cons_self).2⟩
  · refine NN q ?_
    simp only [List.mem_cons, List.not_mem_nil, or_false] at hq ⊢
    rcases hq with h | h | h | h | h | h | h
    all_goals first | exact absurd h hq64 | simp [h]
/-- _law_taken in the law's frame: only what is needed is kept of the ledger -/
theorem taken_call {all : List (Addr × Obj)} {ps64 : Array Value} (pt : Str) (hpt : Txt.stripChars pt (Str.ofString "[]") = Str.ofString "/") (hpl : pt.length ≤ 10) (x : Str) (t t1 t2 : Tok) (D a : Addr) (n : Nat) (hD83 : @Ne Nat D 83) (hx : x.length ≤ 100)
    (B : Below A₀ base outer h₀) (F : Fr h₀ L s.heap m) (K : (Mine.hd.heap_39 w.params).In h₀) (N : News h₀ L s.heap all) (hD : (D, listOf #[.str pt t1, .ref a, .str pt t2] n) ∈ all) (h8 : ((83 : Addr), tabObj #[]) ∈ all) (h6 : ((64 : Addr), tabObj ps64) ∈ all) (T : Top p loose mean mg mb h₀) (hk : cs.kind = .function)
    (c1 : CodeHd base 87 83) (c2 : CodeHd base 68 64) (hd : dp + 6 < recursionLimit) (hu : un + 140 < cLine)
    (h : ∀ T S h' tk ws k t k2 oT ps, Fr h₀ L h' m → oT.cls = .type "tuple" → oT.data = .seq #[.ref S, .str (dueR x) t] k2 → News h₀ L h' [(T, oT), (S, listOf (List.toArray ws) k), (83, tabObj ps), (64, tabObj ps64)] → @Ne Nat T S → StrsAre ws (dueL x) → Q (.ref T) { s with heap := h', toks := tk }) :
    wpAny (model PySem.Challenge.rw_ij0014_01.row.prog w) (ktrTop dp un gd cn cs L a' ccd cl outer) (call (.ref 95) [.ref D, .ref a, .str x t]) Q E s := by
  have N2 : News h₀ L s.heap [(D, listOf #[.str pt t1, .ref a, .str pt t2] n), (83, tabObj #[])] := fun q hq => N q (by
    rcases List.mem_cons.mp hq with rfl | hq
    · exact hD
    · rw [List.mem_singleton.mp hq]; exact h8)
  refine taken_spec pt hpt hpl x t t1 t2 D a n hD83 hx _ _ _ _ _ _ _ _ _ _ _ _ _ _ _ _ _ B F K N2 T hk c1 c2 hd hu trivial ?_
  intro T S h' tk ws k t oT ps fT fS hTS K' gT hc hdat gS hI g8
  obtain ⟨k2, hdat⟩ := hdat
  rw [law_plain] at hdat hI
  have N8 : News h₀ L s.heap [(83, tabObj #[])] := fun q hq => N q (by rw [List.mem_singleton.mp hq]; exact h8)
  have F' : Fr h₀ L h' m := K'.fr F N8 rfl
  have N64' : News h₀ L h' [(64, tabObj ps64)] := K'.news (fun q hq => N q (by rw [List.mem_singleton.mp hq]; exact h6)) fun q hq => by rw [List.mem_singleton.mp hq]; show ¬ (64 : Nat) ∈ [83]; decide
  have N8' : News h₀ L h' ((83, tabObj ps) :: [(64, tabObj ps64)]) := fun q hq => by
    rcases List.mem_cons.mp hq with rfl | hq
    · exact ⟨g8, (N8 _ List.mem_cons_self).2⟩
    · exact N64' q hq
  exact h T S h' tk ws k t k2 oT ps F' hc hdat (new_one F fT gT (new_one F fS gS N8')) hTS hI
theorem due_call {all : List (Addr × Obj)} (x : Str) (t : Tok) (hx : x.length ≤ 1000) (B : Below A₀ base outer h₀) (F : Fr h₀ L s.heap m) (K : (Mine.hd.heap_39 w.params).In h₀) (N : News h₀ L s.heap all) (T : Top p loose mean mg mb h₀) (hk : cs.kind = .function)
    (c1 : CodeHd base 87 83) (c2 : CodeHd base 68 64) (hd : dp + 3 < recursionLimit) (hu : un + 100 < cLine)
    (h : ∀ T D h' tk ws t k2 oT, Fr h₀ L h' m → oT.cls = .type "tuple" → oT.data = .seq #[.ref D, .str (dueR x) t] k2 → News h₀ L h' ((T, oT) :: (D, LCg.lst ws) :: all) → @Ne Nat T D → LCg.Off1 T all → LCg.Off1 D all → StrsAre ws (dueL x) → Q (.ref T) { s with heap := h', toks := tk }) :
    wpAny (model PySem.Challenge.rw_ij0014_01.row.prog w) (ktrTop dp un gd cn cs L a' ccd cl outer) (call (.ref 107) [.str x t]) Q E s := by
  refine due_spec x t hx _ _ _ _ _ _ _ _ _ _ _ _ _ _ _ _ _ B F K (fun _ h => nomatch h) T hk c1 c2 hd hu trivial ?_
  intro T D h' tk ws t oT fT fD hTD K' gT hc hdat gD hI
  obtain ⟨k2, hdat⟩ := hdat
  exact h T D h' tk ws t k2 oT (K'.fr (news := []) F News.nil rfl) hc hdat (new_one F fT gT (new_one F fD gD (K'.news N (fun _ _ h => nomatch h)))) hTD (off_of N fT) (off_of N fD) hI
end
end Mine
end

section
open PySem PySem.W PyProof.Rows PySem.Calls PySem.SeqAt
namespace Mine
theorem rest_B9b : True ∧ True := by
  (try (walk1; fail "no walk"))
  w_top off
  exact ⟨trivial, trivial⟩
section
variable {h : Heap}
theorem readsAll_strs : ∀ {vs : List Value} {xs : List Str}, StrsAre vs xs → ReadsAll h vs (xs.map PyData.str) []
  | _, _, .nil => .nil
  | _, _, .cons x t r => by
    have := ReadsAll.cons (Reads.str (h := h) x t) (readsAll_strs r)
    simpa using this
theorem canLay_strs : ∀ xs : List Str, (∀ x ∈ xs, PyData.strOk x = true) → PyData.canLayAll0 (xs.map PyData.str) = true
  | [], _ => by simp [PyData.canLayAll0]
  | x :: r, hx => by
    have h1 := hx x List.mem_cons_self
    simp [PyData.canLayAll0, PyData.canLay0, h1, canLay_strs r fun y hy => hx y (List.mem_cons_of_mem _ hy)]
theorem depth_strs : ∀ xs : List Str, PyData.depthAll (xs.map PyData.str) ≤ 1
  | [] => by simp [PyData.depthAll]
  | x :: r => by
    have := depth_strs r
    simp only [List.map_cons, PyData.depthAll, PyData.depth]
    omega
theorem same_strs : ∀ xs : List Str, PySem.Spec.sameAll (xs.map PyData.str) (xs.map PyData.str) = true
  | [] => by simp [PySem.Spec.sameAll]
  | x :: r => by simp [PySem.Spec.sameAll, PySem.Spec.same, same_strs r]
theorem noMix_strs : ∀ xs : List Str, noMixAll (xs.map PyData.str) (xs.map PyData.str) = true
  | [] => by simp [noMixAll]
  | x :: r => by simp [noMixAll, noMix, noMix_strs r]
abbrev ansOf (xs : List Str) (r : Str) : PyData := .tuple [.list (xs.map PyData.str), .str r]
theorem ans_shaped {xs : List Str} {r : Str} (hx : ∀ x ∈ xs, PyData.strOk x = true) (hr : PyData.strOk r = true) : shaped (ansOf xs r) = true := by
  have h1 := canLay_strs xs hx
  have h2 := depth_strs xs
  show (PyData.canLay0 (ansOf xs r) && decide (PyData.depth (ansOf xs r) ≤ 64)) = true
  rw [Bool.and_eq_true]
  refine ⟨by simp [PyData.canLay0, PyData.canLayAll0, h1, hr], decide_eq_true ?_⟩
  simp only [PyData.depth, PyData.depthAll]
  omega
theorem ans_same (xs : List Str) (r : Str) : PySem.Spec.same (ansOf xs r) (ansOf xs r) = true := by
  simp [PySem.Spec.same, PySem.Spec.sameAll, same_strs]
theorem ans_noMix (xs : List Str) (r : Str) : noMix (ansOf xs r) (ansOf xs r) = true := by
  simp [noMix, noMixAll, noMix_strs]
theorem ans_reads {T S : Addr} {oT : Obj} {ws : List Value} {xs : List Str} {r : Str} {t : Tok} {k k2 : Nat} (hT : h.get? T = some oT) (hc : oT.cls = .type "tuple") (hd : oT.data = .seq #[.ref S, .str r t] k2)
    (hS : h.get? S = some (listOf (List.toArray ws) k)) (hI : StrsAre ws xs) : ∃ as, Reads h (.ref T) (ansOf xs r) as := by
  have h1 : Reads h (.ref S) (.list (xs.map PyData.str)) [S] := reads_list_at hS rfl rfl (by simpa using readsAll_strs hI)
  exact ⟨_, reads_tuple_at hT hc hd (ReadsAll.cons h1 (ReadsAll.cons (Reads.str r t) ReadsAll.nil))⟩
end
section
variable {prog : Program} {w : World} {A : Around} {E : Value → Shared → Prop} {s : Shared} {Q : Value → Shared → Prop}
theorem ans_eq {T1 T2 S1 S2 : Addr} {o1 o2 : Obj} {w1 w2 : List Value} {xs : List Str} {r : Str} {t1 t2 : Tok} {k1 k2 j1 j2 : Nat} (hx : ∀ x ∈ xs, PyData.strOk x = true) (hr : PyData.strOk r = true)
    (hT : s.heap.get? T1 = some o1) (hc : o1.cls = .type "tuple") (hd : o1.data = .seq #[.ref S1, .str r t1] k1) (hS : s.heap.get? S1 = some (listOf (List.toArray w1) j1)) (hI : StrsAre w1 xs)
    (hT2 : s.heap.get? T2 = some o2) (hc2 : o2.cls = .type "tuple") (hd2 : o2.data = .seq #[.ref S2, .str r t2] k2) (hS2 : s.heap.get? S2 = some (listOf (List.toArray w2) j2)) (hI2 : StrsAre w2 xs)
    (hu : A.units + 64 < cLine) (h : Q (.bool true) s) : wpAny (model prog w) A (compareOp .Eq (.ref T1) (.ref T2)) Q E s := by
  obtain ⟨as, r1⟩ := ans_reads hT hc hd hS hI
  obtain ⟨bs, r2⟩ := ans_reads hT2 hc2 hd2 hS2 hI2
  exact eq_dataH_same r1 r2 (ans_shaped hx hr) (ans_shaped hx hr) hu (ans_noMix xs r) (by rw [ans_same]; exact h)
end
theorem ok_sub {x y : Str} (hy : PyData.strOk y = true) (h : ∀ c ∈ x.cps.toList, c ∈ y.cps.toList) : PyData.strOk x = true := by
  rw [ok_iff] at *
  exact fun c hc => hy c (h c hc)
theorem headQ_sub {l : List Nat} {c : Nat} (h : c ∈ headQ l) : c ∈ l := by
  unfold headQ at h
  split at h
  · exact List.mem_of_mem_drop h
  · exact h
theorem lastQ_sub {l : List Nat} {c : Nat} (h : c ∈ lastQ l) : c ∈ l := by
  unfold lastQ at h
  split at h
  · exact List.dropLast_subset _ h
  · exact h
theorem mem_join {sep p : Str} {c : Nat} : ∀ {ps : List Str}, p ∈ ps → c ∈ p.cps.toList → c ∈ (Str.join sep ps).cps.toList
  | [q], hp, hc => by rw [List.mem_singleton.mp hp] at hc; exact hc
  | q :: r :: t, hp, hc => by
    show c ∈ ((q ++ sep ++ Str.join sep (r :: t)).cps).toList
    rw [Str.cps_append, Array.toList_append, List.mem_append]
    rcases List.mem_cons.mp hp with rfl | hp
    · left
      rw [Str.cps_append, Array.toList_append, List.mem_append]
      exact .inl hc
    · exact .inr (mem_join hp hc)
theorem ok_pieces {x : Str} (hx : PyData.strOk x = true) : ∀ p ∈ piecesOf x, PyData.strOk p = true := fun p hp => ok_sub hx fun c hc => by
  have := mem_join (sep := slash) hp hc
  rw [piecesOf, show Str.join slash (Txt.split x slash) = x from StrLaws.join_split x _] at this
  exact this
theorem pick_mem {α : Type} {xs : List α} {lo hi st : Option Int} {a : α} (h : a ∈ pickL xs lo hi st) : a ∈ xs := by
  obtain ⟨i, _, hi'⟩ := List.mem_filterMap.mp h
  exact List.mem_of_getElem? hi'
theorem ok_dueL {x : Str} (hx : PyData.strOk x = true) : ∀ p ∈ dueL x, PyData.strOk p = true := fun p hp => by
  obtain ⟨q, hq, rfl⟩ := List.mem_map.mp hp
  rw [← strip_bare]
  refine ok_sub (ok_pieces hx q (pick_mem hq)) fun c hc => ?_
  rw [strip_list] at hc
  exact headQ_sub (lastQ_sub hc)
theorem ok_dueR {x : Str} (hx : PyData.strOk x = true) : PyData.strOk (dueR x) = true := by
  unfold dueR Txt.join
  rw [StrLaws.glued_eq_join]
  refine ok_join (by decide +kernel) fun p hp => ?_
  rcases List.mem_append.mp hp with hp | hp
  · exact ok_pieces hx p (pick_mem hp)
  · obtain ⟨q, hq, rfl⟩ := List.mem_map.mp hp
    exact ok_append (by decide +kernel) (ok_pieces hx q (pick_mem hq))
end Mine
end

section
open PySem PySem.W PyProof.Rows PySem.Calls
namespace Mine
theorem rest_B9 : True ∧ True := by
  (try (walk1; fail "no walk"))
  w_top off
  exact ⟨trivial, trivial⟩
local macro_rules | `(tactic| walk_at "call ref") => `(tactic| (k_here; (with_reducible show wpAny _ _ (call (Value.ref 76) _) _ _ _); k_dflt (refine' text_spec _ _ _ ?hi ?hl _ _ _ _ _ _ _ _ _ _ _ _ _ _ _ _ _ _ _ ?B ?F ?K ?N ?T ?k ?c1 ?c2 ?d ?u ?_; (case hi => l_ints); (case hl => first | assumption | omega | (simp; omega)); (case B => k_asm); (case F => k_asm); (case K => k_asm); (case N => k_asm); (case T => k_asm); (case k => exact rfl); (case c1 => k_asm); (case c2 => k_asm); (case d => ktr_room); (case u => ktr_units); k_whole); intro x9 t9 h' tk' hx9 ho9 F' N'))
local macro_rules | `(tactic| walk_at "call ref") => `(tactic| (k_here; (with_reducible show wpAny _ _ (call (Value.ref 69) _) _ _ _); k_dflt ((first | refine' tr_call1 _ _ _ ?B ?F ?K ?N ?T ?k ?c1 ?c2 ?d ?u ?_ | refine' tr_call3 _ _ _ ?B ?F ?K ?N ?T ?k ?c1 ?c2 ?d ?u ?_); (case B => k_asm); (case F => k_asm); (case K => k_asm); (case N => k_asm); (case T => k_asm); (case k => exact rfl); (case c1 => k_asm); (case c2 => k_asm); (case d => ktr_room); (case u => ktr_units); k_whole); intro D9 h' tk' t1' t2' n9 F' N' o1'; (try simp only [LCg.Off1, and_true] at o1')))
local macro_rules | `(tactic| walk_at "call ref") => `(tactic| (k_here; (with_reducible show wpAny _ _ (call (Value.ref 69) _) _ _ _); k_dflt (refine' tr_call2 _ _ _ ?B ?F ?K ?N ?o ?T ?k ?c1 ?c2 ?d ?u ?_; (case B => k_asm); (case F => k_asm); (case K => k_asm); (case N => k_asm); (case T => k_asm); (case k => exact rfl); (case c1 => k_asm); (case c2 => k_asm); (case d => ktr_room); (case u => ktr_units); (case o => exact ⟨by k_ne, by k_ne, by k_ne, by k_ne, by k_ne, trivial⟩); k_whole); intro D9 h' tk' t1' t2' n9 ps9 F' N' o1'; (try simp only [LCg.Off1, and_true] at o1')))
local macro_rules | `(tactic| walk_at "call ref") => `(tactic| (k_here; (with_reducible show wpAny _ _ (call (Value.ref 95) _) _ _ _); k_dflt (refine' taken_call _ ?h1 ?h2 _ _ _ _ _ _ _ ?h3 ?x ?B ?F ?K ?N ?hD ?h8 ?h6 ?T ?k ?c1 ?c2 ?d ?u ?_; (case B => k_asm); (case F => k_asm); (case K => k_asm); (case N => k_asm); (case T => k_asm); (case k => exact rfl); (case c1 => k_asm); (case c2 => k_asm); (case d => ktr_room); (case u => ktr_units); (case hD => k_mem); (case h1 => decide +kernel); (case h2 => decide +kernel); (case h3 => first | k_ne | exact Ne.symm (by k_ne)); (case x => omega); (case h8 => k_mem); (case h6 => k_mem); k_whole); intro T9 S9 h' tk' ws9 k9 t9 k29 oT9 ps9 F' hc9 hd9 N' ne9 hI9))
local macro_rules | `(tactic| walk_at "call ref") => `(tactic| (k_here; (with_reducible show wpAny _ _ (call (Value.ref 107) _) _ _ _); k_dflt (refine' due_call _ _ ?x ?B ?F ?K ?N ?T ?k ?c1 ?c2 ?d ?u ?_; (case B => k_asm); (case F => k_asm); (case K => k_asm); (case N => k_asm); (case T => k_asm); (case k => exact rfl); (case c1 => k_asm); (case c2 => k_asm); (case d => ktr_room); (case u => ktr_units); (case x => omega); k_whole); intro T8 D8 h' tk' ws8 t8 k28 oT8 F' hc8 hd8 N' ne8 o1' o2' hI8; (try simp only [LCg.Off1, and_true] at o1' o2')))
local macro_rules | `(tactic| walk_at "compareOp Eq ref ref") => `(tactic| (k_here; k_dflt (refine' ans_eq (ok_dueL (by assumption)) (ok_dueR (by assumption)) ?hT ?hc ?hd ?hS ?hI ?hT2 ?hc2 ?hd2 ?hS2 ?hI2 ?hu ?_; (case hT => exact News.get (by k_asm) (by k_mem)); (case hc => assumption); (case hd => assumption); (case hS => exact News.get (by k_asm) (by k_mem)); (case hI => assumption); (case hT2 => exact News.get (by k_asm) (by k_mem)); (case hc2 => assumption); (case hd2 => assumption); (case hS2 => exact News.get (by k_asm) (by k_mem)); (case hI2 => assumption); (case hu => first | units_room | ktr_units | decide); k_whole)))
set_option maxHeartbeats 16000000 in
theorem t : PySem.Challenge.rw_ij0014_01.Holds := Mine.hd (by
  k_go0
  all_goals try k_fold
  k_steps)
end Mine
end

theorem PySem.Challenge.cw_ij0014_01_holds : PySem.Challenge.rw_ij0014_01.Holds := by
  exact Mine.t
